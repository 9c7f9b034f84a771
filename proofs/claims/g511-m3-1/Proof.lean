import JvmDerived
import JvmDerived.Pilot.@@N@@Statement
import JvmDerived.Pilot.@@N@@Code
set_option linter.unusedVariables false
set_option linter.unusedSimpArgs false
namespace Jvm.OwnKit
open Sem ClassFile Op Lib Jvm.Stand Jvm.Free Jvm.LawKit Jvm.RoadKit
section Walk
variable {p : Program} {l : Launch} {e : Env} {R : Room} {s : State} {m : MethodId} {args : Array Value} {below : List Frame} {meth : Method} {c : Code} {T : State} {locs : List Loc} {cells slots : Nat} {Z : State} {a0 : Array Value} {h : Heap} {G : Outcome → State → Prop}
variable {x0 : MethodName} {code : ByteArray} {maxL : Nat} {ret : Option FieldType}
/-- what is still owed from the frame g on: the run ends, and G holds of the end -/
def Go (tb : Tables) (e : Env) (below : List Frame) (G : Outcome → State → Prop) (T : State) (g : JFrame) : Prop :=
  ∃ s₂ o, Steps tb e below (T.setTop g) s₂ ∧ s₂.status = .running ∧ Ended s₂ below o ∧ G o s₂
theorem Go.step {tb : Tables} {T T' : State} {g g' : JFrame} (q : ∀ t, Steps tb e below (T'.setTop g') t → Steps tb e below (T.setTop g) t) (k : Go tb e below G T' g') : Go tb e below G T g := by
  obtain ⟨s2, o, h1, h2⟩ := k
  exact ⟨s2, o, q _ h1, h2⟩
/-- what stands still while one body is walked -/
def Cx (p : Program) (l : Launch) (s : State) (m : MethodId) (meth : Method) (c : Code) (Z : State) (x0 : MethodName) (code : ByteArray) (maxL : Nat) (ret : Option FieldType) : Prop :=
  p.tables.exec = Jvm.exec ∧ Z.Warmed39 s.vm ∧ c.code = code ∧ c.maxLocals = maxL ∧ s.vm.findClass x0.cls = some m.cls ∧ meth.sig.returnType = ret ∧ meth.locks = false ∧ meth.name = x0.name
theorem Cx.exec (C : Cx p l s m meth c Z x0 code maxL ret) : p.tables.exec = Jvm.exec := C.1
theorem Cx.warm (C : Cx p l s m meth c Z x0 code maxL ret) : Z.Warmed39 s.vm := C.2.1
theorem Cx.bytes (C : Cx p l s m meth c Z x0 code maxL ret) : c.code = code := C.2.2.1
theorem Cx.maxl (C : Cx p l s m meth c Z x0 code maxL ret) : c.maxLocals = maxL := C.2.2.2.1
theorem Cx.own (C : Cx p l s m meth c Z x0 code maxL ret) : s.vm.findClass x0.cls = some m.cls := C.2.2.2.2.1
theorem Cx.rets (C : Cx p l s m meth c Z x0 code maxL ret) : meth.sig.returnType = ret := C.2.2.2.2.2.1
theorem Cx.unlocked (C : Cx p l s m meth c Z x0 code maxL ret) : meth.locks = false := C.2.2.2.2.2.2.1
theorem Cx.nm (C : Cx p l s m meth c Z x0 code maxL ret) : meth.name = x0.name := C.2.2.2.2.2.2.2
theorem Cx.at (C : Cx p l s m meth c Z x0 code maxL ret) {pc : Nat} {r : Except ClassFile.DecodeError (ClassFile.Instr × Nat)} (h2 : decode code pc = r) : decode c.code pc = r := hb C.bytes h2
/-- the end of a walk: what is returned, the heap and the places written answer Q -/
def End (s : State) (Q : Option Value → Heap → List Loc → Prop) (k n : Nat) (o : Outcome) (U : State) : Prop := ∃ v L, o = .returned v ∧ Q v U.heap L ∧ FrameEnd s o U L k n
/-- a body's contract at one call: the arguments as, the heap h -/
def Con (l : Launch) (Z : State) (y : MethodName) (bytes : ByteArray) (maxL : Nat) (ret : Option FieldType) (rm : Room) (as : Array Value) (h : Heap) (Q : Option Value → Heap → List Loc → Prop) : Prop :=
  ∀ ws, MetFree l y (head1 (Cond.code y bytes maxL ret :: ws) rm) (fun a U => a = as ∧ Z.Warmed39 U.vm ∧ U.heap = h) (fun _ _ _ _ _ => True) (fun _ U o U' => End U Q rm.cells rm.slots o U')
theorem con_of_go {rm : Room} {as : Array Value} {Q : Option Value → Heap → List Loc → Prop} {Ls : Array Slot} (hn : plainName x0.cls = true) (hef : ∀ m, entryFrame m as maxL = mkF m 0 Ls [])
    (H : ∀ (p : Program) (e : Env) (s : State) (m : MethodId) (below : List Frame) (meth : Method) (c : Code) (T : State), Cx p l s m meth c Z x0 code maxL ret → Stand p l e rm s m as below meth c T [] 0 0 → T.heap = h → Go p.tables e below (End s Q rm.cells rm.slots) T (mkF m 0 Ls [])) :
    Con l Z x0 code maxL ret rm as h Q := by
  intro ws
  refine MetFree.of_bodySF (plainFor_of_name hn) hisR ?_
  intro p e s m args below meth c s₁ Bd hml hP hK
  obtain ⟨rfl, hZ, hh⟩ := hP
  have X0 : Stand p l e rm s m args below meth c s₁ [] 0 0 := Stand.of_body Bd
  have e0 : s₁.heap = h := by rw [← hh, Bd.state]; rfl
  have q := H p e s m below meth c s₁ ⟨Bd.exec, hZ, Bd.bytes, hml, findClass_of_methodNamed Bd.named, Bd.returns, Bd.notSynchronized, (name_of_methodNamed Bd.named Bd.method).1⟩ X0 e0
  rw [hef]
  exact q
theorem g_aloadN (C : Cx p l s m meth c Z x0 code maxL ret) (X : Stand p l e R s m args below meth c T locs cells slots) {pc pc' : Nat} {Ls : Array Slot} {st : List Value} {k : Fin 4} {v : Value} (hd : decode code pc = .ok (.aload_n k, 1)) (hl : Ls[k.val]? = some (.val v)) (hv : v.isRef = true) (hp : pc + 1 = pc')
    (K : Go p.tables e below G T (mkF m pc' Ls (v :: st))) : Go p.tables e below G T (mkF m pc Ls (st)) := by
  subst hp; exact Go.step (fun _ k => XS.aloadN X.here C.exec rfl (C.at hd) hl hv k) K
theorem g_aload (C : Cx p l s m meth c Z x0 code maxL ret) (X : Stand p l e R s m args below meth c T locs cells slots) {pc pc' : Nat} {Ls : Array Slot} {st : List Value} {k : Nat} {v : Value} (hd : decode code pc = .ok (.aload k, 2)) (hl : Ls[k]? = some (.val v)) (hv : v.isRef = true) (hp : pc + 2 = pc')
    (K : Go p.tables e below G T (mkF m pc' Ls (v :: st))) : Go p.tables e below G T (mkF m pc Ls (st)) := by
  subst hp; exact Go.step (fun _ k => XS.aload X.here C.exec rfl (C.at hd) hl hv k) K
theorem g_iloadN (C : Cx p l s m meth c Z x0 code maxL ret) (X : Stand p l e R s m args below meth c T locs cells slots) {pc pc' : Nat} {Ls : Array Slot} {st : List Value} {k : Fin 4} {v : Int32} (hd : decode code pc = .ok (.iload_n k, 1)) (hl : Ls[k.val]? = some (.val (.int v))) (hp : pc + 1 = pc')
    (K : Go p.tables e below G T (mkF m pc' Ls (.int v :: st))) : Go p.tables e below G T (mkF m pc Ls (st)) := by
  subst hp; exact Go.step (fun _ k => XS.iloadN X.here C.exec rfl (C.at hd) hl k) K
theorem g_iload (C : Cx p l s m meth c Z x0 code maxL ret) (X : Stand p l e R s m args below meth c T locs cells slots) {pc pc' : Nat} {Ls : Array Slot} {st : List Value} {k : Nat} {v : Int32} (hd : decode code pc = .ok (.iload k, 2)) (hl : Ls[k]? = some (.val (.int v))) (hp : pc + 2 = pc')
    (K : Go p.tables e below G T (mkF m pc' Ls (.int v :: st))) : Go p.tables e below G T (mkF m pc Ls (st)) := by
  subst hp; exact Go.step (fun _ k => XS.iload X.here C.exec rfl (C.at hd) hl k) K
theorem g_istoreN (C : Cx p l s m meth c Z x0 code maxL ret) (X : Stand p l e R s m args below meth c T locs cells slots) {pc pc' : Nat} {Ls : Array Slot} {st : List Value} {k : Fin 4} {x y : Int32} {l' : Array Slot} (hd : decode code pc = .ok (.istore_n k, 1)) (hv : x = y) (hl : storeLocals Ls k.val (.int x) = some l') (hp : pc + 1 = pc')
    (K : Go p.tables e below G T (mkF m pc' l' (st))) : Go p.tables e below G T (mkF m pc Ls (.int y :: st)) := by
  subst hp; subst hv; exact Go.step (fun _ k => XS.istoreN X.here C.exec rfl (C.at hd) rfl hl k) K
theorem g_istore (C : Cx p l s m meth c Z x0 code maxL ret) (X : Stand p l e R s m args below meth c T locs cells slots) {pc pc' : Nat} {Ls : Array Slot} {st : List Value} {k : Nat} {x y : Int32} {l' : Array Slot} (hd : decode code pc = .ok (.istore k, 2)) (hv : x = y) (hl : storeLocals Ls k (.int x) = some l') (hp : pc + 2 = pc')
    (K : Go p.tables e below G T (mkF m pc' l' (st))) : Go p.tables e below G T (mkF m pc Ls (.int y :: st)) := by
  subst hp; subst hv; exact Go.step (fun _ k => XS.istore X.here C.exec rfl (C.at hd) rfl hl k) K
theorem g_lloadN (C : Cx p l s m meth c Z x0 code maxL ret) (X : Stand p l e R s m args below meth c T locs cells slots) {pc pc' : Nat} {Ls : Array Slot} {st : List Value} {k : Fin 4} {v : Int64} (hd : decode code pc = .ok (.lload_n k, 1)) (hl : Ls[k.val]? = some (.val (.long v))) (hp : pc + 1 = pc')
    (K : Go p.tables e below G T (mkF m pc' Ls (.long v :: st))) : Go p.tables e below G T (mkF m pc Ls (st)) := by
  subst hp; exact Go.step (fun _ k => XT.lloadN X.here C.exec rfl (C.at hd) hl k) K
theorem g_lload (C : Cx p l s m meth c Z x0 code maxL ret) (X : Stand p l e R s m args below meth c T locs cells slots) {pc pc' : Nat} {Ls : Array Slot} {st : List Value} {k : Nat} {v : Int64} (hd : decode code pc = .ok (.lload k, 2)) (hl : Ls[k]? = some (.val (.long v))) (hp : pc + 2 = pc')
    (K : Go p.tables e below G T (mkF m pc' Ls (.long v :: st))) : Go p.tables e below G T (mkF m pc Ls (st)) := by
  subst hp; exact Go.step (fun _ k => XT.lload X.here C.exec rfl (C.at hd) hl k) K
theorem g_lstoreN (C : Cx p l s m meth c Z x0 code maxL ret) (X : Stand p l e R s m args below meth c T locs cells slots) {pc pc' : Nat} {Ls : Array Slot} {st : List Value} {k : Fin 4} {x y : Int64} {l' : Array Slot} (hd : decode code pc = .ok (.lstore_n k, 1)) (hv : x = y) (hl : storeLocals Ls k.val (.long x) = some l') (hp : pc + 1 = pc')
    (K : Go p.tables e below G T (mkF m pc' l' (st))) : Go p.tables e below G T (mkF m pc Ls (.long y :: st)) := by
  subst hp; subst hv; exact Go.step (fun _ k => XT.lstoreN X.here C.exec rfl (C.at hd) rfl hl k) K
theorem g_lstore (C : Cx p l s m meth c Z x0 code maxL ret) (X : Stand p l e R s m args below meth c T locs cells slots) {pc pc' : Nat} {Ls : Array Slot} {st : List Value} {k : Nat} {x y : Int64} {l' : Array Slot} (hd : decode code pc = .ok (.lstore k, 2)) (hv : x = y) (hl : storeLocals Ls k (.long x) = some l') (hp : pc + 2 = pc')
    (K : Go p.tables e below G T (mkF m pc' l' (st))) : Go p.tables e below G T (mkF m pc Ls (.long y :: st)) := by
  subst hp; subst hv; exact Go.step (fun _ k => XT.lstore X.here C.exec rfl (C.at hd) rfl hl k) K
theorem g_dloadN (C : Cx p l s m meth c Z x0 code maxL ret) (X : Stand p l e R s m args below meth c T locs cells slots) {pc pc' : Nat} {Ls : Array Slot} {st : List Value} {k : Fin 4} {v : UInt64} (hd : decode code pc = .ok (.dload_n k, 1)) (hl : Ls[k.val]? = some (.val (.double v))) (hp : pc + 1 = pc')
    (K : Go p.tables e below G T (mkF m pc' Ls (.double v :: st))) : Go p.tables e below G T (mkF m pc Ls (st)) := by
  subst hp; exact Go.step (fun _ k => XS.dloadN X.here C.exec rfl (C.at hd) hl k) K
theorem g_dload (C : Cx p l s m meth c Z x0 code maxL ret) (X : Stand p l e R s m args below meth c T locs cells slots) {pc pc' : Nat} {Ls : Array Slot} {st : List Value} {k : Nat} {v : UInt64} (hd : decode code pc = .ok (.dload k, 2)) (hl : Ls[k]? = some (.val (.double v))) (hp : pc + 2 = pc')
    (K : Go p.tables e below G T (mkF m pc' Ls (.double v :: st))) : Go p.tables e below G T (mkF m pc Ls (st)) := by
  subst hp; exact Go.step (fun _ k => XS.dload X.here C.exec rfl (C.at hd) hl k) K
theorem g_dstoreN (C : Cx p l s m meth c Z x0 code maxL ret) (X : Stand p l e R s m args below meth c T locs cells slots) {pc pc' : Nat} {Ls : Array Slot} {st : List Value} {k : Fin 4} {x y : UInt64} {l' : Array Slot} (hd : decode code pc = .ok (.dstore_n k, 1)) (hv : x = y) (hl : storeLocals Ls k.val (.double x) = some l') (hp : pc + 1 = pc')
    (K : Go p.tables e below G T (mkF m pc' l' (st))) : Go p.tables e below G T (mkF m pc Ls (.double y :: st)) := by
  subst hp; subst hv; exact Go.step (fun _ k => XS.dstoreN X.here C.exec rfl (C.at hd) rfl hl k) K
theorem g_dstore (C : Cx p l s m meth c Z x0 code maxL ret) (X : Stand p l e R s m args below meth c T locs cells slots) {pc pc' : Nat} {Ls : Array Slot} {st : List Value} {k : Nat} {x y : UInt64} {l' : Array Slot} (hd : decode code pc = .ok (.dstore k, 2)) (hv : x = y) (hl : storeLocals Ls k (.double x) = some l') (hp : pc + 2 = pc')
    (K : Go p.tables e below G T (mkF m pc' l' (st))) : Go p.tables e below G T (mkF m pc Ls (.double y :: st)) := by
  subst hp; subst hv; exact Go.step (fun _ k => XS.dstore X.here C.exec rfl (C.at hd) rfl hl k) K
theorem g_astoreN (C : Cx p l s m meth c Z x0 code maxL ret) (X : Stand p l e R s m args below meth c T locs cells slots) {pc pc' : Nat} {Ls : Array Slot} {st : List Value} {k : Fin 4} {v : Value} {l' : Array Slot} (hd : decode code pc = .ok (.astore_n k, 1)) (hv : v.isRef = true) (hl : storeLocals Ls k.val v = some l') (hp : pc + 1 = pc')
    (K : Go p.tables e below G T (mkF m pc' l' (st))) : Go p.tables e below G T (mkF m pc Ls (v :: st)) := by
  subst hp; exact Go.step (fun _ k => XS.astoreN X.here C.exec rfl (C.at hd) rfl hv hl k) K
theorem g_astore (C : Cx p l s m meth c Z x0 code maxL ret) (X : Stand p l e R s m args below meth c T locs cells slots) {pc pc' : Nat} {Ls : Array Slot} {st : List Value} {k : Nat} {v : Value} {l' : Array Slot} (hd : decode code pc = .ok (.astore k, 2)) (hv : v.isRef = true) (hl : storeLocals Ls k v = some l') (hp : pc + 2 = pc')
    (K : Go p.tables e below G T (mkF m pc' l' (st))) : Go p.tables e below G T (mkF m pc Ls (v :: st)) := by
  subst hp; exact Go.step (fun _ k => XS.astore X.here C.exec rfl (C.at hd) rfl hv hl k) K
theorem g_iconst (C : Cx p l s m meth c Z x0 code maxL ret) (X : Stand p l e R s m args below meth c T locs cells slots) {pc pc' : Nat} {Ls : Array Slot} {st : List Value} {i : Int} {v : Int32} (hd : decode code pc = .ok (.iconst i, 1)) (hv : Int32.ofInt i = v) (hp : pc + 1 = pc')
    (K : Go p.tables e below G T (mkF m pc' Ls (.int v :: st))) : Go p.tables e below G T (mkF m pc Ls (st)) := by
  subst hp; subst hv; exact Go.step (fun _ k => XS.iconst X.here C.exec rfl (C.at hd)  k) K
theorem g_bipush (C : Cx p l s m meth c Z x0 code maxL ret) (X : Stand p l e R s m args below meth c T locs cells slots) {pc pc' : Nat} {Ls : Array Slot} {st : List Value} {i : Int} {v : Int32} (hd : decode code pc = .ok (.bipush i, 2)) (hv : (Int8.ofInt i).toInt32 = v) (hp : pc + 2 = pc')
    (K : Go p.tables e below G T (mkF m pc' Ls (.int v :: st))) : Go p.tables e below G T (mkF m pc Ls (st)) := by
  subst hp; subst hv; exact Go.step (fun _ k => XS.bipush X.here C.exec rfl (C.at hd)  k) K
theorem g_sipush (C : Cx p l s m meth c Z x0 code maxL ret) (X : Stand p l e R s m args below meth c T locs cells slots) {pc pc' : Nat} {Ls : Array Slot} {st : List Value} {i : Int} {v : Int32} (hd : decode code pc = .ok (.sipush i, 3)) (hv : (Int16.ofInt i).toInt32 = v) (hp : pc + 3 = pc')
    (K : Go p.tables e below G T (mkF m pc' Ls (.int v :: st))) : Go p.tables e below G T (mkF m pc Ls (st)) := by
  subst hp; subst hv; exact Go.step (fun _ k => XS.sipush X.here C.exec rfl (C.at hd)  k) K
theorem g_aconstNull (C : Cx p l s m meth c Z x0 code maxL ret) (X : Stand p l e R s m args below meth c T locs cells slots) {pc pc' : Nat} {Ls : Array Slot} {st : List Value}  (hd : decode code pc = .ok (.aconst_null, 1))  (hp : pc + 1 = pc')
    (K : Go p.tables e below G T (mkF m pc' Ls (.null :: st))) : Go p.tables e below G T (mkF m pc Ls (st)) := by
  subst hp; exact Go.step (fun _ k => XS.aconstNull X.here C.exec rfl (C.at hd)  k) K
theorem g_lconst (C : Cx p l s m meth c Z x0 code maxL ret) (X : Stand p l e R s m args below meth c T locs cells slots) {pc pc' : Nat} {Ls : Array Slot} {st : List Value} {k : Fin 2} {v : Int64} (hd : decode code pc = .ok (.lconst k, 1)) (hv : Int64.ofNat k = v) (hp : pc + 1 = pc')
    (K : Go p.tables e below G T (mkF m pc' Ls (.long v :: st))) : Go p.tables e below G T (mkF m pc Ls (st)) := by
  subst hp; subst hv; exact Go.step (fun _ k => XT.lconst X.here C.exec rfl (C.at hd)  k) K
theorem g_dconst0 (C : Cx p l s m meth c Z x0 code maxL ret) (X : Stand p l e R s m args below meth c T locs cells slots) {pc pc' : Nat} {Ls : Array Slot} {st : List Value} {v : UInt64} (hd : decode code pc = .ok (.dconst 0, 1)) (hv : FP.dconst0 = v) (hp : pc + 1 = pc')
    (K : Go p.tables e below G T (mkF m pc' Ls (.double v :: st))) : Go p.tables e below G T (mkF m pc Ls (st)) := by
  subst hp; exact Go.step (fun _ k => XS.dconst0 X.here C.exec rfl (C.at hd) hv k) K
theorem g_dconst1 (C : Cx p l s m meth c Z x0 code maxL ret) (X : Stand p l e R s m args below meth c T locs cells slots) {pc pc' : Nat} {Ls : Array Slot} {st : List Value} {v : UInt64} (hd : decode code pc = .ok (.dconst 1, 1)) (hv : FP.dconst1 = v) (hp : pc + 1 = pc')
    (K : Go p.tables e below G T (mkF m pc' Ls (.double v :: st))) : Go p.tables e below G T (mkF m pc Ls (st)) := by
  subst hp; exact Go.step (fun _ k => XS.dconst1 X.here C.exec rfl (C.at hd) hv k) K
theorem g_iadd (C : Cx p l s m meth c Z x0 code maxL ret) (X : Stand p l e R s m args below meth c T locs cells slots) {pc pc' : Nat} {Ls : Array Slot} {st : List Value} {x y : Int32} (hd : decode code pc = .ok (.iadd, 1))  (hp : pc + 1 = pc')
    (K : Go p.tables e below G T (mkF m pc' Ls (.int (x + y) :: st))) : Go p.tables e below G T (mkF m pc Ls (.int y :: .int x :: st)) := by
  subst hp; exact Go.step (fun _ k => XS.iadd X.here C.exec rfl (C.at hd) rfl k) K
theorem g_isub (C : Cx p l s m meth c Z x0 code maxL ret) (X : Stand p l e R s m args below meth c T locs cells slots) {pc pc' : Nat} {Ls : Array Slot} {st : List Value} {x y : Int32} (hd : decode code pc = .ok (.isub, 1))  (hp : pc + 1 = pc')
    (K : Go p.tables e below G T (mkF m pc' Ls (.int (x - y) :: st))) : Go p.tables e below G T (mkF m pc Ls (.int y :: .int x :: st)) := by
  subst hp; exact Go.step (fun _ k => XS.isub X.here C.exec rfl (C.at hd) rfl k) K
theorem g_iand (C : Cx p l s m meth c Z x0 code maxL ret) (X : Stand p l e R s m args below meth c T locs cells slots) {pc pc' : Nat} {Ls : Array Slot} {st : List Value} {x y : Int32} (hd : decode code pc = .ok (.iand, 1))  (hp : pc + 1 = pc')
    (K : Go p.tables e below G T (mkF m pc' Ls (.int (x &&& y) :: st))) : Go p.tables e below G T (mkF m pc Ls (.int y :: .int x :: st)) := by
  subst hp; exact Go.step (fun _ k => XS.iand X.here C.exec rfl (C.at hd) rfl k) K
theorem g_imul (C : Cx p l s m meth c Z x0 code maxL ret) (X : Stand p l e R s m args below meth c T locs cells slots) {pc pc' : Nat} {Ls : Array Slot} {st : List Value} {x y : Int32} (hd : decode code pc = .ok (.imul, 1))  (hp : pc + 1 = pc')
    (K : Go p.tables e below G T (mkF m pc' Ls (.int (x * y) :: st))) : Go p.tables e below G T (mkF m pc Ls (.int y :: .int x :: st)) := by
  subst hp; exact Go.step (fun _ k => XS.imul X.here C.exec rfl (C.at hd) rfl k) K
theorem g_idiv (C : Cx p l s m meth c Z x0 code maxL ret) (X : Stand p l e R s m args below meth c T locs cells slots) {pc pc' : Nat} {Ls : Array Slot} {st : List Value} {x y : Int32} (hd : decode code pc = .ok (.idiv, 1)) (hy : y ≠ 0) (hp : pc + 1 = pc')
    (K : Go p.tables e below G T (mkF m pc' Ls (.int (x / y) :: st))) : Go p.tables e below G T (mkF m pc Ls (.int y :: .int x :: st)) := by
  subst hp; exact Go.step (fun _ k => XS.idiv X.here C.exec rfl (C.at hd) rfl hy k) K
theorem g_ineg (C : Cx p l s m meth c Z x0 code maxL ret) (X : Stand p l e R s m args below meth c T locs cells slots) {pc pc' : Nat} {Ls : Array Slot} {st : List Value} {x : Int32} (hd : decode code pc = .ok (.ineg, 1))  (hp : pc + 1 = pc')
    (K : Go p.tables e below G T (mkF m pc' Ls (.int (-x) :: st))) : Go p.tables e below G T (mkF m pc Ls (.int x :: st)) := by
  subst hp; exact Go.step (fun _ k => XS.ineg X.here C.exec rfl (C.at hd) rfl k) K
theorem g_ixor (C : Cx p l s m meth c Z x0 code maxL ret) (X : Stand p l e R s m args below meth c T locs cells slots) {pc pc' : Nat} {Ls : Array Slot} {st : List Value} {x y : Int32} (hd : decode code pc = .ok (.ixor, 1))  (hp : pc + 1 = pc')
    (K : Go p.tables e below G T (mkF m pc' Ls (.int (x ^^^ y) :: st))) : Go p.tables e below G T (mkF m pc Ls (.int y :: .int x :: st)) := by
  subst hp; exact Go.step (fun _ k => XT.ixor X.here C.exec rfl (C.at hd) rfl k) K
theorem g_ior (C : Cx p l s m meth c Z x0 code maxL ret) (X : Stand p l e R s m args below meth c T locs cells slots) {pc pc' : Nat} {Ls : Array Slot} {st : List Value} {x y : Int32} (hd : decode code pc = .ok (.ior, 1))  (hp : pc + 1 = pc')
    (K : Go p.tables e below G T (mkF m pc' Ls (.int (x ||| y) :: st))) : Go p.tables e below G T (mkF m pc Ls (.int y :: .int x :: st)) := by
  subst hp; exact Go.step (fun _ k => XT.ior X.here C.exec rfl (C.at hd) rfl k) K
theorem g_ishl (C : Cx p l s m meth c Z x0 code maxL ret) (X : Stand p l e R s m args below meth c T locs cells slots) {pc pc' : Nat} {Ls : Array Slot} {st : List Value} {x y : Int32} (hd : decode code pc = .ok (.ishl, 1))  (hp : pc + 1 = pc')
    (K : Go p.tables e below G T (mkF m pc' Ls (.int (x <<< (y &&& 31)) :: st))) : Go p.tables e below G T (mkF m pc Ls (.int y :: .int x :: st)) := by
  subst hp; exact Go.step (fun _ k => XT.ishl X.here C.exec rfl (C.at hd) rfl k) K
theorem g_ishr (C : Cx p l s m meth c Z x0 code maxL ret) (X : Stand p l e R s m args below meth c T locs cells slots) {pc pc' : Nat} {Ls : Array Slot} {st : List Value} {x y : Int32} (hd : decode code pc = .ok (.ishr, 1))  (hp : pc + 1 = pc')
    (K : Go p.tables e below G T (mkF m pc' Ls (.int (x >>> (y &&& 31)) :: st))) : Go p.tables e below G T (mkF m pc Ls (.int y :: .int x :: st)) := by
  subst hp; exact Go.step (fun _ k => XT.ishr X.here C.exec rfl (C.at hd) rfl k) K
theorem g_iushr (C : Cx p l s m meth c Z x0 code maxL ret) (X : Stand p l e R s m args below meth c T locs cells slots) {pc pc' : Nat} {Ls : Array Slot} {st : List Value} {x y : Int32} (hd : decode code pc = .ok (.iushr, 1))  (hp : pc + 1 = pc')
    (K : Go p.tables e below G T (mkF m pc' Ls (.int (XT.ushr x y) :: st))) : Go p.tables e below G T (mkF m pc Ls (.int y :: .int x :: st)) := by
  subst hp; exact Go.step (fun _ k => XT.iushr X.here C.exec rfl (C.at hd) rfl k) K
theorem g_ladd (C : Cx p l s m meth c Z x0 code maxL ret) (X : Stand p l e R s m args below meth c T locs cells slots) {pc pc' : Nat} {Ls : Array Slot} {st : List Value} {x y : Int64} (hd : decode code pc = .ok (.ladd, 1))  (hp : pc + 1 = pc')
    (K : Go p.tables e below G T (mkF m pc' Ls (.long (x + y) :: st))) : Go p.tables e below G T (mkF m pc Ls (.long y :: .long x :: st)) := by
  subst hp; exact Go.step (fun _ k => XT.ladd X.here C.exec rfl (C.at hd) rfl k) K
theorem g_lsub (C : Cx p l s m meth c Z x0 code maxL ret) (X : Stand p l e R s m args below meth c T locs cells slots) {pc pc' : Nat} {Ls : Array Slot} {st : List Value} {x y : Int64} (hd : decode code pc = .ok (.lsub, 1))  (hp : pc + 1 = pc')
    (K : Go p.tables e below G T (mkF m pc' Ls (.long (x - y) :: st))) : Go p.tables e below G T (mkF m pc Ls (.long y :: .long x :: st)) := by
  subst hp; exact Go.step (fun _ k => XT.lsub X.here C.exec rfl (C.at hd) rfl k) K
theorem g_lmul (C : Cx p l s m meth c Z x0 code maxL ret) (X : Stand p l e R s m args below meth c T locs cells slots) {pc pc' : Nat} {Ls : Array Slot} {st : List Value} {x y : Int64} (hd : decode code pc = .ok (.lmul, 1))  (hp : pc + 1 = pc')
    (K : Go p.tables e below G T (mkF m pc' Ls (.long (x * y) :: st))) : Go p.tables e below G T (mkF m pc Ls (.long y :: .long x :: st)) := by
  subst hp; exact Go.step (fun _ k => XT.lmul X.here C.exec rfl (C.at hd) rfl k) K
theorem g_land (C : Cx p l s m meth c Z x0 code maxL ret) (X : Stand p l e R s m args below meth c T locs cells slots) {pc pc' : Nat} {Ls : Array Slot} {st : List Value} {x y : Int64} (hd : decode code pc = .ok (.land, 1))  (hp : pc + 1 = pc')
    (K : Go p.tables e below G T (mkF m pc' Ls (.long (x &&& y) :: st))) : Go p.tables e below G T (mkF m pc Ls (.long y :: .long x :: st)) := by
  subst hp; exact Go.step (fun _ k => XT.land X.here C.exec rfl (C.at hd) rfl k) K
theorem g_lor (C : Cx p l s m meth c Z x0 code maxL ret) (X : Stand p l e R s m args below meth c T locs cells slots) {pc pc' : Nat} {Ls : Array Slot} {st : List Value} {x y : Int64} (hd : decode code pc = .ok (.lor, 1))  (hp : pc + 1 = pc')
    (K : Go p.tables e below G T (mkF m pc' Ls (.long (x ||| y) :: st))) : Go p.tables e below G T (mkF m pc Ls (.long y :: .long x :: st)) := by
  subst hp; exact Go.step (fun _ k => XT.lor X.here C.exec rfl (C.at hd) rfl k) K
theorem g_lxor (C : Cx p l s m meth c Z x0 code maxL ret) (X : Stand p l e R s m args below meth c T locs cells slots) {pc pc' : Nat} {Ls : Array Slot} {st : List Value} {x y : Int64} (hd : decode code pc = .ok (.lxor, 1))  (hp : pc + 1 = pc')
    (K : Go p.tables e below G T (mkF m pc' Ls (.long (x ^^^ y) :: st))) : Go p.tables e below G T (mkF m pc Ls (.long y :: .long x :: st)) := by
  subst hp; exact Go.step (fun _ k => XT.lxor X.here C.exec rfl (C.at hd) rfl k) K
theorem g_lneg (C : Cx p l s m meth c Z x0 code maxL ret) (X : Stand p l e R s m args below meth c T locs cells slots) {pc pc' : Nat} {Ls : Array Slot} {st : List Value} {x : Int64} (hd : decode code pc = .ok (.lneg, 1))  (hp : pc + 1 = pc')
    (K : Go p.tables e below G T (mkF m pc' Ls (.long (-x) :: st))) : Go p.tables e below G T (mkF m pc Ls (.long x :: st)) := by
  subst hp; exact Go.step (fun _ k => XT.lneg X.here C.exec rfl (C.at hd) rfl k) K
theorem g_i2l (C : Cx p l s m meth c Z x0 code maxL ret) (X : Stand p l e R s m args below meth c T locs cells slots) {pc pc' : Nat} {Ls : Array Slot} {st : List Value} {x : Int32} (hd : decode code pc = .ok (.i2l, 1))  (hp : pc + 1 = pc')
    (K : Go p.tables e below G T (mkF m pc' Ls (.long x.toInt64 :: st))) : Go p.tables e below G T (mkF m pc Ls (.int x :: st)) := by
  subst hp; exact Go.step (fun _ k => XT.i2l X.here C.exec rfl (C.at hd) rfl k) K
theorem g_l2i (C : Cx p l s m meth c Z x0 code maxL ret) (X : Stand p l e R s m args below meth c T locs cells slots) {pc pc' : Nat} {Ls : Array Slot} {st : List Value} {x : Int64} (hd : decode code pc = .ok (.l2i, 1))  (hp : pc + 1 = pc')
    (K : Go p.tables e below G T (mkF m pc' Ls (.int x.toInt32 :: st))) : Go p.tables e below G T (mkF m pc Ls (.long x :: st)) := by
  subst hp; exact Go.step (fun _ k => XT.l2i X.here C.exec rfl (C.at hd) rfl k) K
theorem g_i2b (C : Cx p l s m meth c Z x0 code maxL ret) (X : Stand p l e R s m args below meth c T locs cells slots) {pc pc' : Nat} {Ls : Array Slot} {st : List Value} {x : Int32} (hd : decode code pc = .ok (.i2b, 1))  (hp : pc + 1 = pc')
    (K : Go p.tables e below G T (mkF m pc' Ls (.int x.toInt8.toInt32 :: st))) : Go p.tables e below G T (mkF m pc Ls (.int x :: st)) := by
  subst hp; exact Go.step (fun _ k => XT.i2b X.here C.exec rfl (C.at hd) rfl k) K
theorem g_i2s (C : Cx p l s m meth c Z x0 code maxL ret) (X : Stand p l e R s m args below meth c T locs cells slots) {pc pc' : Nat} {Ls : Array Slot} {st : List Value} {x : Int32} (hd : decode code pc = .ok (.i2s, 1))  (hp : pc + 1 = pc')
    (K : Go p.tables e below G T (mkF m pc' Ls (.int x.toInt16.toInt32 :: st))) : Go p.tables e below G T (mkF m pc Ls (.int x :: st)) := by
  subst hp; exact Go.step (fun _ k => XT.i2s X.here C.exec rfl (C.at hd) rfl k) K
theorem g_i2d (C : Cx p l s m meth c Z x0 code maxL ret) (X : Stand p l e R s m args below meth c T locs cells slots) {pc pc' : Nat} {Ls : Array Slot} {st : List Value} {x : Int32} (hd : decode code pc = .ok (.i2d, 1))  (hp : pc + 1 = pc')
    (K : Go p.tables e below G T (mkF m pc' Ls (.double (FP.i2d x) :: st))) : Go p.tables e below G T (mkF m pc Ls (.int x :: st)) := by
  subst hp; exact Go.step (fun _ k => XS.i2dS X.here C.exec rfl (C.at hd) rfl rfl k) K
theorem g_l2d (C : Cx p l s m meth c Z x0 code maxL ret) (X : Stand p l e R s m args below meth c T locs cells slots) {pc pc' : Nat} {Ls : Array Slot} {st : List Value} {x : Int64} (hd : decode code pc = .ok (.l2d, 1))  (hp : pc + 1 = pc')
    (K : Go p.tables e below G T (mkF m pc' Ls (.double (FP.l2d x) :: st))) : Go p.tables e below G T (mkF m pc Ls (.long x :: st)) := by
  subst hp; exact Go.step (fun _ k => XS.l2dS X.here C.exec rfl (C.at hd) rfl rfl k) K
theorem g_dneg (C : Cx p l s m meth c Z x0 code maxL ret) (X : Stand p l e R s m args below meth c T locs cells slots) {pc pc' : Nat} {Ls : Array Slot} {st : List Value} {x : UInt64} (hd : decode code pc = .ok (.dneg, 1))  (hp : pc + 1 = pc')
    (K : Go p.tables e below G T (mkF m pc' Ls (.double (FP.dneg x) :: st))) : Go p.tables e below G T (mkF m pc Ls (.double x :: st)) := by
  subst hp; exact Go.step (fun _ k => XS.dnegS X.here C.exec rfl (C.at hd) rfl rfl k) K
theorem g_dcmp (C : Cx p l s m meth c Z x0 code maxL ret) (X : Stand p l e R s m args below meth c T locs cells slots) {pc pc' : Nat} {Ls : Array Slot} {st : List Value} {o : CmpOp} {x y : UInt64} (hd : decode code pc = .ok (.dcmp o, 1))  (hp : pc + 1 = pc')
    (K : Go p.tables e below G T (mkF m pc' Ls (.int (cmpValue (FP.dcmp x y) o) :: st))) : Go p.tables e below G T (mkF m pc Ls (.double y :: .double x :: st)) := by
  subst hp; exact Go.step (fun _ k => XS.dcmpS X.here C.exec rfl (C.at hd) rfl rfl k) K
theorem g_dcmpV (C : Cx p l s m meth c Z x0 code maxL ret) (X : Stand p l e R s m args below meth c T locs cells slots) {pc pc' : Nat} {Ls : Array Slot} {st : List Value} {o : CmpOp} {x y : UInt64} {v : Int32} (hd : decode code pc = .ok (.dcmp o, 1)) (hv : cmpValue (FP.dcmp x y) o = v) (hp : pc + 1 = pc')
    (K : Go p.tables e below G T (mkF m pc' Ls (.int v :: st))) : Go p.tables e below G T (mkF m pc Ls (.double y :: .double x :: st)) := by
  subst hp; exact Go.step (fun _ k => XS.dcmpS X.here C.exec rfl (C.at hd) rfl hv k) K
theorem g_dadd (C : Cx p l s m meth c Z x0 code maxL ret) (X : Stand p l e R s m args below meth c T locs cells slots) {pc pc' : Nat} {Ls : Array Slot} {st : List Value} {x y : UInt64} (hd : decode code pc = .ok (.dadd, 1)) (hn : Jvm.Free.Fl.NoNaN64 (FP.dadd x y)) (hp : pc + 1 = pc')
    (K : Go p.tables e below G T (mkF m pc' Ls (.double (FP.dadd x y) :: st))) : Go p.tables e below G T (mkF m pc Ls (.double y :: .double x :: st)) := by
  subst hp; exact Go.step (fun _ k => XS.daddS X.here C.exec rfl (C.at hd) rfl hn rfl k) K
theorem g_dsub (C : Cx p l s m meth c Z x0 code maxL ret) (X : Stand p l e R s m args below meth c T locs cells slots) {pc pc' : Nat} {Ls : Array Slot} {st : List Value} {x y : UInt64} (hd : decode code pc = .ok (.dsub, 1)) (hn : Jvm.Free.Fl.NoNaN64 (FP.dsub x y)) (hp : pc + 1 = pc')
    (K : Go p.tables e below G T (mkF m pc' Ls (.double (FP.dsub x y) :: st))) : Go p.tables e below G T (mkF m pc Ls (.double y :: .double x :: st)) := by
  subst hp; exact Go.step (fun _ k => XS.dsubS X.here C.exec rfl (C.at hd) rfl hn rfl k) K
theorem g_dmul (C : Cx p l s m meth c Z x0 code maxL ret) (X : Stand p l e R s m args below meth c T locs cells slots) {pc pc' : Nat} {Ls : Array Slot} {st : List Value} {x y : UInt64} (hd : decode code pc = .ok (.dmul, 1)) (hn : Jvm.Free.Fl.NoNaN64 (FP.dmul x y)) (hp : pc + 1 = pc')
    (K : Go p.tables e below G T (mkF m pc' Ls (.double (FP.dmul x y) :: st))) : Go p.tables e below G T (mkF m pc Ls (.double y :: .double x :: st)) := by
  subst hp; exact Go.step (fun _ k => XS.dmulS X.here C.exec rfl (C.at hd) rfl hn rfl k) K
theorem g_ddiv (C : Cx p l s m meth c Z x0 code maxL ret) (X : Stand p l e R s m args below meth c T locs cells slots) {pc pc' : Nat} {Ls : Array Slot} {st : List Value} {x y : UInt64} (hd : decode code pc = .ok (.ddiv, 1)) (hn : Jvm.Free.Fl.NoNaN64 (FP.ddiv x y)) (hp : pc + 1 = pc')
    (K : Go p.tables e below G T (mkF m pc' Ls (.double (FP.ddiv x y) :: st))) : Go p.tables e below G T (mkF m pc Ls (.double y :: .double x :: st)) := by
  subst hp; exact Go.step (fun _ k => XS.ddivS X.here C.exec rfl (C.at hd) rfl hn rfl k) K
theorem g_lcmp (C : Cx p l s m meth c Z x0 code maxL ret) (X : Stand p l e R s m args below meth c T locs cells slots) {pc pc' : Nat} {Ls : Array Slot} {st : List Value} {x y : Int64} (hd : decode code pc = .ok (.lcmp, 1))  (hp : pc + 1 = pc')
    (K : Go p.tables e below G T (mkF m pc' Ls (.int (XT.cmpL x y) :: st))) : Go p.tables e below G T (mkF m pc Ls (.long y :: .long x :: st)) := by
  subst hp; exact Go.step (fun _ k => XT.lcmp X.here C.exec rfl (C.at hd) rfl k) K
theorem g_pop (C : Cx p l s m meth c Z x0 code maxL ret) (X : Stand p l e R s m args below meth c T locs cells slots) {pc pc' : Nat} {Ls : Array Slot} {st : List Value} {x : Value} (hd : decode code pc = .ok (.pop, 1)) (hc : x.category = 1) (hp : pc + 1 = pc')
    (K : Go p.tables e below G T (mkF m pc' Ls (st))) : Go p.tables e below G T (mkF m pc Ls (x :: st)) := by
  subst hp; exact Go.step (fun _ k => XT.pop X.here C.exec rfl (C.at hd) rfl hc k) K
theorem g_dup (C : Cx p l s m meth c Z x0 code maxL ret) (X : Stand p l e R s m args below meth c T locs cells slots) {pc pc' : Nat} {Ls : Array Slot} {st : List Value} {x : Value} (hd : decode code pc = .ok (.dup, 1)) (hc : x.category = 1) (hp : pc + 1 = pc')
    (K : Go p.tables e below G T (mkF m pc' Ls (x :: x :: st))) : Go p.tables e below G T (mkF m pc Ls (x :: st)) := by
  subst hp; exact Go.step (fun _ k => XS.dup X.here C.exec rfl (C.at hd) rfl hc k) K
theorem g_dupX1 (C : Cx p l s m meth c Z x0 code maxL ret) (X : Stand p l e R s m args below meth c T locs cells slots) {pc pc' : Nat} {Ls : Array Slot} {st : List Value} {x y : Value} (hd : decode code pc = .ok (.dup_x1, 1)) (hc : x.category = 1) (hc' : y.category = 1) (hp : pc + 1 = pc')
    (K : Go p.tables e below G T (mkF m pc' Ls (x :: y :: x :: st))) : Go p.tables e below G T (mkF m pc Ls (x :: y :: st)) := by
  subst hp; exact Go.step (fun _ k => XT.dupX1 X.here C.exec rfl (C.at hd) rfl hc hc' k) K
theorem g_dup2 (C : Cx p l s m meth c Z x0 code maxL ret) (X : Stand p l e R s m args below meth c T locs cells slots) {pc pc' : Nat} {Ls : Array Slot} {st : List Value} {x y : Value} (hd : decode code pc = .ok (.dup2, 1)) (hc : x.category = 1) (hc' : y.category = 1) (hp : pc + 1 = pc')
    (K : Go p.tables e below G T (mkF m pc' Ls (x :: y :: x :: y :: st))) : Go p.tables e below G T (mkF m pc Ls (x :: y :: st)) := by
  subst hp; exact Go.step (fun _ k => XT.dup2 X.here C.exec rfl (C.at hd) rfl hc hc' k) K
theorem g_iinc (C : Cx p l s m meth c Z x0 code maxL ret) (X : Stand p l e R s m args below meth c T locs cells slots) {pc pc' : Nat} {Ls : Array Slot} {st : List Value} {k : Nat} {cst : Int} {x z : Int32} {l' : Array Slot} (hd : decode code pc = .ok (.iinc k cst, 3)) (hl : Ls[k]? = some (.val (.int x))) (hz : z = x + Int32.ofInt cst) (hl' : storeLocals Ls k (.int z) = some l') (hp : pc + 3 = pc')
    (K : Go p.tables e below G T (mkF m pc' l' (st))) : Go p.tables e below G T (mkF m pc Ls (st)) := by
  subst hp; subst hz; exact Go.step (fun _ k => XS.iinc X.here C.exec rfl (C.at hd) hl hl' k) K
theorem g_irem (C : Cx p l s m meth c Z x0 code maxL ret) (X : Stand p l e R s m args below meth c T locs cells slots) {pc pc' : Nat} {Ls : Array Slot} {st : List Value} {x y : Int32} (hd : decode code pc = .ok (.irem, 1)) (hy : y ≠ 0) (hp : pc + 1 = pc')
    (K : Go p.tables e below G T (mkF m pc' Ls (.int (x % y) :: st))) : Go p.tables e below G T (mkF m pc Ls (.int y :: .int x :: st)) := by
  subst hp; exact Go.step (fun _ k => iremM X C.exec rfl (C.at hd) rfl hy k) K
theorem g_lushr (C : Cx p l s m meth c Z x0 code maxL ret) (X : Stand p l e R s m args below meth c T locs cells slots) {pc pc' : Nat} {Ls : Array Slot} {st : List Value} {x : Int64} {y : Int32} (hd : decode code pc = .ok (.lushr, 1)) (hp : pc + 1 = pc')
    (K : Go p.tables e below G T (mkF m pc' Ls (.long (XT.ushrL x y) :: st))) : Go p.tables e below G T (mkF m pc Ls (.int y :: .long x :: st)) := by
  subst hp; exact Go.step (fun _ k => XT.lushr X.here C.exec rfl (C.at hd) rfl k) K
/-- what a branch asks, of whole numbers -/
abbrev cpI : ClassFile.Cond → Int → Int → Prop
  | .eq, x, y => x = y
  | .ne, x, y => ¬ x = y
  | .lt, x, y => x < y
  | .ge, x, y => ¬ x < y
  | .gt, x, y => y < x
  | .le, x, y => ¬ y < x
theorem holds_icmp (cd : ClassFile.Cond) (x y : Int32) : if_icmp.holds cd x y = true ↔ cpI cd x.toInt y.toInt := by
  cases cd <;> simp only [if_icmp.holds, cpI, decide_eq_true_eq, beq_iff_eq, bne_iff_ne, ne_eq, Int32.lt_iff_toInt_lt, Int32.le_iff_toInt_le, Int32.toInt_inj, Int.not_lt, ge_iff_le, gt_iff_lt]
theorem holds_if (cd : ClassFile.Cond) (x : Int32) : ifCond.holds cd x = true ↔ cpI cd x.toInt 0 := by
  rw [if0]; exact holds_icmp cd x 0
theorem g_goto (C : Cx p l s m meth c Z x0 code maxL ret) (X : Stand p l e R s m args below meth c T locs cells slots) {pc pc' : Nat} {Ls : Array Slot} {st : List Value} {o : Int} (hd : decode code pc = .ok (.goto o, 3)) (ho : 0 ≤ (pc : Int) + o) (hp : ((pc : Int) + o).toNat = pc')
    (K : Go p.tables e below G T (mkF m pc' Ls st)) : Go p.tables e below G T (mkF m pc Ls st) :=
  Go.step (fun _ k => XS.goto X.here C.exec rfl rfl (C.at hd) ho hp k) K
theorem g_if (C : Cx p l s m meth c Z x0 code maxL ret) (X : Stand p l e R s m args below meth c T locs cells slots) {pc pc' pc'' : Nat} {Ls : Array Slot} {st : List Value} {cd : ClassFile.Cond} {x : Int32} {o : Int} (hd : decode code pc = .ok (.ifCond cd o, 3)) (ho : 0 ≤ (pc : Int) + o) (hp : ((pc : Int) + o).toNat = pc') (hp3 : pc + 3 = pc'')
    (K1 : cpI cd x.toInt 0 → Go p.tables e below G T (mkF m pc' Ls st)) (K2 : ¬ cpI cd x.toInt 0 → Go p.tables e below G T (mkF m pc'' Ls st)) : Go p.tables e below G T (mkF m pc Ls (.int x :: st)) := by
  subst hp3
  cases hc : ifCond.holds cd x with
  | true => exact Go.step (fun _ k => XS.ifYes X.here C.exec rfl rfl (C.at hd) rfl hc ho hp k) (K1 ((holds_if cd x).mp hc))
  | false => exact Go.step (fun _ k => XS.ifNo X.here C.exec rfl (C.at hd) rfl hc k) (K2 fun q => by rw [(holds_if cd x).mpr q] at hc; cases hc)
theorem g_icmp (C : Cx p l s m meth c Z x0 code maxL ret) (X : Stand p l e R s m args below meth c T locs cells slots) {pc pc' pc'' : Nat} {Ls : Array Slot} {st : List Value} {cd : ClassFile.Cond} {x y : Int32} {o : Int} (hd : decode code pc = .ok (.if_icmp cd o, 3)) (ho : 0 ≤ (pc : Int) + o) (hp : ((pc : Int) + o).toNat = pc') (hp3 : pc + 3 = pc'')
    (K1 : cpI cd x.toInt y.toInt → Go p.tables e below G T (mkF m pc' Ls st)) (K2 : ¬ cpI cd x.toInt y.toInt → Go p.tables e below G T (mkF m pc'' Ls st)) : Go p.tables e below G T (mkF m pc Ls (.int y :: .int x :: st)) := by
  subst hp3
  cases hc : if_icmp.holds cd x y with
  | true => exact Go.step (fun _ k => XS.icmpYes X.here C.exec rfl rfl (C.at hd) rfl hc ho hp k) (K1 ((holds_icmp cd x y).mp hc))
  | false => exact Go.step (fun _ k => XS.icmpNo X.here C.exec rfl (C.at hd) rfl hc k) (K2 fun q => by rw [(holds_icmp cd x y).mpr q] at hc; cases hc)
theorem g_ifY (C : Cx p l s m meth c Z x0 code maxL ret) (X : Stand p l e R s m args below meth c T locs cells slots) {pc pc' : Nat} {Ls : Array Slot} {st : List Value} {cd : ClassFile.Cond} {x : Int32} {o : Int} (hd : decode code pc = .ok (.ifCond cd o, 3)) (ho : 0 ≤ (pc : Int) + o) (hp : ((pc : Int) + o).toNat = pc') (hc : cpI cd x.toInt 0)
    (K1 : Go p.tables e below G T (mkF m pc' Ls st)) : Go p.tables e below G T (mkF m pc Ls (.int x :: st)) :=
  Go.step (fun _ k => XS.ifYes X.here C.exec rfl rfl (C.at hd) rfl ((holds_if cd x).mpr hc) ho hp k) K1
theorem g_ifN (C : Cx p l s m meth c Z x0 code maxL ret) (X : Stand p l e R s m args below meth c T locs cells slots) {pc pc' : Nat} {Ls : Array Slot} {st : List Value} {cd : ClassFile.Cond} {x : Int32} {o : Int} (hd : decode code pc = .ok (.ifCond cd o, 3)) (hc : ¬ cpI cd x.toInt 0) (hp : pc + 3 = pc')
    (K1 : Go p.tables e below G T (mkF m pc' Ls st)) : Go p.tables e below G T (mkF m pc Ls (.int x :: st)) := by
  subst hp
  exact Go.step (fun _ k => XS.ifNo X.here C.exec rfl (C.at hd) rfl (Bool.eq_false_iff.mpr fun q => hc ((holds_if cd x).mp q)) k) K1
theorem g_icmpY (C : Cx p l s m meth c Z x0 code maxL ret) (X : Stand p l e R s m args below meth c T locs cells slots) {pc pc' : Nat} {Ls : Array Slot} {st : List Value} {cd : ClassFile.Cond} {x y : Int32} {o : Int} (hd : decode code pc = .ok (.if_icmp cd o, 3)) (ho : 0 ≤ (pc : Int) + o) (hp : ((pc : Int) + o).toNat = pc') (hc : cpI cd x.toInt y.toInt)
    (K1 : Go p.tables e below G T (mkF m pc' Ls st)) : Go p.tables e below G T (mkF m pc Ls (.int y :: .int x :: st)) :=
  Go.step (fun _ k => XS.icmpYes X.here C.exec rfl rfl (C.at hd) rfl ((holds_icmp cd x y).mpr hc) ho hp k) K1
theorem g_icmpN (C : Cx p l s m meth c Z x0 code maxL ret) (X : Stand p l e R s m args below meth c T locs cells slots) {pc pc' : Nat} {Ls : Array Slot} {st : List Value} {cd : ClassFile.Cond} {x y : Int32} {o : Int} (hd : decode code pc = .ok (.if_icmp cd o, 3)) (hc : ¬ cpI cd x.toInt y.toInt) (hp : pc + 3 = pc')
    (K1 : Go p.tables e below G T (mkF m pc' Ls st)) : Go p.tables e below G T (mkF m pc Ls (.int y :: .int x :: st)) := by
  subst hp
  exact Go.step (fun _ k => XS.icmpNo X.here C.exec rfl (C.at hd) rfl (Bool.eq_false_iff.mpr fun q => hc ((holds_icmp cd x y).mp q)) k) K1
/-! leaving the body -/
theorem g_out {k n : Nat} {Q : Option Value → Heap → List Loc → Prop} (C : Cx p l s m meth c Z x0 code maxL ret) (X : Stand p l e R s m args below meth c T locs cells slots) {v : Option Value} {g : JFrame} (hv : ret = none → v = none)
    (st : ∀ fs, (∀ (f : JFrame) (acts : List Action), f.method = m → f.locked = none → f.entered = [] → (doReturn e (T.setTop f) acts v).1 = T.setFrames fs) → Steps p.tables e below (T.setTop g) (T.setFrames fs))
    (hQ : Q v T.heap locs) (hk : cells ≤ k) (hn : slots ≤ n) : Go p.tables e below (End s Q k n) T g := by
  obtain ⟨fs, hr, hrun, hended, hW, hsame⟩ := X.leave (v := v) (fun q => hv (C.rets ▸ q)) C.unlocked
  exact ⟨_, _, st fs hr, hrun, hended, v, locs, rfl, hQ, ⟨_, rfl⟩, hW, hsame.mono hk hn⟩
theorem g_ireturn {k n : Nat} {Q : Option Value → Heap → List Loc → Prop} (C : Cx p l s m meth c Z x0 code maxL (some .int)) (X : Stand p l e R s m args below meth c T locs cells slots) {pc : Nat} {Ls : Array Slot} {st : List Value} {z : Int32} (hd : decode code pc = .ok (.ireturn, 1))
    (hQ : Q (some (.int z)) T.heap locs) (hk : cells ≤ k) (hn : slots ≤ n) : Go p.tables e below (End s Q k n) T (mkF m pc Ls (.int z :: st)) :=
  g_out C X (v := some (.int z)) (fun q => by cases q) (fun fs hr => retOut X C.exec C.rets rfl (Or.inl ⟨rfl, Or.inl rfl, _, rfl⟩) (C.at hd) hr) hQ hk hn
theorem g_zreturn {k n : Nat} {Q : Option Value → Heap → List Loc → Prop} (C : Cx p l s m meth c Z x0 code maxL (some .boolean)) (X : Stand p l e R s m args below meth c T locs cells slots) {pc : Nat} {Ls : Array Slot} {st : List Value} {z w : Int32} (hd : decode code pc = .ok (.ireturn, 1)) (hw : nar .boolean z = w)
    (hQ : Q (some (.int w)) T.heap locs) (hk : cells ≤ k) (hn : slots ≤ n) : Go p.tables e below (End s Q k n) T (mkF m pc Ls (.int z :: st)) :=
  g_out C X (v := some (.int w)) (fun q => by cases q) (fun fs hr => retN X C.exec (t := .boolean) C.rets (by simp) (C.at hd) (hw ▸ hr)) hQ hk hn
theorem g_lreturn {k n : Nat} {Q : Option Value → Heap → List Loc → Prop} (C : Cx p l s m meth c Z x0 code maxL (some .long)) (X : Stand p l e R s m args below meth c T locs cells slots) {pc : Nat} {Ls : Array Slot} {st : List Value} {z : Int64} (hd : decode code pc = .ok (.lreturn, 1))
    (hQ : Q (some (.long z)) T.heap locs) (hk : cells ≤ k) (hn : slots ≤ n) : Go p.tables e below (End s Q k n) T (mkF m pc Ls (.long z :: st)) :=
  g_out C X (v := some (.long z)) (fun q => by cases q) (fun fs hr => retOut X C.exec C.rets rfl (Or.inr (Or.inl ⟨rfl, rfl, _, rfl⟩)) (C.at hd) hr) hQ hk hn
theorem g_dreturn {k n : Nat} {Q : Option Value → Heap → List Loc → Prop} (C : Cx p l s m meth c Z x0 code maxL (some .double)) (X : Stand p l e R s m args below meth c T locs cells slots) {pc : Nat} {Ls : Array Slot} {st : List Value} {z : UInt64} (hd : decode code pc = .ok (.dreturn, 1))
    (hQ : Q (some (.double z)) T.heap locs) (hk : cells ≤ k) (hn : slots ≤ n) : Go p.tables e below (End s Q k n) T (mkF m pc Ls (.double z :: st)) :=
  g_out C X (v := some (.double z)) (fun q => by cases q) (fun fs hr => retOut X C.exec C.rets rfl (Or.inr (Or.inr (Or.inl ⟨rfl, rfl, _, rfl⟩))) (C.at hd) hr) hQ hk hn
theorem g_areturn {k n : Nat} {Q : Option Value → Heap → List Loc → Prop} {t : FieldType} (C : Cx p l s m meth c Z x0 code maxL (some t)) (X : Stand p l e R s m args below meth c T locs cells slots) {pc : Nat} {Ls : Array Slot} {st : List Value} {w : Value} (hd : decode code pc = .ok (.areturn, 1)) (ht : t.isReference = true) (hw : w.isRef = true) (hna : narrow t w = w)
    (hQ : Q (some w) T.heap locs) (hk : cells ≤ k) (hn : slots ≤ n) : Go p.tables e below (End s Q k n) T (mkF m pc Ls (w :: st)) :=
  g_out C X (v := some w) (fun q => by cases q) (fun fs hr => retOut X C.exec C.rets hna (Or.inr (Or.inr (Or.inr (Or.inr ⟨rfl, ht, hw⟩)))) (C.at hd) hr) hQ hk hn
theorem g_return {k n : Nat} {Q : Option Value → Heap → List Loc → Prop} (C : Cx p l s m meth c Z x0 code maxL none) (X : Stand p l e R s m args below meth c T locs cells slots) {pc : Nat} {Ls : Array Slot} (hd : decode code pc = .ok (.return_, 1))
    (hQ : Q none T.heap locs) (hk : cells ≤ k) (hn : slots ≤ n) : Go p.tables e below (End s Q k n) T (mkF m pc Ls []) :=
  g_out C X (v := none) (fun _ => rfl) (fun fs hr => X.returnOut C.exec C.rets (C.at hd) hr) hQ hk hn
/-! calls -/
theorem g_callS (C : Cx p l s m meth c Z x0 code maxL ret) (X : Stand p l e R s m args below meth c T locs cells slots) {index : Nat} {y : MethodName} {bytes : ByteArray} {mL : Nat} {rt : Option FieldType} {rm : Room} {as : Array Value} {Q : Option Value → Heap → List Loc → Prop} (K0 : Con l Z y bytes mL rt rm as h Q)
    (w1 : (Cond.methodLink x0.cls index y).before a0 Z = true) (w2 : (Cond.static y).before a0 Z = true) (w3 : (Cond.initialized y.cls).before a0 Z = true) (w4 : (Cond.code y bytes mL rt).before a0 Z = true)
    (hy : y.cls ≠ "java/lang/invoke/MethodHandle" ∧ y.cls ≠ "java/lang/invoke/VarHandle") (eT : T.heap = h) {pc pc' : Nat} {Ls : Array Slot} {st : List Value} (hd : decode code pc = .ok (.invokestatic index, 3)) (hsz : Ls.size = maxL)
    {ps : List FieldType} {r : Option FieldType} (hpd : parseMethodDescriptor y.desc = some ⟨ps, r⟩) (argsL rest : List Value) (hlen : argsL.length = ps.length) (has : argsL.toArray = as) (hst : st = argsL.reverse ++ rest) (W : Nat) (hW : (rest.map fun v => v.category).sum = W)
    (hfr : rm.frames + 1 ≤ R.frames) (hlo : W + (mL + 11) + rm.locals ≤ R.locals) (hce : cells + rm.cells ≤ R.cells) (hsl : slots + rm.slots ≤ R.slots) (hp : pc + 3 = pc')
    (K : ∀ v T' L, Stand p l e R s m args below meth c T' (locs ++ L) (cells + rm.cells) (slots + rm.slots) → Q v T'.heap L → Go p.tables e below G T' (mkF m pc' Ls (v.toList ++ rest))) : Go p.tables e below G T (mkF m pc Ls st) := by
  subst hp has
  obtain ⟨v, _, ⟨T1, L1, k1, n1⟩, -, X1, ⟨Lc, hQ, q1, q2, q3⟩, st1⟩ := Jvm.LawKit.callS X C.exec (y := y) C.own (mvT C.warm w1) (mvT C.warm w2) (mvT C.warm w3) (mvT C.warm w4) hy (backOf (W := W) (K0 []) C.warm w4 w3 hfr hlo)
    (g := mkF m pc Ls st) rfl (by rw [C.maxl]; exact hsz) (argsL := argsL) (rest := rest) (lenOf hpd hlen) hst (by show 2 * 0 + _ ≤ _; rw [hW]; omega) (C.at hd) (fun _ _ => ⟨rfl, eT, hce, hsl⟩)
  dsimp only [Pt.U, Pt.locs, Pt.cells, Pt.slots] at X1 q1 q2 q3 st1 hQ
  subst q1 q2 q3
  exact Go.step st1 (K v T1 Lc X1 hQ)
theorem go_trans {tb : Tables} {T1 : State} {g g1 : JFrame} (st : Steps tb e below (T.setTop g) (T1.setTop g1)) (k : Go tb e below G T1 g1) : Go tb e below G T g := by
  obtain ⟨s2, o, h1, h2⟩ := k
  exact ⟨s2, o, st.trans h1, h2⟩
theorem g_callI (C : Cx p l s m meth c Z x0 code maxL ret) (X : Stand p l e R s m args below meth c T locs cells slots) {index : Nat} {y : MethodName} {bytes : ByteArray} {mL : Nat} {rm : Room} {as : Array Value} {Q : Option Value → Heap → List Loc → Prop} (K0 : Con l Z y bytes mL none rm as h Q) (hy1 : y.name = "<init>")
    (w1 : (Cond.methodLink x0.cls index y).before a0 Z = true) (w2 : (Cond.instanceMethod y).before a0 Z = true) (w3 : (Cond.initialized y.cls).before a0 Z = true) (w4 : (Cond.code y bytes mL none).before a0 Z = true)
    (hy : y.cls ≠ "java/lang/invoke/MethodHandle" ∧ y.cls ≠ "java/lang/invoke/VarHandle") (eT : T.heap = h) {pc pc' : Nat} {Ls : Array Slot} {st : List Value} (hd : decode code pc = .ok (.invokespecial index, 3)) (hsz : Ls.size = maxL)
    {ps : List FieldType} {r : Option FieldType} (hpd : parseMethodDescriptor y.desc = some ⟨ps, r⟩) (a : Addr) (argsL rest : List Value) (hlen : argsL.length = ps.length) (has : (.ref a :: argsL).toArray = as) (hst : st = argsL.reverse ++ .ref a :: rest) (W : Nat) (hW : (rest.map fun v => v.category).sum = W)
    (hfr : rm.frames + 1 ≤ R.frames) (hlo : W + (mL + 11) + rm.locals ≤ R.locals) (hce : cells + rm.cells ≤ R.cells) (hsl : slots + rm.slots ≤ R.slots) (hp : pc + 3 = pc')
    (K : ∀ v T' L, Stand p l e R s m args below meth c T' (locs ++ L) (cells + rm.cells) (slots + rm.slots) → Q v T'.heap L → Go p.tables e below G T' (mkF m pc' Ls (v.toList ++ rest))) : Go p.tables e below G T (mkF m pc Ls st) := by
  subst hp has
  obtain ⟨v, _, ⟨T1, L1, k1, n1⟩, -, X1, ⟨Lc, hQ, q1, q2, q3⟩, st1⟩ := X.specialBack C.exec (y := y) hy1 C.own (mvT C.warm w1) (mvT C.warm w2) (mvT C.warm w4) hy (backOf (W := W) (K0 []) C.warm w4 w3 hfr hlo)
    (g := mkF m pc Ls st) rfl (by rw [C.maxl]; exact hsz) (Steps.refl _) (a := a) (argsL := argsL) (rest := rest) (lenOf hpd hlen) hst (by show 2 * 0 + _ ≤ _; rw [hW]; omega) (C.at hd) (fun _ _ => ⟨rfl, eT, hce, hsl⟩)
  dsimp only [Pt.U, Pt.locs, Pt.cells, Pt.slots] at X1 q1 q2 q3 st1 hQ
  subst q1 q2 q3
  exact go_trans st1 (K v T1 Lc X1 hQ)
theorem g_callV (C : Cx p l s m meth c Z x0 code maxL ret) (X : Stand p l e R s m args below meth c T locs cells slots) {index : Nat} {y : MethodName} {cls : String} {bytes : ByteArray} {mL : Nat} {rt : Option FieldType} {rm : Room} {as : Array Value} {Q : Option Value → Heap → List Loc → Prop} (K0 : Con l Z y bytes mL rt rm as h Q)
    (w1 : (Cond.methodLink x0.cls index y).before a0 Z = true) (w2 : (Cond.declares y).before a0 Z = true) (w5 : (Cond.selects cls y y).before a0 Z = true) (w6 : (Cond.instanceMethod y).before a0 Z = true) (w3 : (Cond.initialized y.cls).before a0 Z = true) (w4 : (Cond.code y bytes mL rt).before a0 Z = true)
    (hy : y.cls ≠ "java/lang/invoke/MethodHandle" ∧ y.cls ≠ "java/lang/invoke/VarHandle") (eT : T.heap = h) {a : Addr} (E : Exa Z h a cls) {pc pc' : Nat} {Ls : Array Slot} {st : List Value} (hd : decode code pc = .ok (.invokevirtual index, 3)) (hsz : Ls.size = maxL)
    {ps : List FieldType} {r : Option FieldType} (hpd : parseMethodDescriptor y.desc = some ⟨ps, r⟩) (argsL rest : List Value) (hlen : argsL.length = ps.length) (has : (.ref a :: argsL).toArray = as) (hst : st = argsL.reverse ++ .ref a :: rest) (W : Nat) (hW : (rest.map fun v => v.category).sum = W)
    (hfr : rm.frames + 1 ≤ R.frames) (hlo : W + (mL + 11) + rm.locals ≤ R.locals) (hce : cells + rm.cells ≤ R.cells) (hsl : slots + rm.slots ≤ R.slots) (hp : pc + 3 = pc')
    (K : ∀ v T' L, Stand p l e R s m args below meth c T' (locs ++ L) (cells + rm.cells) (slots + rm.slots) → Q v T'.heap L → Go p.tables e below G T' (mkF m pc' Ls (v.toList ++ rest))) : Go p.tables e below G T (mkF m pc Ls st) := by
  subst hp has
  obtain ⟨cq, kq, qa, qb, qc⟩ := isOf C.warm eT E
  obtain ⟨v, _, ⟨T1, L1, k1, n1⟩, -, X1, ⟨Lc, hQ, q1, q2, q3⟩, st1⟩ := X.virtualBack C.exec (y := y) (z := y) C.own (mvT C.warm w1) (mvT C.warm w2) (notFace_of_selects (args := #[]) (mvT C.warm w5)) (mvT C.warm w5) (mvT C.warm w6) hy (backOf (W := W) (K0 []) C.warm w4 w3 hfr hlo) qa qc
    (g := mkF m pc Ls st) rfl (by rw [C.maxl]; exact hsz) (Steps.refl _) (argsL := argsL) (rest := rest) (lenOf hpd hlen) hst (by show 2 * 0 + _ ≤ _; rw [hW]; omega) (C.at hd) (fun _ _ => ⟨rfl, eT, hce, hsl⟩)
  dsimp only [Pt.U, Pt.locs, Pt.cells, Pt.slots] at X1 q1 q2 q3 st1 hQ
  subst q1 q2 q3
  exact go_trans st1 (K v T1 Lc X1 hQ)
theorem g_initO (C : Cx p l s m meth c Z x0 code maxL ret) (X : Stand p l e R s m args below meth c T locs cells slots) {index : Nat} (w1 : (Cond.methodLink x0.cls index Lib.objectInit).before a0 Z = true) (w2 : (Cond.instanceMethod Lib.objectInit).before a0 Z = true) (w3 : (Cond.code Lib.objectInit ⟨#[0xb1]⟩ 1 none).before a0 Z = true) (eT : T.heap = h)
    {pc pc' : Nat} {Ls : Array Slot} {a : Addr} {rest : List Value} (hd : decode code pc = .ok (.invokespecial index, 3)) (hsz : Ls.size = maxL) (W : Nat) (hW : (rest.map fun v => v.category).sum = W) (hfr : 1 ≤ R.frames) (hlo : W + 12 ≤ R.locals) (hp : pc + 3 = pc')
    (K : ∀ T', Stand p l e R s m args below meth c T' locs cells slots → T'.heap = h → Go p.tables e below G T' (mkF m pc' Ls rest)) : Go p.tables e below G T (mkF m pc Ls (.ref a :: rest)) := by
  subst hp
  obtain ⟨T1, X1, e1, st1⟩ := initO X C.exec C.warm C.own w1 w2 w3 eT (g := mkF m pc Ls (.ref a :: rest)) rfl (by rw [C.maxl]; exact hsz) rfl (C.at hd) hfr (W := W) (by show 2 * 0 + _ ≤ _; rw [hW]; omega) hlo
  exact Go.step st1 (K T1 X1 e1)
/-! the heap -/
theorem g_new (C : Cx p l s m meth c Z x0 code maxL ret) (X : Stand p l e R s m args below meth c T locs cells slots) {cls : String} {index n : Nat} (w : (Cond.classLink x0.cls index cls).before a0 Z = true) (wi : (Cond.instantiable cls n).before a0 Z = true) (wz : (Cond.initialized cls).before a0 Z = true) (eT : T.heap = h)
    {pc pc' : Nat} {Ls : Array Slot} {st : List Value} (hd : decode code pc = .ok (.new index, 3)) (hc : cells + 1 ≤ R.cells) (hl : slots + n ≤ R.slots) (hp : pc + 3 = pc')
    (K : ∀ T' h' a, a = h.size → Stand p l e R s m args below meth c T' locs (cells + 1) (slots + n) → T'.heap = h' → Ext h h' → Exa Z h' a cls → (∀ {O nm d : String} {ty : FieldType}, Laid Z a0 cls O nm d → parseFieldDescriptor d = some ty → Fld Z h' a O nm d (defaultValue ty)) → Go p.tables e below G T' (mkF m pc' Ls (.ref a :: st))) :
    Go p.tables e below G T (mkF m pc Ls st) := by
  subst hp
  obtain ⟨T1, h1, X1, e1, E1, A1, D1, -, st1⟩ := newO X C.exec C.warm C.own w wi wz eT (g := mkF m pc Ls st) rfl (C.at hd) hc hl
  exact Go.step st1 (K T1 h1 h.size rfl X1 e1 E1 A1 D1)
theorem g_newP (C : Cx p l s m meth c Z x0 code maxL ret) (X : Stand p l e R s m args below meth c T locs cells slots) {aty : ArrayType} (w : (Cond.arrayClass (newarray.typeOf aty)).before a0 Z = true) (eT : T.heap = h)
    {pc pc' : Nat} {Ls : Array Slot} {st : List Value} {z : Int32} (hd : decode code pc = .ok (.newarray aty, 2)) (hz : ¬ z < 0) (cap : Nat) (hcap : z.toNatClampNeg ≤ cap) (hb : cap * 8 ≤ 536870912) (hc : cells + 1 ≤ R.cells) (hl : slots + cap ≤ R.slots) (hp : pc + 2 = pc')
    (K : ∀ T' h' a k, a = h.size → Stand p l e R s m args below meth c T' locs (cells + 1) (slots + cap) → T'.heap = h' → Ext h h' → Arv Z h' a k (newarray.typeOf aty) z [] (defaultValue (newarray.typeOf aty)) → Go p.tables e below G T' (mkF m pc' Ls (.ref a :: st))) :
    Go p.tables e below G T (mkF m pc Ls (.int z :: st)) := by
  subst hp
  obtain ⟨T1, h1, cA, X1, e1, E1, A1, st1⟩ := newP X C.exec C.warm w eT (g := mkF m pc Ls (.int z :: st)) rfl (C.at hd) rfl hz hcap hb hc hl
  exact Go.step st1 (K T1 h1 h.size cA rfl X1 e1 E1 (Arv.new A1 hz))
theorem g_getF (C : Cx p l s m meth c Z x0 code maxL ret) (X : Stand p l e R s m args below meth c T locs cells slots) {R0 O n d host : String} {index : Nat} (w : (Cond.fieldLink x0.cls index R0 n d).before a0 Z = true ∨ (Cond.fieldLinkNest x0.cls index R0 n d host).before a0 Z = true) (via : Via Z R0 O n d) (eT : T.heap = h) {a : Addr} {v : Value} (F : Fld Z h a O n d v)
    {pc pc' : Nat} {Ls : Array Slot} {st : List Value} (hd : decode code pc = .ok (.getfield index, 3)) (hp : pc + 3 = pc')
    (K : ∀ T', Stand p l e R s m args below meth c T' locs cells slots → T'.heap = h → Go p.tables e below G T' (mkF m pc' Ls (v :: st))) : Go p.tables e below G T (mkF m pc Ls (.ref a :: st)) := by
  subst hp
  obtain ⟨T1, X1, e1, st1⟩ := getF X C.exec C.warm C.own w via eT F (g := mkF m pc Ls (.ref a :: st)) rfl rfl (C.at hd)
  exact Go.step st1 (K T1 X1 e1)
theorem g_putF (C : Cx p l s m meth c Z x0 code maxL ret) (X : Stand p l e R s m args below meth c T locs cells slots) {R0 O n d host cls : String} {index kk : Nat} {ty : FieldType} (w : (Cond.fieldLink x0.cls index R0 n d).before a0 Z = true ∨ (Cond.fieldLinkNest x0.cls index R0 n d host).before a0 Z = true) (via : Via Z R0 O n d) (eT : T.heap = h) {a : Addr} {v old : Value} (F : Fld Z h a O n d old) (E : Exa Z h a cls)
    (L : (Cond.lays cls O n d).before a0 Z = true ∨ ((Cond.laysFinal cls O n d).before a0 Z = true ∧ x0.cls = O ∧ x0.name = "<init>")) (wi : (Cond.instantiable cls kk).before a0 Z = true) (hty : parseFieldDescriptor d = some ty) (hn : narrow ty v = v) (hf : fits ty v = true)
    {pc pc' : Nat} {Ls : Array Slot} {st : List Value} (hd : decode code pc = .ok (.putfield index, 3)) (hp : pc + 3 = pc')
    (K : ∀ T' h', Stand p l e R s m args below meth c T' (locs ++ [⟨a, RoadKit.slotOf Z O n d⟩]) cells slots → T'.heap = h' → Wr h h' a (RoadKit.slotOf Z O n d) v → Go p.tables e below G T' (mkF m pc' Ls st)) : Go p.tables e below G T (mkF m pc Ls (v :: .ref a :: st)) := by
  subst hp
  obtain ⟨T1, h1, X1, e1, W1, st1⟩ := putF X C.exec C.warm C.own w via eT F E (L.imp id fun q => ⟨q.1, q.2.1, C.nm.trans q.2.2⟩) wi hty hn hf (g := mkF m pc Ls (v :: .ref a :: st)) rfl rfl (C.at hd)
  exact Go.step st1 (K T1 h1 X1 e1 W1)
/-- an array whose values are a list: read, length, store -/
theorem Arv.cell {a : Addr} {k : ClassId} {ty : FieldType} {z : Int32} {vs : List Value} {d : Value} (A : Arv Z h a k ty z vs d) : ∃ cl : Cell, Arr Z h a cl ty ∧ cl.slots.size = z.toNatClampNeg ∧ ¬ z < 0 ∧ Has cl vs d := by
  obtain ⟨cl, A1, -, S, N, H, -⟩ := A
  exact ⟨cl, A1, S, N, H⟩
theorem g_len (C : Cx p l s m meth c Z x0 code maxL ret) (X : Stand p l e R s m args below meth c T locs cells slots) {a : Addr} {k : ClassId} {ty : FieldType} {z : Int32} {vs : List Value} {d : Value} (eT : T.heap = h) (A : Arv Z h a k ty z vs d) {pc pc' : Nat} {Ls : Array Slot} {st : List Value} (hd : decode code pc = .ok (.arraylength, 1)) (hp : pc + 1 = pc')
    (K : Go p.tables e below G T (mkF m pc' Ls (.int z :: st))) : Go p.tables e below G T (mkF m pc Ls (.ref a :: st)) := by
  subst hp
  obtain ⟨cl, A1, S, N, H⟩ := Arv.cell A
  refine Go.step (fun t q => X.arraylength C.exec (cell := cl) (by rw [eT]; exact A1.1) (State.isArrayOf_alike C.warm.alike A1.2.1) (g := mkF m pc Ls (.ref a :: st)) rfl rfl (C.at hd) t ?_) K
  rw [len_of S N]; exact q
theorem inb {cl : Cell} {z j : Int32} (S : cl.slots.size = z.toNatClampNeg) (h0 : 0 ≤ j.toInt) (h1 : j.toInt < z.toInt) : ¬ (j < 0 ∨ cl.slots.size ≤ j.toNatClampNeg) :=
  inb_of S ⟨fun q => by rw [Int32.lt_iff_toInt_lt] at q; exact absurd q (Int.not_lt.mpr h0), Int32.lt_iff_toInt_lt.mpr h1⟩
theorem g_iaload (C : Cx p l s m meth c Z x0 code maxL ret) (X : Stand p l e R s m args below meth c T locs cells slots) {a : Addr} {k : ClassId} {z j : Int32} {vs : List Value} {d : Value} {v : Int32} (eT : T.heap = h) (A : Arv Z h a k .int z vs d) (h0 : 0 ≤ j.toInt) (h1 : j.toInt < z.toInt) (i : Nat) (hj : j.toNatClampNeg = i) (hv : vs.getD i d = .int v) {pc pc' : Nat} {Ls : Array Slot} {st : List Value} (hd : decode code pc = .ok (.iaload, 1)) (hp : pc + 1 = pc')
    (K : Go p.tables e below G T (mkF m pc' Ls (.int v :: st))) : Go p.tables e below G T (mkF m pc Ls (.int j :: .ref a :: st)) := by
  subst hp
  obtain ⟨cl, A1, S, N, H⟩ := Arv.cell A
  exact Go.step (fun t q => X.iaload C.exec (j := j) (v := .int v) (by rw [eT]; exact A1.1) (State.isArrayOf_alike C.warm.alike A1.2.1) A1.2.2 (inb S h0 h1) (H.at (inb S h0 h1) (by rw [hj]; exact hv)) (g := mkF m pc Ls (.int j :: .ref a :: st)) rfl rfl (C.at hd) t q) K
theorem g_daload (C : Cx p l s m meth c Z x0 code maxL ret) (X : Stand p l e R s m args below meth c T locs cells slots) {a : Addr} {k : ClassId} {z j : Int32} {vs : List Value} {d : Value} {v : UInt64} (eT : T.heap = h) (A : Arv Z h a k .double z vs d) (h0 : 0 ≤ j.toInt) (h1 : j.toInt < z.toInt) (i : Nat) (hj : j.toNatClampNeg = i) (hv : vs.getD i d = .double v) {pc pc' : Nat} {Ls : Array Slot} {st : List Value} (hd : decode code pc = .ok (.daload, 1)) (hp : pc + 1 = pc')
    (K : Go p.tables e below G T (mkF m pc' Ls (.double v :: st))) : Go p.tables e below G T (mkF m pc Ls (.int j :: .ref a :: st)) := by
  subst hp
  obtain ⟨cl, A1, S, N, H⟩ := Arv.cell A
  exact Go.step (fun t q => X.daload C.exec (j := j) (v := .double v) (by rw [eT]; exact A1.1) (State.isArrayOf_alike C.warm.alike A1.2.1) A1.2.2 (inb S h0 h1) (H.at (inb S h0 h1) (by rw [hj]; exact hv)) (g := mkF m pc Ls (.int j :: .ref a :: st)) rfl rfl (C.at hd) t q) K
theorem g_aaload (C : Cx p l s m meth c Z x0 code maxL ret) (X : Stand p l e R s m args below meth c T locs cells slots) {a : Addr} {k : ClassId} {z j : Int32} {ty : FieldType} {vs : List Value} {d v : Value} (eT : T.heap = h) (A : Arv Z h a k ty z vs d) (hty : ty.isReference = true) (hr : v.isRef = true) (h0 : 0 ≤ j.toInt) (h1 : j.toInt < z.toInt) (i : Nat) (hj : j.toNatClampNeg = i) (hv : vs.getD i d = v) {pc pc' : Nat} {Ls : Array Slot} {st : List Value} (hd : decode code pc = .ok (.aaload, 1)) (hp : pc + 1 = pc')
    (K : Go p.tables e below G T (mkF m pc' Ls (v :: st))) : Go p.tables e below G T (mkF m pc Ls (.int j :: .ref a :: st)) := by
  subst hp
  obtain ⟨cl, A1, S, N, H⟩ := Arv.cell A
  exact Go.step (fun t q => X.aaload C.exec (j := j) (v := v) (by rw [eT]; exact A1.1) (State.isArrayOf_alike C.warm.alike A1.2.1) hty A1.2.2 (inb S h0 h1) (H.at (inb S h0 h1) (by rw [hj]; exact hv)) (g := mkF m pc Ls (.int j :: .ref a :: st)) rfl rfl (C.at hd) t q) K
theorem Arv.put {h' : Heap} {a : Addr} {k : ClassId} {ty : FieldType} {z j : Int32} {vs : List Value} {d v : Value} (A : Arv Z h a k ty z vs d) (W : Wr h h' a j.toNatClampNeg v) (hv : fits ty v = true) (i : Nat) (hj : j.toNatClampNeg = i) (n : Nat) (hi : i < vs.length + n) : Arv Z h' a k ty z ((vs ++ List.replicate n d).set i v) d := by
  obtain ⟨cl, A1, q1, S, N, H, Gf⟩ := Arv.pad A (pad_rep vs d n)
  exact Arv.set A1 q1 S N H Gf hv W i hj (by rw [List.length_append, List.length_replicate]; exact hi)
theorem g_iastore (C : Cx p l s m meth c Z x0 code maxL ret) (X : Stand p l e R s m args below meth c T locs cells slots) {a : Addr} {k : ClassId} {z j x : Int32} {vs : List Value} {d : Value} (eT : T.heap = h) (A : Arv Z h a k .int z vs d) (h0 : 0 ≤ j.toInt) (h1 : j.toInt < z.toInt) (i n : Nat) (hj : j.toNatClampNeg = i) (hi : i < vs.length + n) {pc pc' : Nat} {Ls : Array Slot} {st : List Value} (hd : decode code pc = .ok (.iastore, 1)) (hp : pc + 1 = pc')
    (K : ∀ T' h', Stand p l e R s m args below meth c T' (locs ++ [⟨a, j.toNatClampNeg⟩]) cells slots → T'.heap = h' → Wr h h' a j.toNatClampNeg (.int x) → Arv Z h' a k .int z ((vs ++ List.replicate n d).set i (.int x)) d → Go p.tables e below G T' (mkF m pc' Ls st)) : Go p.tables e below G T (mkF m pc Ls (.int x :: .int j :: .ref a :: st)) := by
  subst hp
  obtain ⟨cl, A1, S, N, H⟩ := Arv.cell A
  obtain ⟨T1, h2, X1, e1, W1, st1⟩ := stI X C.exec C.warm eT A1 (inb S h0 h1) (g := mkF m pc Ls (.int x :: .int j :: .ref a :: st)) rfl rfl (C.at hd)
  exact Go.step st1 (K T1 h2 X1 e1 W1 (Arv.put A W1 rfl i hj n hi))
theorem g_dastore (C : Cx p l s m meth c Z x0 code maxL ret) (X : Stand p l e R s m args below meth c T locs cells slots) {a : Addr} {k : ClassId} {z j : Int32} {x : UInt64} {vs : List Value} {d : Value} (eT : T.heap = h) (A : Arv Z h a k .double z vs d) (h0 : 0 ≤ j.toInt) (h1 : j.toInt < z.toInt) (i n : Nat) (hj : j.toNatClampNeg = i) (hi : i < vs.length + n) {pc pc' : Nat} {Ls : Array Slot} {st : List Value} (hd : decode code pc = .ok (.dastore, 1)) (hp : pc + 1 = pc')
    (K : ∀ T' h', Stand p l e R s m args below meth c T' (locs ++ [⟨a, j.toNatClampNeg⟩]) cells slots → T'.heap = h' → Wr h h' a j.toNatClampNeg (.double x) → Arv Z h' a k .double z ((vs ++ List.replicate n d).set i (.double x)) d → Go p.tables e below G T' (mkF m pc' Ls st)) : Go p.tables e below G T (mkF m pc Ls (.double x :: .int j :: .ref a :: st)) := by
  subst hp
  obtain ⟨cl, A1, S, N, H⟩ := Arv.cell A
  obtain ⟨T1, h2, X1, e1, W1, st1⟩ := stD X C.exec C.warm eT A1 (inb S h0 h1) (g := mkF m pc Ls (.double x :: .int j :: .ref a :: st)) rfl rfl (C.at hd)
  exact Go.step st1 (K T1 h2 X1 e1 W1 (Arv.put A W1 rfl i hj n hi))
theorem g_ldc2J (C : Cx p l s m meth c Z x0 code maxL ret) (X : Stand p l e R s m args below meth c T locs cells slots) {index : Nat} {v : Int64} (w : (Cond.constantLong x0.cls index v).before a0 Z = true) {pc pc' : Nat} {Ls : Array Slot} {st : List Value} (hd : decode code pc = .ok (.ldc2_w index, 3)) (hp : pc + 3 = pc')
    (K : Go p.tables e below G T (mkF m pc' Ls (.long v :: st))) : Go p.tables e below G T (mkF m pc Ls st) := by
  subst hp
  exact Go.step (fun t q => X.ldc2Long C.exec C.own (mvT C.warm w) (g := mkF m pc Ls st) rfl (C.at hd) t q) K
theorem g_ldcI (C : Cx p l s m meth c Z x0 code maxL ret) (X : Stand p l e R s m args below meth c T locs cells slots) {index : Nat} {v : Int32} (w : (Cond.constant x0.cls index v).before a0 Z = true) {pc pc' : Nat} {Ls : Array Slot} {st : List Value} (hd : decode code pc = .ok (.ldc index, 2)) (hp : pc + 2 = pc')
    (K : Go p.tables e below G T (mkF m pc' Ls (.int v :: st))) : Go p.tables e below G T (mkF m pc Ls st) := by
  subst hp
  exact Go.step (fun t q => X.ldcInt C.exec C.own (mvT C.warm w) (g := mkF m pc Ls st) rfl (C.at hd) t q) K
theorem FldE.wr {h' : Heap} {a b : Addr} {C n d : String} {sl : Nat} {v : Value} (W : Wr h h' b sl v) (F : ∃ w, Fld Z h a C n d w) : ∃ w, Fld Z h' a C n d w := by
  obtain ⟨w, F⟩ := F
  by_cases q : a ≠ b ∨ RoadKit.slotOf Z C n d ≠ sl
  · exact ⟨w, F.other W q⟩
  · have q1 : a = b := Decidable.not_not.mp fun z => q (Or.inl z)
    have q2 : RoadKit.slotOf Z C n d = sl := Decidable.not_not.mp fun z => q (Or.inr z)
    subst q1 q2
    exact ⟨v, F.same W⟩
theorem g_ldc2D (C : Cx p l s m meth c Z x0 code maxL ret) (X : Stand p l e R s m args below meth c T locs cells slots) {index : Nat} {b : UInt64} (w : (Cond.constantDouble x0.cls index b).before a0 Z = true) {pc pc' : Nat} {Ls : Array Slot} {st : List Value} (hd : decode code pc = .ok (.ldc2_w index, 3)) (hp : pc + 3 = pc')
    (K : Go p.tables e below G T (mkF m pc' Ls (.double b :: st))) : Go p.tables e below G T (mkF m pc Ls st) := by
  subst hp
  exact Go.step (fun t q => X.ldc2DoubleC C.exec C.own (mvT C.warm w) (g := mkF m pc Ls st) rfl (C.at hd) t q) K
end Walk
/-! doubles that are whole numbers -/
section Dbl
open Jvm.FP.Core Jvm.Free.Fl
theorem nn_of_int {i : Int} {a : UInt64} (q : DInt i a) : NoNaN64 a := val64_no.mpr (DInt_ne_nan q)
def cmpI (i j : Int) : Int32 := if j < i then 1 else if i = j then 0 else -1
theorem cmpI_lt (i j : Int) : (cmpI i j).toInt < 0 ↔ i < j := by
  unfold cmpI
  split
  · exact ⟨fun q => absurd q (by decide), fun q => by omega⟩
  · split
    · exact ⟨fun q => absurd q (by decide), fun q => by omega⟩
    · exact ⟨fun _ => by omega, fun _ => by decide⟩
theorem cmpI_gt (i j : Int) : 0 < (cmpI i j).toInt ↔ j < i := by
  unfold cmpI
  split
  · exact ⟨fun _ => by assumption, fun _ => by decide⟩
  · split
    · exact ⟨fun q => absurd q (by decide), fun q => by omega⟩
    · exact ⟨fun q => absurd q (by decide), fun q => by omega⟩
theorem cmpI_eq (i j : Int) : (cmpI i j).toInt = 0 ↔ i = j := by
  unfold cmpI
  split
  · exact ⟨fun q => absurd q (by decide), fun q => by omega⟩
  · split
    · exact ⟨fun _ => by assumption, fun _ => by decide⟩
    · exact ⟨fun q => absurd q (by decide), fun q => by omega⟩
theorem cmpI_self (i : Int) : cmpI i i = 0 := by
  unfold cmpI
  rw [if_neg (Int.lt_irrefl i), if_pos rfl]
theorem cmpL_lt (x y : Int64) : (XT.cmpL x y).toInt < 0 ↔ x.toInt < y.toInt := by
  unfold XT.cmpL
  rw [← Int64.lt_iff_toInt_lt]
  split
  · rename_i q; exact ⟨fun q => absurd q (by decide), fun q' => absurd q' (Int64.lt_asymm q)⟩
  · split
    · rename_i q; subst q; exact ⟨fun q => absurd q (by decide), fun q' => absurd q' Int64.lt_irrefl⟩
    · rename_i q1 q2; exact ⟨fun _ => by have q3 : ¬ x.toInt = y.toInt := fun q => q2 (Int64.toInt_inj.mp q); rw [Int64.lt_iff_toInt_lt] at q1 ⊢; omega, fun _ => by decide⟩
theorem cmpL_gt (x y : Int64) : 0 < (XT.cmpL x y).toInt ↔ y.toInt < x.toInt := by
  unfold XT.cmpL
  rw [← Int64.lt_iff_toInt_lt]
  split
  · rename_i q; exact ⟨fun _ => q, fun _ => by decide⟩
  · split
    · rename_i q0 q; exact ⟨fun q => absurd q (by decide), fun q' => absurd q' q0⟩
    · rename_i q0 q; exact ⟨fun q => absurd q (by decide), fun q' => absurd q' q0⟩
theorem cmpL_eq (x y : Int64) : (XT.cmpL x y).toInt = 0 ↔ x.toInt = y.toInt := by
  unfold XT.cmpL
  rw [Int64.toInt_inj]
  split
  · rename_i q; exact ⟨fun q => absurd q (by decide), fun q' => absurd q (by rw [q']; exact Int64.lt_irrefl)⟩
  · split
    · rename_i q; exact ⟨fun _ => q, fun _ => by decide⟩
    · rename_i q0 q; exact ⟨fun q => absurd q (by decide), fun q' => absurd q' q⟩
theorem cmpV_of {r : Option Ordering} {i j : Int} (q : r = some (compare i j)) (o : CmpOp) : cmpValue r o = cmpI i j := by
  subst q
  unfold cmpI
  split
  · rename_i q; rw [(compare_gt_iff i j).mpr q]; rfl
  · split
    · rename_i q; rw [(compare_eq_iff i j).mpr q]; rfl
    · rename_i q1 q2; rw [(compare_lt_iff i j).mpr (by omega)]; rfl
theorem dcmp_cmpI {i j : Int} {a b : UInt64} (ha : DInt i a) (hb : DInt j b) (o : CmpOp) : cmpValue (FP.dcmp a b) o = cmpI i j := cmpV_of (dcmp_int ha hb) o
theorem dint_zero : DInt 0 FP.dconst0 := by
  unfold DInt
  rw [show val64 FP.dconst0 = _ from val64_dconst0]
  show signed false (0 * _) = 0 * _
  rw [Nat.zero_mul, Int.zero_mul]; rfl
end Dbl
end Jvm.OwnKit
namespace Jvm.OwnKit
section Dbl
open Jvm.FP.Core Jvm.Free.Fl
theorem i2d_D (x : Int32) : DInt x.toInt (FP.i2d x) := i2d_int x
theorem l2d_D {x : Int64} (h : x.toInt.natAbs ≤ 2 ^ 53) : DInt x.toInt (FP.l2d x) := l2d_int h
theorem dadd_D {i j : Int} {a b : UInt64} (ha : DInt i a) (hb : DInt j b) (h : (i + j).natAbs ≤ 2 ^ 53) : DInt (i + j) (FP.dadd a b) := dadd_int ha hb h
theorem dsub_D {i j : Int} {a b : UInt64} (ha : DInt i a) (hb : DInt j b) (h : (i - j).natAbs ≤ 2 ^ 53) : DInt (i - j) (FP.dsub a b) := dsub_int ha hb h
theorem dmul_D {i j : Int} {a b : UInt64} (ha : DInt i a) (hb : DInt j b) (h : (i * j).natAbs ≤ 2 ^ 53) : DInt (i * j) (FP.dmul a b) := dmul_int ha hb h
theorem dint_one' : DInt 1 FP.dconst1 := dint_one
theorem dneg_int' {i : Int} {a : UInt64} (ha : DInt i a) : DInt (-i) (FP.dneg a) := by
  unfold DInt
  rw [FP.val64_dneg]
  exact whole_negate ha
theorem own_pow_cancel {c k d q1 q2 r1 r2 : Nat} {q r : Int} (hq : (q1 : Int) - q2 = q) (hr : (r1 : Int) - r2 = r) (h : c * 2 ^ (q1 + r2) = k * d * 2 ^ (q2 + r1)) : c * 2 ^ (q - r).toNat = k * d * 2 ^ (r - q).toNat := by
  obtain ⟨n, hn⟩ : ∃ n : Nat, n = min (q1 + r2) (q2 + r1) := ⟨_, rfl⟩
  have e1 : q1 + r2 = (q - r).toNat + n := by omega
  have e2 : q2 + r1 = (r - q).toNat + n := by omega
  rw [e1, e2, Nat.pow_add, Nat.pow_add, ← Nat.mul_assoc, ← Nat.mul_assoc] at h
  exact Nat.eq_of_mul_eq_mul_right (Nat.two_pow_pos n) h
theorem ddiv_int {i j k : Int} {a b : UInt64} (ha : DInt i a) (hb : DInt j b) (hj : j ≠ 0) (hk : i = k * j) (h : k.natAbs ≤ 2 ^ 53) : DInt k (FP.ddiv a b) := by
  unfold DInt at *
  show Whole k (val64 (ddiv a b))
  rw [val64_ddiv]
  cases hva : val64 a with
  | nan => rw [hva] at ha; exact ha.elim
  | inf => rw [hva] at ha; exact ha.elim
  | fin s c q =>
    cases hvb : val64 b with
    | nan => rw [hvb] at hb; exact hb.elim
    | inf => rw [hvb] at hb; exact hb.elim
    | fin t d r =>
      rw [hva] at ha
      rw [hvb] at hb
      have hd : d ≠ 0 := fun q => hj ((whole_zero hb).mp q)
      have h1 := whole_natAbs ha
      have h2 := whole_natAbs hb
      have e1 : quotient b64 (.fin s c q) (.fin t d r) = round b64 (.fin (s != t) k.natAbs 0) := by
        show (if d = 0 then _ else roundRatio b64 (s != t) c d (q - r)) = roundRatio b64 (s != t) k.natAbs 1 0
        rw [if_neg hd]
        refine roundRatio_congr (by omega) (by decide) ?_
        have e2 : c * 2 ^ (q.toNat + (-r).toNat) = k.natAbs * d * 2 ^ ((-q).toNat + r.toNat) := by
          rw [Nat.pow_add, Nat.pow_add, ← Nat.mul_assoc, h1, hk, Int.natAbs_mul]
          calc k.natAbs * j.natAbs * 2 ^ (-q).toNat * 2 ^ (-r).toNat = k.natAbs * 2 ^ (-q).toNat * (j.natAbs * 2 ^ (-r).toNat) := by ac_rfl
            _ = k.natAbs * 2 ^ (-q).toNat * (d * 2 ^ r.toNat) := by rw [h2]
            _ = k.natAbs * d * (2 ^ (-q).toNat * 2 ^ r.toNat) := by ac_rfl
        have e3 := own_pow_cancel (q := q) (r := r) (by omega) (by omega) e2
        rw [Nat.mul_one, show (q - r - 0).toNat = (q - r).toNat by omega, show (0 - (q - r)).toNat = (r - q).toNat by omega]
        exact e3
      rw [e1]
      refine whole_round good_b64 wide_b64 h ?_
      show signed (s != t) (k.natAbs * 2 ^ 0) = k * ((2 ^ 0 : Nat) : Int)
      rw [Nat.pow_zero, Nat.mul_one]
      by_cases hk0 : k = 0
      · subst hk0; exact signed_zero _
      · have hi : i ≠ 0 := by rw [hk]; exact Int.mul_ne_zero hk0 hj
        rw [whole_sign ha hi, whole_sign hb hj]
        unfold signed
        rcases Int.lt_or_gt_of_ne hj with q1 | q1 <;> rcases Int.lt_or_gt_of_ne hk0 with q2 | q2
        · have q3 := Int.mul_pos_of_neg_of_neg q2 q1
          rw [← hk] at q3
          simp [q1, show ¬ i < 0 by omega]; omega
        · have q3 := Int.mul_neg_of_pos_of_neg q2 q1
          rw [← hk] at q3
          simp [q1, q3]; omega
        · have q3 := Int.mul_neg_of_neg_of_pos q2 q1
          rw [← hk] at q3
          simp [show ¬ j < 0 by omega, q3]; omega
        · have q3 := Int.mul_pos q2 q1
          rw [← hk] at q3
          simp [show ¬ j < 0 by omega, show ¬ i < 0 by omega]; omega
end Dbl
end Jvm.OwnKit
namespace Jvm.Pilot.@@N@@
open Jvm Jvm.ClassFile Sem Op Lib Jvm.Free Jvm.Stand Jvm.LawKit Jvm.RoadKit Jvm.OwnKit Bundle Jvm.Pilot.@@N@@.Jvm.D
theorem d1_0 : decode method_3_code 0 = .ok (.iload_n 0, 1) := by decide +kernel
theorem d1_1 : decode method_3_code 1 = .ok (.ifCond .ne 7, 3) := by decide +kernel
theorem d1_4 : decode method_3_code 4 = .ok (.iconst 0, 1) := by decide +kernel
theorem d1_5 : decode method_3_code 5 = .ok (.newarray .double, 2) := by decide +kernel
theorem d1_7 : decode method_3_code 7 = .ok (.areturn, 1) := by decide +kernel
theorem d1_8 : decode method_3_code 8 = .ok (.iload_n 0, 1) := by decide +kernel
theorem d1_9 : decode method_3_code 9 = .ok (.iconst 1, 1) := by decide +kernel
theorem d1_10 : decode method_3_code 10 = .ok (.if_icmp .ne 12, 3) := by decide +kernel
theorem d1_13 : decode method_3_code 13 = .ok (.iconst 1, 1) := by decide +kernel
theorem d1_14 : decode method_3_code 14 = .ok (.newarray .double, 2) := by decide +kernel
theorem d1_16 : decode method_3_code 16 = .ok (.dup, 1) := by decide +kernel
theorem d1_17 : decode method_3_code 17 = .ok (.iconst 0, 1) := by decide +kernel
theorem d1_18 : decode method_3_code 18 = .ok (.iload_n 1, 1) := by decide +kernel
theorem d1_19 : decode method_3_code 19 = .ok (.i2d, 1) := by decide +kernel
theorem d1_20 : decode method_3_code 20 = .ok (.dastore, 1) := by decide +kernel
theorem d1_21 : decode method_3_code 21 = .ok (.areturn, 1) := by decide +kernel
theorem d1_22 : decode method_3_code 22 = .ok (.iload_n 0, 1) := by decide +kernel
theorem d1_23 : decode method_3_code 23 = .ok (.iconst 2, 1) := by decide +kernel
theorem d1_24 : decode method_3_code 24 = .ok (.if_icmp .ne 17, 3) := by decide +kernel
theorem d1_27 : decode method_3_code 27 = .ok (.iconst 2, 1) := by decide +kernel
theorem d1_28 : decode method_3_code 28 = .ok (.newarray .double, 2) := by decide +kernel
theorem d1_30 : decode method_3_code 30 = .ok (.dup, 1) := by decide +kernel
theorem d1_31 : decode method_3_code 31 = .ok (.iconst 0, 1) := by decide +kernel
theorem d1_32 : decode method_3_code 32 = .ok (.iload_n 1, 1) := by decide +kernel
theorem d1_33 : decode method_3_code 33 = .ok (.i2d, 1) := by decide +kernel
theorem d1_34 : decode method_3_code 34 = .ok (.dastore, 1) := by decide +kernel
theorem d1_35 : decode method_3_code 35 = .ok (.dup, 1) := by decide +kernel
theorem d1_36 : decode method_3_code 36 = .ok (.iconst 1, 1) := by decide +kernel
theorem d1_37 : decode method_3_code 37 = .ok (.iload_n 2, 1) := by decide +kernel
theorem d1_38 : decode method_3_code 38 = .ok (.i2d, 1) := by decide +kernel
theorem d1_39 : decode method_3_code 39 = .ok (.dastore, 1) := by decide +kernel
theorem d1_40 : decode method_3_code 40 = .ok (.areturn, 1) := by decide +kernel
theorem d1_41 : decode method_3_code 41 = .ok (.iload_n 0, 1) := by decide +kernel
theorem d1_42 : decode method_3_code 42 = .ok (.iconst 3, 1) := by decide +kernel
theorem d1_43 : decode method_3_code 43 = .ok (.if_icmp .ne 22, 3) := by decide +kernel
theorem d1_46 : decode method_3_code 46 = .ok (.iconst 3, 1) := by decide +kernel
theorem d1_47 : decode method_3_code 47 = .ok (.newarray .double, 2) := by decide +kernel
theorem d1_49 : decode method_3_code 49 = .ok (.dup, 1) := by decide +kernel
theorem d1_50 : decode method_3_code 50 = .ok (.iconst 0, 1) := by decide +kernel
theorem d1_51 : decode method_3_code 51 = .ok (.iload_n 1, 1) := by decide +kernel
theorem d1_52 : decode method_3_code 52 = .ok (.i2d, 1) := by decide +kernel
theorem d1_53 : decode method_3_code 53 = .ok (.dastore, 1) := by decide +kernel
theorem d1_54 : decode method_3_code 54 = .ok (.dup, 1) := by decide +kernel
theorem d1_55 : decode method_3_code 55 = .ok (.iconst 1, 1) := by decide +kernel
theorem d1_56 : decode method_3_code 56 = .ok (.iload_n 2, 1) := by decide +kernel
theorem d1_57 : decode method_3_code 57 = .ok (.i2d, 1) := by decide +kernel
theorem d1_58 : decode method_3_code 58 = .ok (.dastore, 1) := by decide +kernel
theorem d1_59 : decode method_3_code 59 = .ok (.dup, 1) := by decide +kernel
theorem d1_60 : decode method_3_code 60 = .ok (.iconst 2, 1) := by decide +kernel
theorem d1_61 : decode method_3_code 61 = .ok (.iload_n 3, 1) := by decide +kernel
theorem d1_62 : decode method_3_code 62 = .ok (.i2d, 1) := by decide +kernel
theorem d1_63 : decode method_3_code 63 = .ok (.dastore, 1) := by decide +kernel
theorem d1_64 : decode method_3_code 64 = .ok (.areturn, 1) := by decide +kernel
theorem d1_65 : decode method_3_code 65 = .ok (.iload_n 0, 1) := by decide +kernel
theorem d1_66 : decode method_3_code 66 = .ok (.iconst 4, 1) := by decide +kernel
theorem d1_67 : decode method_3_code 67 = .ok (.if_icmp .ne 28, 3) := by decide +kernel
theorem d1_70 : decode method_3_code 70 = .ok (.iconst 4, 1) := by decide +kernel
theorem d1_71 : decode method_3_code 71 = .ok (.newarray .double, 2) := by decide +kernel
theorem d1_73 : decode method_3_code 73 = .ok (.dup, 1) := by decide +kernel
theorem d1_74 : decode method_3_code 74 = .ok (.iconst 0, 1) := by decide +kernel
theorem d1_75 : decode method_3_code 75 = .ok (.iload_n 1, 1) := by decide +kernel
theorem d1_76 : decode method_3_code 76 = .ok (.i2d, 1) := by decide +kernel
theorem d1_77 : decode method_3_code 77 = .ok (.dastore, 1) := by decide +kernel
theorem d1_78 : decode method_3_code 78 = .ok (.dup, 1) := by decide +kernel
theorem d1_79 : decode method_3_code 79 = .ok (.iconst 1, 1) := by decide +kernel
theorem d1_80 : decode method_3_code 80 = .ok (.iload_n 2, 1) := by decide +kernel
theorem d1_81 : decode method_3_code 81 = .ok (.i2d, 1) := by decide +kernel
theorem d1_82 : decode method_3_code 82 = .ok (.dastore, 1) := by decide +kernel
theorem d1_83 : decode method_3_code 83 = .ok (.dup, 1) := by decide +kernel
theorem d1_84 : decode method_3_code 84 = .ok (.iconst 2, 1) := by decide +kernel
theorem d1_85 : decode method_3_code 85 = .ok (.iload_n 3, 1) := by decide +kernel
theorem d1_86 : decode method_3_code 86 = .ok (.i2d, 1) := by decide +kernel
theorem d1_87 : decode method_3_code 87 = .ok (.dastore, 1) := by decide +kernel
theorem d1_88 : decode method_3_code 88 = .ok (.dup, 1) := by decide +kernel
theorem d1_89 : decode method_3_code 89 = .ok (.iconst 3, 1) := by decide +kernel
theorem d1_90 : decode method_3_code 90 = .ok (.iload 4, 2) := by decide +kernel
theorem d1_92 : decode method_3_code 92 = .ok (.i2d, 1) := by decide +kernel
theorem d1_93 : decode method_3_code 93 = .ok (.dastore, 1) := by decide +kernel
theorem d1_94 : decode method_3_code 94 = .ok (.areturn, 1) := by decide +kernel
theorem d1_95 : decode method_3_code 95 = .ok (.iconst 5, 1) := by decide +kernel
theorem d1_96 : decode method_3_code 96 = .ok (.newarray .double, 2) := by decide +kernel
theorem d1_98 : decode method_3_code 98 = .ok (.dup, 1) := by decide +kernel
theorem d1_99 : decode method_3_code 99 = .ok (.iconst 0, 1) := by decide +kernel
theorem d1_100 : decode method_3_code 100 = .ok (.iload_n 1, 1) := by decide +kernel
theorem d1_101 : decode method_3_code 101 = .ok (.i2d, 1) := by decide +kernel
theorem d1_102 : decode method_3_code 102 = .ok (.dastore, 1) := by decide +kernel
theorem d1_103 : decode method_3_code 103 = .ok (.dup, 1) := by decide +kernel
theorem d1_104 : decode method_3_code 104 = .ok (.iconst 1, 1) := by decide +kernel
theorem d1_105 : decode method_3_code 105 = .ok (.iload_n 2, 1) := by decide +kernel
theorem d1_106 : decode method_3_code 106 = .ok (.i2d, 1) := by decide +kernel
theorem d1_107 : decode method_3_code 107 = .ok (.dastore, 1) := by decide +kernel
theorem d1_108 : decode method_3_code 108 = .ok (.dup, 1) := by decide +kernel
theorem d1_109 : decode method_3_code 109 = .ok (.iconst 2, 1) := by decide +kernel
theorem d1_110 : decode method_3_code 110 = .ok (.iload_n 3, 1) := by decide +kernel
theorem d1_111 : decode method_3_code 111 = .ok (.i2d, 1) := by decide +kernel
theorem d1_112 : decode method_3_code 112 = .ok (.dastore, 1) := by decide +kernel
theorem d1_113 : decode method_3_code 113 = .ok (.dup, 1) := by decide +kernel
theorem d1_114 : decode method_3_code 114 = .ok (.iconst 3, 1) := by decide +kernel
theorem d1_115 : decode method_3_code 115 = .ok (.iload 4, 2) := by decide +kernel
theorem d1_117 : decode method_3_code 117 = .ok (.i2d, 1) := by decide +kernel
theorem d1_118 : decode method_3_code 118 = .ok (.dastore, 1) := by decide +kernel
theorem d1_119 : decode method_3_code 119 = .ok (.dup, 1) := by decide +kernel
theorem d1_120 : decode method_3_code 120 = .ok (.iconst 4, 1) := by decide +kernel
theorem d1_121 : decode method_3_code 121 = .ok (.iload 5, 2) := by decide +kernel
theorem d1_123 : decode method_3_code 123 = .ok (.i2d, 1) := by decide +kernel
theorem d1_124 : decode method_3_code 124 = .ok (.dastore, 1) := by decide +kernel
theorem d1_125 : decode method_3_code 125 = .ok (.areturn, 1) := by decide +kernel
theorem d2_0 : decode prog_34_method_6_code 0 = .ok (.dconst 0, 1) := by decide +kernel
theorem d2_1 : decode prog_34_method_6_code 1 = .ok (.dstore_n 1, 1) := by decide +kernel
theorem d2_2 : decode prog_34_method_6_code 2 = .ok (.aload_n 0, 1) := by decide +kernel
theorem d2_3 : decode prog_34_method_6_code 3 = .ok (.astore_n 3, 1) := by decide +kernel
theorem d2_4 : decode prog_34_method_6_code 4 = .ok (.aload_n 3, 1) := by decide +kernel
theorem d2_5 : decode prog_34_method_6_code 5 = .ok (.arraylength, 1) := by decide +kernel
theorem d2_6 : decode prog_34_method_6_code 6 = .ok (.istore 4, 2) := by decide +kernel
theorem d2_8 : decode prog_34_method_6_code 8 = .ok (.iconst 0, 1) := by decide +kernel
theorem d2_9 : decode prog_34_method_6_code 9 = .ok (.istore 5, 2) := by decide +kernel
theorem d2_11 : decode prog_34_method_6_code 11 = .ok (.iload 5, 2) := by decide +kernel
theorem d2_13 : decode prog_34_method_6_code 13 = .ok (.iload 4, 2) := by decide +kernel
theorem d2_15 : decode prog_34_method_6_code 15 = .ok (.if_icmp .ge 20, 3) := by decide +kernel
theorem d2_18 : decode prog_34_method_6_code 18 = .ok (.aload_n 3, 1) := by decide +kernel
theorem d2_19 : decode prog_34_method_6_code 19 = .ok (.iload 5, 2) := by decide +kernel
theorem d2_21 : decode prog_34_method_6_code 21 = .ok (.daload, 1) := by decide +kernel
theorem d2_22 : decode prog_34_method_6_code 22 = .ok (.dstore 6, 2) := by decide +kernel
theorem d2_24 : decode prog_34_method_6_code 24 = .ok (.dload_n 1, 1) := by decide +kernel
theorem d2_25 : decode prog_34_method_6_code 25 = .ok (.dload 6, 2) := by decide +kernel
theorem d2_27 : decode prog_34_method_6_code 27 = .ok (.dadd, 1) := by decide +kernel
theorem d2_28 : decode prog_34_method_6_code 28 = .ok (.dstore_n 1, 1) := by decide +kernel
theorem d2_29 : decode prog_34_method_6_code 29 = .ok (.iinc 5 1, 3) := by decide +kernel
theorem d2_32 : decode prog_34_method_6_code 32 = .ok (.goto (-21), 3) := by decide +kernel
theorem d2_35 : decode prog_34_method_6_code 35 = .ok (.dload_n 1, 1) := by decide +kernel
theorem d2_36 : decode prog_34_method_6_code 36 = .ok (.dreturn, 1) := by decide +kernel
theorem pn0 : plainName x.cls = true := by first | (simp [x, plainName, overriddenIn]; done) | decide +kernel
theorem pnB : plainName "com/example/sitewise/sitewise/SolutionSumOfPinLaw" = true := by first | (simp [plainName, overriddenIn]; done) | decide +kernel
theorem pnS : plainName "com/example/sitewise/sitewise/Solution" = true := by first | (simp [plainName, overriddenIn]; done) | decide +kernel
theorem pdB : parseMethodDescriptor "(IIIIII)[D" = some ⟨[.int, .int, .int, .int, .int, .int], some (.array .double)⟩ := by decide +kernel
theorem pdS : parseMethodDescriptor "([D)D" = some ⟨[.array .double], some .double⟩ := by decide +kernel
theorem efB (m : MethodId) (x0 x1 x2 x3 x4 x5 : Int32) : entryFrame m #[(.int x0), (.int x1), (.int x2), (.int x3), (.int x4), (.int x5)] 6 = mkF m 0 #[.val (.int x0), .val (.int x1), .val (.int x2), .val (.int x3), .val (.int x4), .val (.int x5)] [] := by first | (simp [entryFrame, mkF, argsToLocals, Value.category, maxLocals]; done) | rfl
theorem efS (m : MethodId) (a : Addr) : entryFrame m #[(.ref a)] 8 = mkF m 0 #[.val (.ref a), .unset, .unset, .unset, .unset, .unset, .unset, .unset] [] := by first | (simp [entryFrame, mkF, argsToLocals, Value.category, maxLocals]; done) | rfl
theorem ef0 (m : MethodId) (x0 x1 x2 x3 x4 x5 : Int32) : entryFrame m #[(.int x0), (.int x1), (.int x2), (.int x3), (.int x4), (.int x5)] maxLocals = mkF m 0 #[.val (.int x0), .val (.int x1), .val (.int x2), .val (.int x3), .val (.int x4), .val (.int x5), .unset, .unset, .unset, .unset, .unset, .unset] [] := by first | (simp [entryFrame, mkF, argsToLocals, Value.category, maxLocals]; done) | rfl
set_option maxRecDepth 65536 in
set_option maxHeartbeats 40000000 in
theorem c_build0 (l : Launch) (Z : State) (a0 : Array Value) (hw : ∀ d ∈ tables_1, d.before a0 Z = true) (h : Heap) (n0 : Nat) (Z0 : n0 ≤ h.size) (p1 p2 p3 p4 p5 : Int32) :
    Con l Z (⟨"com/example/sitewise/sitewise/SolutionSumOfPinLaw", "build", "(IIIIII)[D"⟩ : MethodName) method_3_code 6 (some (.array .double)) ⟨0, 1, 0, 0⟩ #[.int (0 : Int32), .int p1, .int p2, .int p3, .int p4, .int p5] h (fun v h' L => ∃ ar k, v = some (.ref ar) ∧ ar = h.size ∧ Fr n0 L ∧ Keep h h' [] ∧ Arv Z h' ar k .double (0 : Int32) [] (.double (0 : UInt64))) := by
  refine con_of_go pnB (fun m => efB m _ p1 p2 p3 p4 p5) ?_
  intro p e s m below meth c T0 C X0 e0
  refine g_iloadN C X0 (pc' := 1) d1_0 rfl rfl ?_
  refine g_ifN C X0 d1_1 (by decide) rfl ?_
  refine g_iconst C X0 (pc' := 5) d1_4 (v := (0 : Int32)) (by decide) rfl ?_
  refine g_newP C X0 (aty := .double) (hw _ (List.mem_of_getElem? (i := 4) rfl)) e0 d1_5 (by decide) 0 (by decide) (by decide) (by decide) (by decide) rfl ?_
  intro T1 h1 a1 k1 g1 X1 e1 E1 A1
  have z_a1 : n0 ≤ a1 := by rw [g1]; exact Z0
  have y_a1 : h.size ≤ a1 := by rw [g1]; exact (Keep.refl h []).1
  have P1 := (Keep.refl h []).ext E1
  have Z1 : n0 ≤ h1.size := Nat.le_trans Z0 E1.1
  have A1 : Arv Z h1 a1 k1 .double (0 : Int32) [] (.double (0 : UInt64)) := A1
  exact g_areturn C X1 d1_7 rfl rfl rfl ⟨a1, k1, rfl, g1, (Fr.nil n0), by rw [e1]; exact P1, by rw [e1]; exact A1⟩ (by decide) (by decide)
set_option maxRecDepth 65536 in
set_option maxHeartbeats 40000000 in
theorem c_sum0 (l : Launch) (Z : State) (h : Heap) (ar : Addr) (k : ClassId)  (A : Arv Z h ar k .double (0 : Int32) [] (.double (0 : UInt64))) :
    Con l Z (⟨"com/example/sitewise/sitewise/Solution", "sumOf", "([D)D"⟩ : MethodName) prog_34_method_6_code 8 (some .double) ⟨0, 0, 0, 0⟩ #[.ref ar] h (fun v h' L => ∃ r, v = some (.double r) ∧ FP.Core.DInt (0) r ∧ L = [] ∧ h' = h) := by
  refine con_of_go pnS (fun m => efS m ar) ?_
  intro p e s m below meth c T0 C X0 e0
  refine g_dconst0 C X0 (pc' := 1) d2_0 rfl rfl ?_
  refine g_dstoreN C X0 (pc' := 2) d2_1 (x := FP.dconst0) rfl (l' := #[.val (.ref ar), .val (.double FP.dconst0), .second, .unset, .unset, .unset, .unset, .unset]) rfl rfl ?_
  refine g_aloadN C X0 (pc' := 3) d2_2 rfl rfl rfl ?_
  refine g_astoreN C X0 (pc' := 4) d2_3 rfl (l' := #[.val (.ref ar), .val (.double FP.dconst0), .second, .val (.ref ar), .unset, .unset, .unset, .unset]) rfl rfl ?_
  refine g_aloadN C X0 (pc' := 5) d2_4 rfl rfl rfl ?_
  refine g_len C X0 (pc' := 6) e0 A d2_5 rfl ?_
  refine g_istore C X0 (pc' := 8) d2_6 (x := (0 : Int32)) rfl (l' := #[.val (.ref ar), .val (.double FP.dconst0), .second, .val (.ref ar), .val (.int (0 : Int32)), .unset, .unset, .unset]) rfl rfl ?_
  refine g_iconst C X0 (pc' := 9) d2_8 (v := (0 : Int32)) (by decide) rfl ?_
  refine g_istore C X0 (pc' := 11) d2_9 (x := (0 : Int32)) rfl (l' := #[.val (.ref ar), .val (.double FP.dconst0), .second, .val (.ref ar), .val (.int (0 : Int32)), .val (.int (0 : Int32)), .unset, .unset]) rfl rfl ?_
  refine g_iload C X0 (pc' := 13) d2_11 rfl rfl ?_
  refine g_iload C X0 (pc' := 15) d2_13 rfl rfl ?_
  refine g_icmpY C X0 d2_15 (pc' := 35) (by decide) (by decide) (by decide) ?_
  refine g_dloadN C X0 (pc' := 36) d2_35 rfl rfl ?_
  exact g_dreturn C X0 d2_36 ⟨_, rfl, dint_zero, rfl, e0⟩ (by decide) (by decide)
set_option maxRecDepth 65536 in
set_option maxHeartbeats 40000000 in
theorem c_build1 (l : Launch) (Z : State) (a0 : Array Value) (hw : ∀ d ∈ tables_1, d.before a0 Z = true) (h : Heap) (n0 : Nat) (Z0 : n0 ≤ h.size) (p1 p2 p3 p4 p5 : Int32) :
    Con l Z (⟨"com/example/sitewise/sitewise/SolutionSumOfPinLaw", "build", "(IIIIII)[D"⟩ : MethodName) method_3_code 6 (some (.array .double)) ⟨0, 1, 1, 0⟩ #[.int (1 : Int32), .int p1, .int p2, .int p3, .int p4, .int p5] h (fun v h' L => ∃ ar k, v = some (.ref ar) ∧ ar = h.size ∧ Fr n0 L ∧ Keep h h' [] ∧ Arv Z h' ar k .double (1 : Int32) [.double (FP.i2d p1)] (.double (0 : UInt64))) := by
  refine con_of_go pnB (fun m => efB m _ p1 p2 p3 p4 p5) ?_
  intro p e s m below meth c T0 C X0 e0
  refine g_iloadN C X0 (pc' := 1) d1_0 rfl rfl ?_
  refine g_ifY C X0 d1_1 (pc' := 8) (by decide) (by decide) (by decide) ?_
  refine g_iloadN C X0 (pc' := 9) d1_8 rfl rfl ?_
  refine g_iconst C X0 (pc' := 10) d1_9 (v := (1 : Int32)) (by decide) rfl ?_
  refine g_icmpN C X0 d1_10 (by decide) rfl ?_
  refine g_iconst C X0 (pc' := 14) d1_13 (v := (1 : Int32)) (by decide) rfl ?_
  refine g_newP C X0 (aty := .double) (hw _ (List.mem_of_getElem? (i := 4) rfl)) e0 d1_14 (by decide) 1 (by decide) (by decide) (by decide) (by decide) rfl ?_
  intro T1 h1 a1 k1 g1 X1 e1 E1 A1
  have z_a1 : n0 ≤ a1 := by rw [g1]; exact Z0
  have y_a1 : h.size ≤ a1 := by rw [g1]; exact (Keep.refl h []).1
  have P1 := (Keep.refl h []).ext E1
  have Z1 : n0 ≤ h1.size := Nat.le_trans Z0 E1.1
  have A1 : Arv Z h1 a1 k1 .double (1 : Int32) [] (.double (0 : UInt64)) := A1
  refine g_dup C X1 (pc' := 17) d1_16 rfl rfl ?_
  refine g_iconst C X1 (pc' := 18) d1_17 (v := (0 : Int32)) (by decide) rfl ?_
  refine g_iloadN C X1 (pc' := 19) d1_18 rfl rfl ?_
  refine g_i2d C X1 (pc' := 20) d1_19 rfl ?_
  refine g_dastore C X1 (pc' := 21) e1 A1 (by decide) (by decide) 0 1 (by decide) (of_decide_eq_true rfl) d1_20 rfl ?_
  intro T2 h2 X2 e2 W2 Aq
  have Z2 : n0 ≤ h2.size := by rw [W2.size]; exact Z1
  have N2 := Fr.snoc X2 (Fr.nil n0) z_a1
  have P2 := P1.wr W2 (Or.inr y_a1)
  have A1 : Arv Z h2 a1 k1 .double (1 : Int32) [(.double (FP.i2d p1))] (.double (0 : UInt64)) := Aq
  exact g_areturn C X2 d1_21 rfl rfl rfl ⟨a1, k1, rfl, g1, N2, by rw [e2]; exact P2, by rw [e2]; exact A1⟩ (by decide) (by decide)
set_option maxRecDepth 65536 in
set_option maxHeartbeats 40000000 in
theorem c_sum1 (l : Launch) (Z : State) (h : Heap) (ar : Addr) (k : ClassId) (x0 : UInt64) (i0 : Int) (D0 : FP.Core.DInt i0 x0) (B0 : -2147483648 ≤ i0 ∧ i0 < 2147483648) (A : Arv Z h ar k .double (1 : Int32) [.double x0] (.double (0 : UInt64))) :
    Con l Z (⟨"com/example/sitewise/sitewise/Solution", "sumOf", "([D)D"⟩ : MethodName) prog_34_method_6_code 8 (some .double) ⟨0, 0, 0, 0⟩ #[.ref ar] h (fun v h' L => ∃ r, v = some (.double r) ∧ FP.Core.DInt (0 + i0) r ∧ L = [] ∧ h' = h) := by
  refine con_of_go pnS (fun m => efS m ar) ?_
  intro p e s m below meth c T0 C X0 e0
  refine g_dconst0 C X0 (pc' := 1) d2_0 rfl rfl ?_
  refine g_dstoreN C X0 (pc' := 2) d2_1 (x := FP.dconst0) rfl (l' := #[.val (.ref ar), .val (.double FP.dconst0), .second, .unset, .unset, .unset, .unset, .unset]) rfl rfl ?_
  refine g_aloadN C X0 (pc' := 3) d2_2 rfl rfl rfl ?_
  refine g_astoreN C X0 (pc' := 4) d2_3 rfl (l' := #[.val (.ref ar), .val (.double FP.dconst0), .second, .val (.ref ar), .unset, .unset, .unset, .unset]) rfl rfl ?_
  refine g_aloadN C X0 (pc' := 5) d2_4 rfl rfl rfl ?_
  refine g_len C X0 (pc' := 6) e0 A d2_5 rfl ?_
  refine g_istore C X0 (pc' := 8) d2_6 (x := (1 : Int32)) rfl (l' := #[.val (.ref ar), .val (.double FP.dconst0), .second, .val (.ref ar), .val (.int (1 : Int32)), .unset, .unset, .unset]) rfl rfl ?_
  refine g_iconst C X0 (pc' := 9) d2_8 (v := (0 : Int32)) (by decide) rfl ?_
  refine g_istore C X0 (pc' := 11) d2_9 (x := (0 : Int32)) rfl (l' := #[.val (.ref ar), .val (.double FP.dconst0), .second, .val (.ref ar), .val (.int (1 : Int32)), .val (.int (0 : Int32)), .unset, .unset]) rfl rfl ?_
  refine g_iload C X0 (pc' := 13) d2_11 rfl rfl ?_
  refine g_iload C X0 (pc' := 15) d2_13 rfl rfl ?_
  refine g_icmpN C X0 d2_15 (by decide) rfl ?_
  refine g_aloadN C X0 (pc' := 19) d2_18 rfl rfl rfl ?_
  refine g_iload C X0 (pc' := 21) d2_19 rfl rfl ?_
  refine g_daload C X0 (pc' := 22) e0 A (by decide) (by decide) 0 (by decide) rfl d2_21 rfl ?_
  refine g_dstore C X0 (pc' := 24) d2_22 (x := x0) rfl (l' := #[.val (.ref ar), .val (.double FP.dconst0), .second, .val (.ref ar), .val (.int (1 : Int32)), .val (.int (0 : Int32)), .val (.double x0), .second]) rfl rfl ?_
  refine g_dloadN C X0 (pc' := 25) d2_24 rfl rfl ?_
  refine g_dload C X0 (pc' := 27) d2_25 rfl rfl ?_
  have D101 : FP.Core.DInt (0 + i0) (FP.dadd FP.dconst0 x0) := dadd_D dint_zero D0 (by omega)
  refine g_dadd C X0 (pc' := 28) d2_27 (nn_of_int D101) rfl ?_
  obtain ⟨d102, e_d102⟩ : ∃ z : UInt64, z = FP.dadd FP.dconst0 x0 := ⟨_, rfl⟩
  have D_d102 : FP.Core.DInt (0 + i0) d102 := e_d102 ▸ D101
  refine g_dstoreN C X0 (pc' := 29) d2_28 (x := d102) e_d102 (l' := #[.val (.ref ar), .val (.double d102), .second, .val (.ref ar), .val (.int (1 : Int32)), .val (.int (0 : Int32)), .val (.double x0), .second]) rfl rfl ?_
  refine g_iinc C X0 (pc' := 32) d2_29 rfl (z := (1 : Int32)) (by decide) (l' := #[.val (.ref ar), .val (.double d102), .second, .val (.ref ar), .val (.int (1 : Int32)), .val (.int (1 : Int32)), .val (.double x0), .second]) rfl rfl ?_
  refine g_goto C X0 d2_32 (pc' := 11) (by decide) (by decide) ?_
  refine g_iload C X0 (pc' := 13) d2_11 rfl rfl ?_
  refine g_iload C X0 (pc' := 15) d2_13 rfl rfl ?_
  refine g_icmpY C X0 d2_15 (pc' := 35) (by decide) (by decide) (by decide) ?_
  refine g_dloadN C X0 (pc' := 36) d2_35 rfl rfl ?_
  exact g_dreturn C X0 d2_36 ⟨_, rfl, D_d102, rfl, e0⟩ (by decide) (by decide)
set_option maxRecDepth 65536 in
set_option maxHeartbeats 40000000 in
theorem c_build2 (l : Launch) (Z : State) (a0 : Array Value) (hw : ∀ d ∈ tables_1, d.before a0 Z = true) (h : Heap) (n0 : Nat) (Z0 : n0 ≤ h.size) (p1 p2 p3 p4 p5 : Int32) :
    Con l Z (⟨"com/example/sitewise/sitewise/SolutionSumOfPinLaw", "build", "(IIIIII)[D"⟩ : MethodName) method_3_code 6 (some (.array .double)) ⟨0, 1, 2, 0⟩ #[.int (2 : Int32), .int p1, .int p2, .int p3, .int p4, .int p5] h (fun v h' L => ∃ ar k, v = some (.ref ar) ∧ ar = h.size ∧ Fr n0 L ∧ Keep h h' [] ∧ Arv Z h' ar k .double (2 : Int32) [.double (FP.i2d p1), .double (FP.i2d p2)] (.double (0 : UInt64))) := by
  refine con_of_go pnB (fun m => efB m _ p1 p2 p3 p4 p5) ?_
  intro p e s m below meth c T0 C X0 e0
  refine g_iloadN C X0 (pc' := 1) d1_0 rfl rfl ?_
  refine g_ifY C X0 d1_1 (pc' := 8) (by decide) (by decide) (by decide) ?_
  refine g_iloadN C X0 (pc' := 9) d1_8 rfl rfl ?_
  refine g_iconst C X0 (pc' := 10) d1_9 (v := (1 : Int32)) (by decide) rfl ?_
  refine g_icmpY C X0 d1_10 (pc' := 22) (by decide) (by decide) (by decide) ?_
  refine g_iloadN C X0 (pc' := 23) d1_22 rfl rfl ?_
  refine g_iconst C X0 (pc' := 24) d1_23 (v := (2 : Int32)) (by decide) rfl ?_
  refine g_icmpN C X0 d1_24 (by decide) rfl ?_
  refine g_iconst C X0 (pc' := 28) d1_27 (v := (2 : Int32)) (by decide) rfl ?_
  refine g_newP C X0 (aty := .double) (hw _ (List.mem_of_getElem? (i := 4) rfl)) e0 d1_28 (by decide) 2 (by decide) (by decide) (by decide) (by decide) rfl ?_
  intro T1 h1 a1 k1 g1 X1 e1 E1 A1
  have z_a1 : n0 ≤ a1 := by rw [g1]; exact Z0
  have y_a1 : h.size ≤ a1 := by rw [g1]; exact (Keep.refl h []).1
  have P1 := (Keep.refl h []).ext E1
  have Z1 : n0 ≤ h1.size := Nat.le_trans Z0 E1.1
  have A1 : Arv Z h1 a1 k1 .double (2 : Int32) [] (.double (0 : UInt64)) := A1
  refine g_dup C X1 (pc' := 31) d1_30 rfl rfl ?_
  refine g_iconst C X1 (pc' := 32) d1_31 (v := (0 : Int32)) (by decide) rfl ?_
  refine g_iloadN C X1 (pc' := 33) d1_32 rfl rfl ?_
  refine g_i2d C X1 (pc' := 34) d1_33 rfl ?_
  refine g_dastore C X1 (pc' := 35) e1 A1 (by decide) (by decide) 0 1 (by decide) (of_decide_eq_true rfl) d1_34 rfl ?_
  intro T2 h2 X2 e2 W2 Aq
  have Z2 : n0 ≤ h2.size := by rw [W2.size]; exact Z1
  have N2 := Fr.snoc X2 (Fr.nil n0) z_a1
  have P2 := P1.wr W2 (Or.inr y_a1)
  have A1 : Arv Z h2 a1 k1 .double (2 : Int32) [(.double (FP.i2d p1))] (.double (0 : UInt64)) := Aq
  refine g_dup C X2 (pc' := 36) d1_35 rfl rfl ?_
  refine g_iconst C X2 (pc' := 37) d1_36 (v := (1 : Int32)) (by decide) rfl ?_
  refine g_iloadN C X2 (pc' := 38) d1_37 rfl rfl ?_
  refine g_i2d C X2 (pc' := 39) d1_38 rfl ?_
  refine g_dastore C X2 (pc' := 40) e2 A1 (by decide) (by decide) 1 1 (by decide) (of_decide_eq_true rfl) d1_39 rfl ?_
  intro T3 h3 X3 e3 W3 Aq
  have Z3 : n0 ≤ h3.size := by rw [W3.size]; exact Z2
  have N3 := Fr.snoc X3 N2 z_a1
  have P3 := P2.wr W3 (Or.inr y_a1)
  have A1 : Arv Z h3 a1 k1 .double (2 : Int32) [(.double (FP.i2d p1)), (.double (FP.i2d p2))] (.double (0 : UInt64)) := Aq
  exact g_areturn C X3 d1_40 rfl rfl rfl ⟨a1, k1, rfl, g1, N3, by rw [e3]; exact P3, by rw [e3]; exact A1⟩ (by decide) (by decide)
set_option maxRecDepth 65536 in
set_option maxHeartbeats 40000000 in
theorem c_sum2 (l : Launch) (Z : State) (h : Heap) (ar : Addr) (k : ClassId) (x0 : UInt64) (x1 : UInt64) (i0 : Int) (i1 : Int) (D0 : FP.Core.DInt i0 x0) (D1 : FP.Core.DInt i1 x1) (B0 : -2147483648 ≤ i0 ∧ i0 < 2147483648) (B1 : -2147483648 ≤ i1 ∧ i1 < 2147483648) (A : Arv Z h ar k .double (2 : Int32) [.double x0, .double x1] (.double (0 : UInt64))) :
    Con l Z (⟨"com/example/sitewise/sitewise/Solution", "sumOf", "([D)D"⟩ : MethodName) prog_34_method_6_code 8 (some .double) ⟨0, 0, 0, 0⟩ #[.ref ar] h (fun v h' L => ∃ r, v = some (.double r) ∧ FP.Core.DInt (0 + i0 + i1) r ∧ L = [] ∧ h' = h) := by
  refine con_of_go pnS (fun m => efS m ar) ?_
  intro p e s m below meth c T0 C X0 e0
  refine g_dconst0 C X0 (pc' := 1) d2_0 rfl rfl ?_
  refine g_dstoreN C X0 (pc' := 2) d2_1 (x := FP.dconst0) rfl (l' := #[.val (.ref ar), .val (.double FP.dconst0), .second, .unset, .unset, .unset, .unset, .unset]) rfl rfl ?_
  refine g_aloadN C X0 (pc' := 3) d2_2 rfl rfl rfl ?_
  refine g_astoreN C X0 (pc' := 4) d2_3 rfl (l' := #[.val (.ref ar), .val (.double FP.dconst0), .second, .val (.ref ar), .unset, .unset, .unset, .unset]) rfl rfl ?_
  refine g_aloadN C X0 (pc' := 5) d2_4 rfl rfl rfl ?_
  refine g_len C X0 (pc' := 6) e0 A d2_5 rfl ?_
  refine g_istore C X0 (pc' := 8) d2_6 (x := (2 : Int32)) rfl (l' := #[.val (.ref ar), .val (.double FP.dconst0), .second, .val (.ref ar), .val (.int (2 : Int32)), .unset, .unset, .unset]) rfl rfl ?_
  refine g_iconst C X0 (pc' := 9) d2_8 (v := (0 : Int32)) (by decide) rfl ?_
  refine g_istore C X0 (pc' := 11) d2_9 (x := (0 : Int32)) rfl (l' := #[.val (.ref ar), .val (.double FP.dconst0), .second, .val (.ref ar), .val (.int (2 : Int32)), .val (.int (0 : Int32)), .unset, .unset]) rfl rfl ?_
  refine g_iload C X0 (pc' := 13) d2_11 rfl rfl ?_
  refine g_iload C X0 (pc' := 15) d2_13 rfl rfl ?_
  refine g_icmpN C X0 d2_15 (by decide) rfl ?_
  refine g_aloadN C X0 (pc' := 19) d2_18 rfl rfl rfl ?_
  refine g_iload C X0 (pc' := 21) d2_19 rfl rfl ?_
  refine g_daload C X0 (pc' := 22) e0 A (by decide) (by decide) 0 (by decide) rfl d2_21 rfl ?_
  refine g_dstore C X0 (pc' := 24) d2_22 (x := x0) rfl (l' := #[.val (.ref ar), .val (.double FP.dconst0), .second, .val (.ref ar), .val (.int (2 : Int32)), .val (.int (0 : Int32)), .val (.double x0), .second]) rfl rfl ?_
  refine g_dloadN C X0 (pc' := 25) d2_24 rfl rfl ?_
  refine g_dload C X0 (pc' := 27) d2_25 rfl rfl ?_
  have D101 : FP.Core.DInt (0 + i0) (FP.dadd FP.dconst0 x0) := dadd_D dint_zero D0 (by omega)
  refine g_dadd C X0 (pc' := 28) d2_27 (nn_of_int D101) rfl ?_
  obtain ⟨d102, e_d102⟩ : ∃ z : UInt64, z = FP.dadd FP.dconst0 x0 := ⟨_, rfl⟩
  have D_d102 : FP.Core.DInt (0 + i0) d102 := e_d102 ▸ D101
  refine g_dstoreN C X0 (pc' := 29) d2_28 (x := d102) e_d102 (l' := #[.val (.ref ar), .val (.double d102), .second, .val (.ref ar), .val (.int (2 : Int32)), .val (.int (0 : Int32)), .val (.double x0), .second]) rfl rfl ?_
  refine g_iinc C X0 (pc' := 32) d2_29 rfl (z := (1 : Int32)) (by decide) (l' := #[.val (.ref ar), .val (.double d102), .second, .val (.ref ar), .val (.int (2 : Int32)), .val (.int (1 : Int32)), .val (.double x0), .second]) rfl rfl ?_
  refine g_goto C X0 d2_32 (pc' := 11) (by decide) (by decide) ?_
  refine g_iload C X0 (pc' := 13) d2_11 rfl rfl ?_
  refine g_iload C X0 (pc' := 15) d2_13 rfl rfl ?_
  refine g_icmpN C X0 d2_15 (by decide) rfl ?_
  refine g_aloadN C X0 (pc' := 19) d2_18 rfl rfl rfl ?_
  refine g_iload C X0 (pc' := 21) d2_19 rfl rfl ?_
  refine g_daload C X0 (pc' := 22) e0 A (by decide) (by decide) 1 (by decide) rfl d2_21 rfl ?_
  refine g_dstore C X0 (pc' := 24) d2_22 (x := x1) rfl (l' := #[.val (.ref ar), .val (.double d102), .second, .val (.ref ar), .val (.int (2 : Int32)), .val (.int (1 : Int32)), .val (.double x1), .second]) rfl rfl ?_
  refine g_dloadN C X0 (pc' := 25) d2_24 rfl rfl ?_
  refine g_dload C X0 (pc' := 27) d2_25 rfl rfl ?_
  have D103 : FP.Core.DInt ((0 + i0) + i1) (FP.dadd d102 x1) := dadd_D D_d102 D1 (by omega)
  refine g_dadd C X0 (pc' := 28) d2_27 (nn_of_int D103) rfl ?_
  obtain ⟨d104, e_d104⟩ : ∃ z : UInt64, z = FP.dadd d102 x1 := ⟨_, rfl⟩
  have D_d104 : FP.Core.DInt ((0 + i0) + i1) d104 := e_d104 ▸ D103
  refine g_dstoreN C X0 (pc' := 29) d2_28 (x := d104) e_d104 (l' := #[.val (.ref ar), .val (.double d104), .second, .val (.ref ar), .val (.int (2 : Int32)), .val (.int (1 : Int32)), .val (.double x1), .second]) rfl rfl ?_
  refine g_iinc C X0 (pc' := 32) d2_29 rfl (z := (2 : Int32)) (by decide) (l' := #[.val (.ref ar), .val (.double d104), .second, .val (.ref ar), .val (.int (2 : Int32)), .val (.int (2 : Int32)), .val (.double x1), .second]) rfl rfl ?_
  refine g_goto C X0 d2_32 (pc' := 11) (by decide) (by decide) ?_
  refine g_iload C X0 (pc' := 13) d2_11 rfl rfl ?_
  refine g_iload C X0 (pc' := 15) d2_13 rfl rfl ?_
  refine g_icmpY C X0 d2_15 (pc' := 35) (by decide) (by decide) (by decide) ?_
  refine g_dloadN C X0 (pc' := 36) d2_35 rfl rfl ?_
  exact g_dreturn C X0 d2_36 ⟨_, rfl, D_d104, rfl, e0⟩ (by decide) (by decide)
set_option maxRecDepth 65536 in
set_option maxHeartbeats 40000000 in
theorem c_build3 (l : Launch) (Z : State) (a0 : Array Value) (hw : ∀ d ∈ tables_1, d.before a0 Z = true) (h : Heap) (n0 : Nat) (Z0 : n0 ≤ h.size) (p1 p2 p3 p4 p5 : Int32) :
    Con l Z (⟨"com/example/sitewise/sitewise/SolutionSumOfPinLaw", "build", "(IIIIII)[D"⟩ : MethodName) method_3_code 6 (some (.array .double)) ⟨0, 1, 3, 0⟩ #[.int (3 : Int32), .int p1, .int p2, .int p3, .int p4, .int p5] h (fun v h' L => ∃ ar k, v = some (.ref ar) ∧ ar = h.size ∧ Fr n0 L ∧ Keep h h' [] ∧ Arv Z h' ar k .double (3 : Int32) [.double (FP.i2d p1), .double (FP.i2d p2), .double (FP.i2d p3)] (.double (0 : UInt64))) := by
  refine con_of_go pnB (fun m => efB m _ p1 p2 p3 p4 p5) ?_
  intro p e s m below meth c T0 C X0 e0
  refine g_iloadN C X0 (pc' := 1) d1_0 rfl rfl ?_
  refine g_ifY C X0 d1_1 (pc' := 8) (by decide) (by decide) (by decide) ?_
  refine g_iloadN C X0 (pc' := 9) d1_8 rfl rfl ?_
  refine g_iconst C X0 (pc' := 10) d1_9 (v := (1 : Int32)) (by decide) rfl ?_
  refine g_icmpY C X0 d1_10 (pc' := 22) (by decide) (by decide) (by decide) ?_
  refine g_iloadN C X0 (pc' := 23) d1_22 rfl rfl ?_
  refine g_iconst C X0 (pc' := 24) d1_23 (v := (2 : Int32)) (by decide) rfl ?_
  refine g_icmpY C X0 d1_24 (pc' := 41) (by decide) (by decide) (by decide) ?_
  refine g_iloadN C X0 (pc' := 42) d1_41 rfl rfl ?_
  refine g_iconst C X0 (pc' := 43) d1_42 (v := (3 : Int32)) (by decide) rfl ?_
  refine g_icmpN C X0 d1_43 (by decide) rfl ?_
  refine g_iconst C X0 (pc' := 47) d1_46 (v := (3 : Int32)) (by decide) rfl ?_
  refine g_newP C X0 (aty := .double) (hw _ (List.mem_of_getElem? (i := 4) rfl)) e0 d1_47 (by decide) 3 (by decide) (by decide) (by decide) (by decide) rfl ?_
  intro T1 h1 a1 k1 g1 X1 e1 E1 A1
  have z_a1 : n0 ≤ a1 := by rw [g1]; exact Z0
  have y_a1 : h.size ≤ a1 := by rw [g1]; exact (Keep.refl h []).1
  have P1 := (Keep.refl h []).ext E1
  have Z1 : n0 ≤ h1.size := Nat.le_trans Z0 E1.1
  have A1 : Arv Z h1 a1 k1 .double (3 : Int32) [] (.double (0 : UInt64)) := A1
  refine g_dup C X1 (pc' := 50) d1_49 rfl rfl ?_
  refine g_iconst C X1 (pc' := 51) d1_50 (v := (0 : Int32)) (by decide) rfl ?_
  refine g_iloadN C X1 (pc' := 52) d1_51 rfl rfl ?_
  refine g_i2d C X1 (pc' := 53) d1_52 rfl ?_
  refine g_dastore C X1 (pc' := 54) e1 A1 (by decide) (by decide) 0 1 (by decide) (of_decide_eq_true rfl) d1_53 rfl ?_
  intro T2 h2 X2 e2 W2 Aq
  have Z2 : n0 ≤ h2.size := by rw [W2.size]; exact Z1
  have N2 := Fr.snoc X2 (Fr.nil n0) z_a1
  have P2 := P1.wr W2 (Or.inr y_a1)
  have A1 : Arv Z h2 a1 k1 .double (3 : Int32) [(.double (FP.i2d p1))] (.double (0 : UInt64)) := Aq
  refine g_dup C X2 (pc' := 55) d1_54 rfl rfl ?_
  refine g_iconst C X2 (pc' := 56) d1_55 (v := (1 : Int32)) (by decide) rfl ?_
  refine g_iloadN C X2 (pc' := 57) d1_56 rfl rfl ?_
  refine g_i2d C X2 (pc' := 58) d1_57 rfl ?_
  refine g_dastore C X2 (pc' := 59) e2 A1 (by decide) (by decide) 1 1 (by decide) (of_decide_eq_true rfl) d1_58 rfl ?_
  intro T3 h3 X3 e3 W3 Aq
  have Z3 : n0 ≤ h3.size := by rw [W3.size]; exact Z2
  have N3 := Fr.snoc X3 N2 z_a1
  have P3 := P2.wr W3 (Or.inr y_a1)
  have A1 : Arv Z h3 a1 k1 .double (3 : Int32) [(.double (FP.i2d p1)), (.double (FP.i2d p2))] (.double (0 : UInt64)) := Aq
  refine g_dup C X3 (pc' := 60) d1_59 rfl rfl ?_
  refine g_iconst C X3 (pc' := 61) d1_60 (v := (2 : Int32)) (by decide) rfl ?_
  refine g_iloadN C X3 (pc' := 62) d1_61 rfl rfl ?_
  refine g_i2d C X3 (pc' := 63) d1_62 rfl ?_
  refine g_dastore C X3 (pc' := 64) e3 A1 (by decide) (by decide) 2 1 (by decide) (of_decide_eq_true rfl) d1_63 rfl ?_
  intro T4 h4 X4 e4 W4 Aq
  have Z4 : n0 ≤ h4.size := by rw [W4.size]; exact Z3
  have N4 := Fr.snoc X4 N3 z_a1
  have P4 := P3.wr W4 (Or.inr y_a1)
  have A1 : Arv Z h4 a1 k1 .double (3 : Int32) [(.double (FP.i2d p1)), (.double (FP.i2d p2)), (.double (FP.i2d p3))] (.double (0 : UInt64)) := Aq
  exact g_areturn C X4 d1_64 rfl rfl rfl ⟨a1, k1, rfl, g1, N4, by rw [e4]; exact P4, by rw [e4]; exact A1⟩ (by decide) (by decide)
set_option maxRecDepth 65536 in
set_option maxHeartbeats 40000000 in
theorem c_sum3 (l : Launch) (Z : State) (h : Heap) (ar : Addr) (k : ClassId) (x0 : UInt64) (x1 : UInt64) (x2 : UInt64) (i0 : Int) (i1 : Int) (i2 : Int) (D0 : FP.Core.DInt i0 x0) (D1 : FP.Core.DInt i1 x1) (D2 : FP.Core.DInt i2 x2) (B0 : -2147483648 ≤ i0 ∧ i0 < 2147483648) (B1 : -2147483648 ≤ i1 ∧ i1 < 2147483648) (B2 : -2147483648 ≤ i2 ∧ i2 < 2147483648) (A : Arv Z h ar k .double (3 : Int32) [.double x0, .double x1, .double x2] (.double (0 : UInt64))) :
    Con l Z (⟨"com/example/sitewise/sitewise/Solution", "sumOf", "([D)D"⟩ : MethodName) prog_34_method_6_code 8 (some .double) ⟨0, 0, 0, 0⟩ #[.ref ar] h (fun v h' L => ∃ r, v = some (.double r) ∧ FP.Core.DInt (0 + i0 + i1 + i2) r ∧ L = [] ∧ h' = h) := by
  refine con_of_go pnS (fun m => efS m ar) ?_
  intro p e s m below meth c T0 C X0 e0
  refine g_dconst0 C X0 (pc' := 1) d2_0 rfl rfl ?_
  refine g_dstoreN C X0 (pc' := 2) d2_1 (x := FP.dconst0) rfl (l' := #[.val (.ref ar), .val (.double FP.dconst0), .second, .unset, .unset, .unset, .unset, .unset]) rfl rfl ?_
  refine g_aloadN C X0 (pc' := 3) d2_2 rfl rfl rfl ?_
  refine g_astoreN C X0 (pc' := 4) d2_3 rfl (l' := #[.val (.ref ar), .val (.double FP.dconst0), .second, .val (.ref ar), .unset, .unset, .unset, .unset]) rfl rfl ?_
  refine g_aloadN C X0 (pc' := 5) d2_4 rfl rfl rfl ?_
  refine g_len C X0 (pc' := 6) e0 A d2_5 rfl ?_
  refine g_istore C X0 (pc' := 8) d2_6 (x := (3 : Int32)) rfl (l' := #[.val (.ref ar), .val (.double FP.dconst0), .second, .val (.ref ar), .val (.int (3 : Int32)), .unset, .unset, .unset]) rfl rfl ?_
  refine g_iconst C X0 (pc' := 9) d2_8 (v := (0 : Int32)) (by decide) rfl ?_
  refine g_istore C X0 (pc' := 11) d2_9 (x := (0 : Int32)) rfl (l' := #[.val (.ref ar), .val (.double FP.dconst0), .second, .val (.ref ar), .val (.int (3 : Int32)), .val (.int (0 : Int32)), .unset, .unset]) rfl rfl ?_
  refine g_iload C X0 (pc' := 13) d2_11 rfl rfl ?_
  refine g_iload C X0 (pc' := 15) d2_13 rfl rfl ?_
  refine g_icmpN C X0 d2_15 (by decide) rfl ?_
  refine g_aloadN C X0 (pc' := 19) d2_18 rfl rfl rfl ?_
  refine g_iload C X0 (pc' := 21) d2_19 rfl rfl ?_
  refine g_daload C X0 (pc' := 22) e0 A (by decide) (by decide) 0 (by decide) rfl d2_21 rfl ?_
  refine g_dstore C X0 (pc' := 24) d2_22 (x := x0) rfl (l' := #[.val (.ref ar), .val (.double FP.dconst0), .second, .val (.ref ar), .val (.int (3 : Int32)), .val (.int (0 : Int32)), .val (.double x0), .second]) rfl rfl ?_
  refine g_dloadN C X0 (pc' := 25) d2_24 rfl rfl ?_
  refine g_dload C X0 (pc' := 27) d2_25 rfl rfl ?_
  have D101 : FP.Core.DInt (0 + i0) (FP.dadd FP.dconst0 x0) := dadd_D dint_zero D0 (by omega)
  refine g_dadd C X0 (pc' := 28) d2_27 (nn_of_int D101) rfl ?_
  obtain ⟨d102, e_d102⟩ : ∃ z : UInt64, z = FP.dadd FP.dconst0 x0 := ⟨_, rfl⟩
  have D_d102 : FP.Core.DInt (0 + i0) d102 := e_d102 ▸ D101
  refine g_dstoreN C X0 (pc' := 29) d2_28 (x := d102) e_d102 (l' := #[.val (.ref ar), .val (.double d102), .second, .val (.ref ar), .val (.int (3 : Int32)), .val (.int (0 : Int32)), .val (.double x0), .second]) rfl rfl ?_
  refine g_iinc C X0 (pc' := 32) d2_29 rfl (z := (1 : Int32)) (by decide) (l' := #[.val (.ref ar), .val (.double d102), .second, .val (.ref ar), .val (.int (3 : Int32)), .val (.int (1 : Int32)), .val (.double x0), .second]) rfl rfl ?_
  refine g_goto C X0 d2_32 (pc' := 11) (by decide) (by decide) ?_
  refine g_iload C X0 (pc' := 13) d2_11 rfl rfl ?_
  refine g_iload C X0 (pc' := 15) d2_13 rfl rfl ?_
  refine g_icmpN C X0 d2_15 (by decide) rfl ?_
  refine g_aloadN C X0 (pc' := 19) d2_18 rfl rfl rfl ?_
  refine g_iload C X0 (pc' := 21) d2_19 rfl rfl ?_
  refine g_daload C X0 (pc' := 22) e0 A (by decide) (by decide) 1 (by decide) rfl d2_21 rfl ?_
  refine g_dstore C X0 (pc' := 24) d2_22 (x := x1) rfl (l' := #[.val (.ref ar), .val (.double d102), .second, .val (.ref ar), .val (.int (3 : Int32)), .val (.int (1 : Int32)), .val (.double x1), .second]) rfl rfl ?_
  refine g_dloadN C X0 (pc' := 25) d2_24 rfl rfl ?_
  refine g_dload C X0 (pc' := 27) d2_25 rfl rfl ?_
  have D103 : FP.Core.DInt ((0 + i0) + i1) (FP.dadd d102 x1) := dadd_D D_d102 D1 (by omega)
  refine g_dadd C X0 (pc' := 28) d2_27 (nn_of_int D103) rfl ?_
  obtain ⟨d104, e_d104⟩ : ∃ z : UInt64, z = FP.dadd d102 x1 := ⟨_, rfl⟩
  have D_d104 : FP.Core.DInt ((0 + i0) + i1) d104 := e_d104 ▸ D103
  refine g_dstoreN C X0 (pc' := 29) d2_28 (x := d104) e_d104 (l' := #[.val (.ref ar), .val (.double d104), .second, .val (.ref ar), .val (.int (3 : Int32)), .val (.int (1 : Int32)), .val (.double x1), .second]) rfl rfl ?_
  refine g_iinc C X0 (pc' := 32) d2_29 rfl (z := (2 : Int32)) (by decide) (l' := #[.val (.ref ar), .val (.double d104), .second, .val (.ref ar), .val (.int (3 : Int32)), .val (.int (2 : Int32)), .val (.double x1), .second]) rfl rfl ?_
  refine g_goto C X0 d2_32 (pc' := 11) (by decide) (by decide) ?_
  refine g_iload C X0 (pc' := 13) d2_11 rfl rfl ?_
  refine g_iload C X0 (pc' := 15) d2_13 rfl rfl ?_
  refine g_icmpN C X0 d2_15 (by decide) rfl ?_
  refine g_aloadN C X0 (pc' := 19) d2_18 rfl rfl rfl ?_
  refine g_iload C X0 (pc' := 21) d2_19 rfl rfl ?_
  refine g_daload C X0 (pc' := 22) e0 A (by decide) (by decide) 2 (by decide) rfl d2_21 rfl ?_
  refine g_dstore C X0 (pc' := 24) d2_22 (x := x2) rfl (l' := #[.val (.ref ar), .val (.double d104), .second, .val (.ref ar), .val (.int (3 : Int32)), .val (.int (2 : Int32)), .val (.double x2), .second]) rfl rfl ?_
  refine g_dloadN C X0 (pc' := 25) d2_24 rfl rfl ?_
  refine g_dload C X0 (pc' := 27) d2_25 rfl rfl ?_
  have D105 : FP.Core.DInt (((0 + i0) + i1) + i2) (FP.dadd d104 x2) := dadd_D D_d104 D2 (by omega)
  refine g_dadd C X0 (pc' := 28) d2_27 (nn_of_int D105) rfl ?_
  obtain ⟨d106, e_d106⟩ : ∃ z : UInt64, z = FP.dadd d104 x2 := ⟨_, rfl⟩
  have D_d106 : FP.Core.DInt (((0 + i0) + i1) + i2) d106 := e_d106 ▸ D105
  refine g_dstoreN C X0 (pc' := 29) d2_28 (x := d106) e_d106 (l' := #[.val (.ref ar), .val (.double d106), .second, .val (.ref ar), .val (.int (3 : Int32)), .val (.int (2 : Int32)), .val (.double x2), .second]) rfl rfl ?_
  refine g_iinc C X0 (pc' := 32) d2_29 rfl (z := (3 : Int32)) (by decide) (l' := #[.val (.ref ar), .val (.double d106), .second, .val (.ref ar), .val (.int (3 : Int32)), .val (.int (3 : Int32)), .val (.double x2), .second]) rfl rfl ?_
  refine g_goto C X0 d2_32 (pc' := 11) (by decide) (by decide) ?_
  refine g_iload C X0 (pc' := 13) d2_11 rfl rfl ?_
  refine g_iload C X0 (pc' := 15) d2_13 rfl rfl ?_
  refine g_icmpY C X0 d2_15 (pc' := 35) (by decide) (by decide) (by decide) ?_
  refine g_dloadN C X0 (pc' := 36) d2_35 rfl rfl ?_
  exact g_dreturn C X0 d2_36 ⟨_, rfl, D_d106, rfl, e0⟩ (by decide) (by decide)
set_option maxRecDepth 65536 in
set_option maxHeartbeats 40000000 in
theorem c_build4 (l : Launch) (Z : State) (a0 : Array Value) (hw : ∀ d ∈ tables_1, d.before a0 Z = true) (h : Heap) (n0 : Nat) (Z0 : n0 ≤ h.size) (p1 p2 p3 p4 p5 : Int32) :
    Con l Z (⟨"com/example/sitewise/sitewise/SolutionSumOfPinLaw", "build", "(IIIIII)[D"⟩ : MethodName) method_3_code 6 (some (.array .double)) ⟨0, 1, 4, 0⟩ #[.int (4 : Int32), .int p1, .int p2, .int p3, .int p4, .int p5] h (fun v h' L => ∃ ar k, v = some (.ref ar) ∧ ar = h.size ∧ Fr n0 L ∧ Keep h h' [] ∧ Arv Z h' ar k .double (4 : Int32) [.double (FP.i2d p1), .double (FP.i2d p2), .double (FP.i2d p3), .double (FP.i2d p4)] (.double (0 : UInt64))) := by
  refine con_of_go pnB (fun m => efB m _ p1 p2 p3 p4 p5) ?_
  intro p e s m below meth c T0 C X0 e0
  refine g_iloadN C X0 (pc' := 1) d1_0 rfl rfl ?_
  refine g_ifY C X0 d1_1 (pc' := 8) (by decide) (by decide) (by decide) ?_
  refine g_iloadN C X0 (pc' := 9) d1_8 rfl rfl ?_
  refine g_iconst C X0 (pc' := 10) d1_9 (v := (1 : Int32)) (by decide) rfl ?_
  refine g_icmpY C X0 d1_10 (pc' := 22) (by decide) (by decide) (by decide) ?_
  refine g_iloadN C X0 (pc' := 23) d1_22 rfl rfl ?_
  refine g_iconst C X0 (pc' := 24) d1_23 (v := (2 : Int32)) (by decide) rfl ?_
  refine g_icmpY C X0 d1_24 (pc' := 41) (by decide) (by decide) (by decide) ?_
  refine g_iloadN C X0 (pc' := 42) d1_41 rfl rfl ?_
  refine g_iconst C X0 (pc' := 43) d1_42 (v := (3 : Int32)) (by decide) rfl ?_
  refine g_icmpY C X0 d1_43 (pc' := 65) (by decide) (by decide) (by decide) ?_
  refine g_iloadN C X0 (pc' := 66) d1_65 rfl rfl ?_
  refine g_iconst C X0 (pc' := 67) d1_66 (v := (4 : Int32)) (by decide) rfl ?_
  refine g_icmpN C X0 d1_67 (by decide) rfl ?_
  refine g_iconst C X0 (pc' := 71) d1_70 (v := (4 : Int32)) (by decide) rfl ?_
  refine g_newP C X0 (aty := .double) (hw _ (List.mem_of_getElem? (i := 4) rfl)) e0 d1_71 (by decide) 4 (by decide) (by decide) (by decide) (by decide) rfl ?_
  intro T1 h1 a1 k1 g1 X1 e1 E1 A1
  have z_a1 : n0 ≤ a1 := by rw [g1]; exact Z0
  have y_a1 : h.size ≤ a1 := by rw [g1]; exact (Keep.refl h []).1
  have P1 := (Keep.refl h []).ext E1
  have Z1 : n0 ≤ h1.size := Nat.le_trans Z0 E1.1
  have A1 : Arv Z h1 a1 k1 .double (4 : Int32) [] (.double (0 : UInt64)) := A1
  refine g_dup C X1 (pc' := 74) d1_73 rfl rfl ?_
  refine g_iconst C X1 (pc' := 75) d1_74 (v := (0 : Int32)) (by decide) rfl ?_
  refine g_iloadN C X1 (pc' := 76) d1_75 rfl rfl ?_
  refine g_i2d C X1 (pc' := 77) d1_76 rfl ?_
  refine g_dastore C X1 (pc' := 78) e1 A1 (by decide) (by decide) 0 1 (by decide) (of_decide_eq_true rfl) d1_77 rfl ?_
  intro T2 h2 X2 e2 W2 Aq
  have Z2 : n0 ≤ h2.size := by rw [W2.size]; exact Z1
  have N2 := Fr.snoc X2 (Fr.nil n0) z_a1
  have P2 := P1.wr W2 (Or.inr y_a1)
  have A1 : Arv Z h2 a1 k1 .double (4 : Int32) [(.double (FP.i2d p1))] (.double (0 : UInt64)) := Aq
  refine g_dup C X2 (pc' := 79) d1_78 rfl rfl ?_
  refine g_iconst C X2 (pc' := 80) d1_79 (v := (1 : Int32)) (by decide) rfl ?_
  refine g_iloadN C X2 (pc' := 81) d1_80 rfl rfl ?_
  refine g_i2d C X2 (pc' := 82) d1_81 rfl ?_
  refine g_dastore C X2 (pc' := 83) e2 A1 (by decide) (by decide) 1 1 (by decide) (of_decide_eq_true rfl) d1_82 rfl ?_
  intro T3 h3 X3 e3 W3 Aq
  have Z3 : n0 ≤ h3.size := by rw [W3.size]; exact Z2
  have N3 := Fr.snoc X3 N2 z_a1
  have P3 := P2.wr W3 (Or.inr y_a1)
  have A1 : Arv Z h3 a1 k1 .double (4 : Int32) [(.double (FP.i2d p1)), (.double (FP.i2d p2))] (.double (0 : UInt64)) := Aq
  refine g_dup C X3 (pc' := 84) d1_83 rfl rfl ?_
  refine g_iconst C X3 (pc' := 85) d1_84 (v := (2 : Int32)) (by decide) rfl ?_
  refine g_iloadN C X3 (pc' := 86) d1_85 rfl rfl ?_
  refine g_i2d C X3 (pc' := 87) d1_86 rfl ?_
  refine g_dastore C X3 (pc' := 88) e3 A1 (by decide) (by decide) 2 1 (by decide) (of_decide_eq_true rfl) d1_87 rfl ?_
  intro T4 h4 X4 e4 W4 Aq
  have Z4 : n0 ≤ h4.size := by rw [W4.size]; exact Z3
  have N4 := Fr.snoc X4 N3 z_a1
  have P4 := P3.wr W4 (Or.inr y_a1)
  have A1 : Arv Z h4 a1 k1 .double (4 : Int32) [(.double (FP.i2d p1)), (.double (FP.i2d p2)), (.double (FP.i2d p3))] (.double (0 : UInt64)) := Aq
  refine g_dup C X4 (pc' := 89) d1_88 rfl rfl ?_
  refine g_iconst C X4 (pc' := 90) d1_89 (v := (3 : Int32)) (by decide) rfl ?_
  refine g_iload C X4 (pc' := 92) d1_90 rfl rfl ?_
  refine g_i2d C X4 (pc' := 93) d1_92 rfl ?_
  refine g_dastore C X4 (pc' := 94) e4 A1 (by decide) (by decide) 3 1 (by decide) (of_decide_eq_true rfl) d1_93 rfl ?_
  intro T5 h5 X5 e5 W5 Aq
  have Z5 : n0 ≤ h5.size := by rw [W5.size]; exact Z4
  have N5 := Fr.snoc X5 N4 z_a1
  have P5 := P4.wr W5 (Or.inr y_a1)
  have A1 : Arv Z h5 a1 k1 .double (4 : Int32) [(.double (FP.i2d p1)), (.double (FP.i2d p2)), (.double (FP.i2d p3)), (.double (FP.i2d p4))] (.double (0 : UInt64)) := Aq
  exact g_areturn C X5 d1_94 rfl rfl rfl ⟨a1, k1, rfl, g1, N5, by rw [e5]; exact P5, by rw [e5]; exact A1⟩ (by decide) (by decide)
set_option maxRecDepth 65536 in
set_option maxHeartbeats 40000000 in
theorem c_sum4 (l : Launch) (Z : State) (h : Heap) (ar : Addr) (k : ClassId) (x0 : UInt64) (x1 : UInt64) (x2 : UInt64) (x3 : UInt64) (i0 : Int) (i1 : Int) (i2 : Int) (i3 : Int) (D0 : FP.Core.DInt i0 x0) (D1 : FP.Core.DInt i1 x1) (D2 : FP.Core.DInt i2 x2) (D3 : FP.Core.DInt i3 x3) (B0 : -2147483648 ≤ i0 ∧ i0 < 2147483648) (B1 : -2147483648 ≤ i1 ∧ i1 < 2147483648) (B2 : -2147483648 ≤ i2 ∧ i2 < 2147483648) (B3 : -2147483648 ≤ i3 ∧ i3 < 2147483648) (A : Arv Z h ar k .double (4 : Int32) [.double x0, .double x1, .double x2, .double x3] (.double (0 : UInt64))) :
    Con l Z (⟨"com/example/sitewise/sitewise/Solution", "sumOf", "([D)D"⟩ : MethodName) prog_34_method_6_code 8 (some .double) ⟨0, 0, 0, 0⟩ #[.ref ar] h (fun v h' L => ∃ r, v = some (.double r) ∧ FP.Core.DInt (0 + i0 + i1 + i2 + i3) r ∧ L = [] ∧ h' = h) := by
  refine con_of_go pnS (fun m => efS m ar) ?_
  intro p e s m below meth c T0 C X0 e0
  refine g_dconst0 C X0 (pc' := 1) d2_0 rfl rfl ?_
  refine g_dstoreN C X0 (pc' := 2) d2_1 (x := FP.dconst0) rfl (l' := #[.val (.ref ar), .val (.double FP.dconst0), .second, .unset, .unset, .unset, .unset, .unset]) rfl rfl ?_
  refine g_aloadN C X0 (pc' := 3) d2_2 rfl rfl rfl ?_
  refine g_astoreN C X0 (pc' := 4) d2_3 rfl (l' := #[.val (.ref ar), .val (.double FP.dconst0), .second, .val (.ref ar), .unset, .unset, .unset, .unset]) rfl rfl ?_
  refine g_aloadN C X0 (pc' := 5) d2_4 rfl rfl rfl ?_
  refine g_len C X0 (pc' := 6) e0 A d2_5 rfl ?_
  refine g_istore C X0 (pc' := 8) d2_6 (x := (4 : Int32)) rfl (l' := #[.val (.ref ar), .val (.double FP.dconst0), .second, .val (.ref ar), .val (.int (4 : Int32)), .unset, .unset, .unset]) rfl rfl ?_
  refine g_iconst C X0 (pc' := 9) d2_8 (v := (0 : Int32)) (by decide) rfl ?_
  refine g_istore C X0 (pc' := 11) d2_9 (x := (0 : Int32)) rfl (l' := #[.val (.ref ar), .val (.double FP.dconst0), .second, .val (.ref ar), .val (.int (4 : Int32)), .val (.int (0 : Int32)), .unset, .unset]) rfl rfl ?_
  refine g_iload C X0 (pc' := 13) d2_11 rfl rfl ?_
  refine g_iload C X0 (pc' := 15) d2_13 rfl rfl ?_
  refine g_icmpN C X0 d2_15 (by decide) rfl ?_
  refine g_aloadN C X0 (pc' := 19) d2_18 rfl rfl rfl ?_
  refine g_iload C X0 (pc' := 21) d2_19 rfl rfl ?_
  refine g_daload C X0 (pc' := 22) e0 A (by decide) (by decide) 0 (by decide) rfl d2_21 rfl ?_
  refine g_dstore C X0 (pc' := 24) d2_22 (x := x0) rfl (l' := #[.val (.ref ar), .val (.double FP.dconst0), .second, .val (.ref ar), .val (.int (4 : Int32)), .val (.int (0 : Int32)), .val (.double x0), .second]) rfl rfl ?_
  refine g_dloadN C X0 (pc' := 25) d2_24 rfl rfl ?_
  refine g_dload C X0 (pc' := 27) d2_25 rfl rfl ?_
  have D101 : FP.Core.DInt (0 + i0) (FP.dadd FP.dconst0 x0) := dadd_D dint_zero D0 (by omega)
  refine g_dadd C X0 (pc' := 28) d2_27 (nn_of_int D101) rfl ?_
  obtain ⟨d102, e_d102⟩ : ∃ z : UInt64, z = FP.dadd FP.dconst0 x0 := ⟨_, rfl⟩
  have D_d102 : FP.Core.DInt (0 + i0) d102 := e_d102 ▸ D101
  refine g_dstoreN C X0 (pc' := 29) d2_28 (x := d102) e_d102 (l' := #[.val (.ref ar), .val (.double d102), .second, .val (.ref ar), .val (.int (4 : Int32)), .val (.int (0 : Int32)), .val (.double x0), .second]) rfl rfl ?_
  refine g_iinc C X0 (pc' := 32) d2_29 rfl (z := (1 : Int32)) (by decide) (l' := #[.val (.ref ar), .val (.double d102), .second, .val (.ref ar), .val (.int (4 : Int32)), .val (.int (1 : Int32)), .val (.double x0), .second]) rfl rfl ?_
  refine g_goto C X0 d2_32 (pc' := 11) (by decide) (by decide) ?_
  refine g_iload C X0 (pc' := 13) d2_11 rfl rfl ?_
  refine g_iload C X0 (pc' := 15) d2_13 rfl rfl ?_
  refine g_icmpN C X0 d2_15 (by decide) rfl ?_
  refine g_aloadN C X0 (pc' := 19) d2_18 rfl rfl rfl ?_
  refine g_iload C X0 (pc' := 21) d2_19 rfl rfl ?_
  refine g_daload C X0 (pc' := 22) e0 A (by decide) (by decide) 1 (by decide) rfl d2_21 rfl ?_
  refine g_dstore C X0 (pc' := 24) d2_22 (x := x1) rfl (l' := #[.val (.ref ar), .val (.double d102), .second, .val (.ref ar), .val (.int (4 : Int32)), .val (.int (1 : Int32)), .val (.double x1), .second]) rfl rfl ?_
  refine g_dloadN C X0 (pc' := 25) d2_24 rfl rfl ?_
  refine g_dload C X0 (pc' := 27) d2_25 rfl rfl ?_
  have D103 : FP.Core.DInt ((0 + i0) + i1) (FP.dadd d102 x1) := dadd_D D_d102 D1 (by omega)
  refine g_dadd C X0 (pc' := 28) d2_27 (nn_of_int D103) rfl ?_
  obtain ⟨d104, e_d104⟩ : ∃ z : UInt64, z = FP.dadd d102 x1 := ⟨_, rfl⟩
  have D_d104 : FP.Core.DInt ((0 + i0) + i1) d104 := e_d104 ▸ D103
  refine g_dstoreN C X0 (pc' := 29) d2_28 (x := d104) e_d104 (l' := #[.val (.ref ar), .val (.double d104), .second, .val (.ref ar), .val (.int (4 : Int32)), .val (.int (1 : Int32)), .val (.double x1), .second]) rfl rfl ?_
  refine g_iinc C X0 (pc' := 32) d2_29 rfl (z := (2 : Int32)) (by decide) (l' := #[.val (.ref ar), .val (.double d104), .second, .val (.ref ar), .val (.int (4 : Int32)), .val (.int (2 : Int32)), .val (.double x1), .second]) rfl rfl ?_
  refine g_goto C X0 d2_32 (pc' := 11) (by decide) (by decide) ?_
  refine g_iload C X0 (pc' := 13) d2_11 rfl rfl ?_
  refine g_iload C X0 (pc' := 15) d2_13 rfl rfl ?_
  refine g_icmpN C X0 d2_15 (by decide) rfl ?_
  refine g_aloadN C X0 (pc' := 19) d2_18 rfl rfl rfl ?_
  refine g_iload C X0 (pc' := 21) d2_19 rfl rfl ?_
  refine g_daload C X0 (pc' := 22) e0 A (by decide) (by decide) 2 (by decide) rfl d2_21 rfl ?_
  refine g_dstore C X0 (pc' := 24) d2_22 (x := x2) rfl (l' := #[.val (.ref ar), .val (.double d104), .second, .val (.ref ar), .val (.int (4 : Int32)), .val (.int (2 : Int32)), .val (.double x2), .second]) rfl rfl ?_
  refine g_dloadN C X0 (pc' := 25) d2_24 rfl rfl ?_
  refine g_dload C X0 (pc' := 27) d2_25 rfl rfl ?_
  have D105 : FP.Core.DInt (((0 + i0) + i1) + i2) (FP.dadd d104 x2) := dadd_D D_d104 D2 (by omega)
  refine g_dadd C X0 (pc' := 28) d2_27 (nn_of_int D105) rfl ?_
  obtain ⟨d106, e_d106⟩ : ∃ z : UInt64, z = FP.dadd d104 x2 := ⟨_, rfl⟩
  have D_d106 : FP.Core.DInt (((0 + i0) + i1) + i2) d106 := e_d106 ▸ D105
  refine g_dstoreN C X0 (pc' := 29) d2_28 (x := d106) e_d106 (l' := #[.val (.ref ar), .val (.double d106), .second, .val (.ref ar), .val (.int (4 : Int32)), .val (.int (2 : Int32)), .val (.double x2), .second]) rfl rfl ?_
  refine g_iinc C X0 (pc' := 32) d2_29 rfl (z := (3 : Int32)) (by decide) (l' := #[.val (.ref ar), .val (.double d106), .second, .val (.ref ar), .val (.int (4 : Int32)), .val (.int (3 : Int32)), .val (.double x2), .second]) rfl rfl ?_
  refine g_goto C X0 d2_32 (pc' := 11) (by decide) (by decide) ?_
  refine g_iload C X0 (pc' := 13) d2_11 rfl rfl ?_
  refine g_iload C X0 (pc' := 15) d2_13 rfl rfl ?_
  refine g_icmpN C X0 d2_15 (by decide) rfl ?_
  refine g_aloadN C X0 (pc' := 19) d2_18 rfl rfl rfl ?_
  refine g_iload C X0 (pc' := 21) d2_19 rfl rfl ?_
  refine g_daload C X0 (pc' := 22) e0 A (by decide) (by decide) 3 (by decide) rfl d2_21 rfl ?_
  refine g_dstore C X0 (pc' := 24) d2_22 (x := x3) rfl (l' := #[.val (.ref ar), .val (.double d106), .second, .val (.ref ar), .val (.int (4 : Int32)), .val (.int (3 : Int32)), .val (.double x3), .second]) rfl rfl ?_
  refine g_dloadN C X0 (pc' := 25) d2_24 rfl rfl ?_
  refine g_dload C X0 (pc' := 27) d2_25 rfl rfl ?_
  have D107 : FP.Core.DInt ((((0 + i0) + i1) + i2) + i3) (FP.dadd d106 x3) := dadd_D D_d106 D3 (by omega)
  refine g_dadd C X0 (pc' := 28) d2_27 (nn_of_int D107) rfl ?_
  obtain ⟨d108, e_d108⟩ : ∃ z : UInt64, z = FP.dadd d106 x3 := ⟨_, rfl⟩
  have D_d108 : FP.Core.DInt ((((0 + i0) + i1) + i2) + i3) d108 := e_d108 ▸ D107
  refine g_dstoreN C X0 (pc' := 29) d2_28 (x := d108) e_d108 (l' := #[.val (.ref ar), .val (.double d108), .second, .val (.ref ar), .val (.int (4 : Int32)), .val (.int (3 : Int32)), .val (.double x3), .second]) rfl rfl ?_
  refine g_iinc C X0 (pc' := 32) d2_29 rfl (z := (4 : Int32)) (by decide) (l' := #[.val (.ref ar), .val (.double d108), .second, .val (.ref ar), .val (.int (4 : Int32)), .val (.int (4 : Int32)), .val (.double x3), .second]) rfl rfl ?_
  refine g_goto C X0 d2_32 (pc' := 11) (by decide) (by decide) ?_
  refine g_iload C X0 (pc' := 13) d2_11 rfl rfl ?_
  refine g_iload C X0 (pc' := 15) d2_13 rfl rfl ?_
  refine g_icmpY C X0 d2_15 (pc' := 35) (by decide) (by decide) (by decide) ?_
  refine g_dloadN C X0 (pc' := 36) d2_35 rfl rfl ?_
  exact g_dreturn C X0 d2_36 ⟨_, rfl, D_d108, rfl, e0⟩ (by decide) (by decide)
set_option maxRecDepth 65536 in
set_option maxHeartbeats 40000000 in
theorem c_build5 (l : Launch) (Z : State) (a0 : Array Value) (hw : ∀ d ∈ tables_1, d.before a0 Z = true) (h : Heap) (n0 : Nat) (Z0 : n0 ≤ h.size) (p1 p2 p3 p4 p5 : Int32) :
    Con l Z (⟨"com/example/sitewise/sitewise/SolutionSumOfPinLaw", "build", "(IIIIII)[D"⟩ : MethodName) method_3_code 6 (some (.array .double)) ⟨0, 1, 5, 0⟩ #[.int (5 : Int32), .int p1, .int p2, .int p3, .int p4, .int p5] h (fun v h' L => ∃ ar k, v = some (.ref ar) ∧ ar = h.size ∧ Fr n0 L ∧ Keep h h' [] ∧ Arv Z h' ar k .double (5 : Int32) [.double (FP.i2d p1), .double (FP.i2d p2), .double (FP.i2d p3), .double (FP.i2d p4), .double (FP.i2d p5)] (.double (0 : UInt64))) := by
  refine con_of_go pnB (fun m => efB m _ p1 p2 p3 p4 p5) ?_
  intro p e s m below meth c T0 C X0 e0
  refine g_iloadN C X0 (pc' := 1) d1_0 rfl rfl ?_
  refine g_ifY C X0 d1_1 (pc' := 8) (by decide) (by decide) (by decide) ?_
  refine g_iloadN C X0 (pc' := 9) d1_8 rfl rfl ?_
  refine g_iconst C X0 (pc' := 10) d1_9 (v := (1 : Int32)) (by decide) rfl ?_
  refine g_icmpY C X0 d1_10 (pc' := 22) (by decide) (by decide) (by decide) ?_
  refine g_iloadN C X0 (pc' := 23) d1_22 rfl rfl ?_
  refine g_iconst C X0 (pc' := 24) d1_23 (v := (2 : Int32)) (by decide) rfl ?_
  refine g_icmpY C X0 d1_24 (pc' := 41) (by decide) (by decide) (by decide) ?_
  refine g_iloadN C X0 (pc' := 42) d1_41 rfl rfl ?_
  refine g_iconst C X0 (pc' := 43) d1_42 (v := (3 : Int32)) (by decide) rfl ?_
  refine g_icmpY C X0 d1_43 (pc' := 65) (by decide) (by decide) (by decide) ?_
  refine g_iloadN C X0 (pc' := 66) d1_65 rfl rfl ?_
  refine g_iconst C X0 (pc' := 67) d1_66 (v := (4 : Int32)) (by decide) rfl ?_
  refine g_icmpY C X0 d1_67 (pc' := 95) (by decide) (by decide) (by decide) ?_
  refine g_iconst C X0 (pc' := 96) d1_95 (v := (5 : Int32)) (by decide) rfl ?_
  refine g_newP C X0 (aty := .double) (hw _ (List.mem_of_getElem? (i := 4) rfl)) e0 d1_96 (by decide) 5 (by decide) (by decide) (by decide) (by decide) rfl ?_
  intro T1 h1 a1 k1 g1 X1 e1 E1 A1
  have z_a1 : n0 ≤ a1 := by rw [g1]; exact Z0
  have y_a1 : h.size ≤ a1 := by rw [g1]; exact (Keep.refl h []).1
  have P1 := (Keep.refl h []).ext E1
  have Z1 : n0 ≤ h1.size := Nat.le_trans Z0 E1.1
  have A1 : Arv Z h1 a1 k1 .double (5 : Int32) [] (.double (0 : UInt64)) := A1
  refine g_dup C X1 (pc' := 99) d1_98 rfl rfl ?_
  refine g_iconst C X1 (pc' := 100) d1_99 (v := (0 : Int32)) (by decide) rfl ?_
  refine g_iloadN C X1 (pc' := 101) d1_100 rfl rfl ?_
  refine g_i2d C X1 (pc' := 102) d1_101 rfl ?_
  refine g_dastore C X1 (pc' := 103) e1 A1 (by decide) (by decide) 0 1 (by decide) (of_decide_eq_true rfl) d1_102 rfl ?_
  intro T2 h2 X2 e2 W2 Aq
  have Z2 : n0 ≤ h2.size := by rw [W2.size]; exact Z1
  have N2 := Fr.snoc X2 (Fr.nil n0) z_a1
  have P2 := P1.wr W2 (Or.inr y_a1)
  have A1 : Arv Z h2 a1 k1 .double (5 : Int32) [(.double (FP.i2d p1))] (.double (0 : UInt64)) := Aq
  refine g_dup C X2 (pc' := 104) d1_103 rfl rfl ?_
  refine g_iconst C X2 (pc' := 105) d1_104 (v := (1 : Int32)) (by decide) rfl ?_
  refine g_iloadN C X2 (pc' := 106) d1_105 rfl rfl ?_
  refine g_i2d C X2 (pc' := 107) d1_106 rfl ?_
  refine g_dastore C X2 (pc' := 108) e2 A1 (by decide) (by decide) 1 1 (by decide) (of_decide_eq_true rfl) d1_107 rfl ?_
  intro T3 h3 X3 e3 W3 Aq
  have Z3 : n0 ≤ h3.size := by rw [W3.size]; exact Z2
  have N3 := Fr.snoc X3 N2 z_a1
  have P3 := P2.wr W3 (Or.inr y_a1)
  have A1 : Arv Z h3 a1 k1 .double (5 : Int32) [(.double (FP.i2d p1)), (.double (FP.i2d p2))] (.double (0 : UInt64)) := Aq
  refine g_dup C X3 (pc' := 109) d1_108 rfl rfl ?_
  refine g_iconst C X3 (pc' := 110) d1_109 (v := (2 : Int32)) (by decide) rfl ?_
  refine g_iloadN C X3 (pc' := 111) d1_110 rfl rfl ?_
  refine g_i2d C X3 (pc' := 112) d1_111 rfl ?_
  refine g_dastore C X3 (pc' := 113) e3 A1 (by decide) (by decide) 2 1 (by decide) (of_decide_eq_true rfl) d1_112 rfl ?_
  intro T4 h4 X4 e4 W4 Aq
  have Z4 : n0 ≤ h4.size := by rw [W4.size]; exact Z3
  have N4 := Fr.snoc X4 N3 z_a1
  have P4 := P3.wr W4 (Or.inr y_a1)
  have A1 : Arv Z h4 a1 k1 .double (5 : Int32) [(.double (FP.i2d p1)), (.double (FP.i2d p2)), (.double (FP.i2d p3))] (.double (0 : UInt64)) := Aq
  refine g_dup C X4 (pc' := 114) d1_113 rfl rfl ?_
  refine g_iconst C X4 (pc' := 115) d1_114 (v := (3 : Int32)) (by decide) rfl ?_
  refine g_iload C X4 (pc' := 117) d1_115 rfl rfl ?_
  refine g_i2d C X4 (pc' := 118) d1_117 rfl ?_
  refine g_dastore C X4 (pc' := 119) e4 A1 (by decide) (by decide) 3 1 (by decide) (of_decide_eq_true rfl) d1_118 rfl ?_
  intro T5 h5 X5 e5 W5 Aq
  have Z5 : n0 ≤ h5.size := by rw [W5.size]; exact Z4
  have N5 := Fr.snoc X5 N4 z_a1
  have P5 := P4.wr W5 (Or.inr y_a1)
  have A1 : Arv Z h5 a1 k1 .double (5 : Int32) [(.double (FP.i2d p1)), (.double (FP.i2d p2)), (.double (FP.i2d p3)), (.double (FP.i2d p4))] (.double (0 : UInt64)) := Aq
  refine g_dup C X5 (pc' := 120) d1_119 rfl rfl ?_
  refine g_iconst C X5 (pc' := 121) d1_120 (v := (4 : Int32)) (by decide) rfl ?_
  refine g_iload C X5 (pc' := 123) d1_121 rfl rfl ?_
  refine g_i2d C X5 (pc' := 124) d1_123 rfl ?_
  refine g_dastore C X5 (pc' := 125) e5 A1 (by decide) (by decide) 4 1 (by decide) (of_decide_eq_true rfl) d1_124 rfl ?_
  intro T6 h6 X6 e6 W6 Aq
  have Z6 : n0 ≤ h6.size := by rw [W6.size]; exact Z5
  have N6 := Fr.snoc X6 N5 z_a1
  have P6 := P5.wr W6 (Or.inr y_a1)
  have A1 : Arv Z h6 a1 k1 .double (5 : Int32) [(.double (FP.i2d p1)), (.double (FP.i2d p2)), (.double (FP.i2d p3)), (.double (FP.i2d p4)), (.double (FP.i2d p5))] (.double (0 : UInt64)) := Aq
  exact g_areturn C X6 d1_125 rfl rfl rfl ⟨a1, k1, rfl, g1, N6, by rw [e6]; exact P6, by rw [e6]; exact A1⟩ (by decide) (by decide)
set_option maxRecDepth 65536 in
set_option maxHeartbeats 40000000 in
theorem c_sum5 (l : Launch) (Z : State) (h : Heap) (ar : Addr) (k : ClassId) (x0 : UInt64) (x1 : UInt64) (x2 : UInt64) (x3 : UInt64) (x4 : UInt64) (i0 : Int) (i1 : Int) (i2 : Int) (i3 : Int) (i4 : Int) (D0 : FP.Core.DInt i0 x0) (D1 : FP.Core.DInt i1 x1) (D2 : FP.Core.DInt i2 x2) (D3 : FP.Core.DInt i3 x3) (D4 : FP.Core.DInt i4 x4) (B0 : -2147483648 ≤ i0 ∧ i0 < 2147483648) (B1 : -2147483648 ≤ i1 ∧ i1 < 2147483648) (B2 : -2147483648 ≤ i2 ∧ i2 < 2147483648) (B3 : -2147483648 ≤ i3 ∧ i3 < 2147483648) (B4 : -2147483648 ≤ i4 ∧ i4 < 2147483648) (A : Arv Z h ar k .double (5 : Int32) [.double x0, .double x1, .double x2, .double x3, .double x4] (.double (0 : UInt64))) :
    Con l Z (⟨"com/example/sitewise/sitewise/Solution", "sumOf", "([D)D"⟩ : MethodName) prog_34_method_6_code 8 (some .double) ⟨0, 0, 0, 0⟩ #[.ref ar] h (fun v h' L => ∃ r, v = some (.double r) ∧ FP.Core.DInt (0 + i0 + i1 + i2 + i3 + i4) r ∧ L = [] ∧ h' = h) := by
  refine con_of_go pnS (fun m => efS m ar) ?_
  intro p e s m below meth c T0 C X0 e0
  refine g_dconst0 C X0 (pc' := 1) d2_0 rfl rfl ?_
  refine g_dstoreN C X0 (pc' := 2) d2_1 (x := FP.dconst0) rfl (l' := #[.val (.ref ar), .val (.double FP.dconst0), .second, .unset, .unset, .unset, .unset, .unset]) rfl rfl ?_
  refine g_aloadN C X0 (pc' := 3) d2_2 rfl rfl rfl ?_
  refine g_astoreN C X0 (pc' := 4) d2_3 rfl (l' := #[.val (.ref ar), .val (.double FP.dconst0), .second, .val (.ref ar), .unset, .unset, .unset, .unset]) rfl rfl ?_
  refine g_aloadN C X0 (pc' := 5) d2_4 rfl rfl rfl ?_
  refine g_len C X0 (pc' := 6) e0 A d2_5 rfl ?_
  refine g_istore C X0 (pc' := 8) d2_6 (x := (5 : Int32)) rfl (l' := #[.val (.ref ar), .val (.double FP.dconst0), .second, .val (.ref ar), .val (.int (5 : Int32)), .unset, .unset, .unset]) rfl rfl ?_
  refine g_iconst C X0 (pc' := 9) d2_8 (v := (0 : Int32)) (by decide) rfl ?_
  refine g_istore C X0 (pc' := 11) d2_9 (x := (0 : Int32)) rfl (l' := #[.val (.ref ar), .val (.double FP.dconst0), .second, .val (.ref ar), .val (.int (5 : Int32)), .val (.int (0 : Int32)), .unset, .unset]) rfl rfl ?_
  refine g_iload C X0 (pc' := 13) d2_11 rfl rfl ?_
  refine g_iload C X0 (pc' := 15) d2_13 rfl rfl ?_
  refine g_icmpN C X0 d2_15 (by decide) rfl ?_
  refine g_aloadN C X0 (pc' := 19) d2_18 rfl rfl rfl ?_
  refine g_iload C X0 (pc' := 21) d2_19 rfl rfl ?_
  refine g_daload C X0 (pc' := 22) e0 A (by decide) (by decide) 0 (by decide) rfl d2_21 rfl ?_
  refine g_dstore C X0 (pc' := 24) d2_22 (x := x0) rfl (l' := #[.val (.ref ar), .val (.double FP.dconst0), .second, .val (.ref ar), .val (.int (5 : Int32)), .val (.int (0 : Int32)), .val (.double x0), .second]) rfl rfl ?_
  refine g_dloadN C X0 (pc' := 25) d2_24 rfl rfl ?_
  refine g_dload C X0 (pc' := 27) d2_25 rfl rfl ?_
  have D101 : FP.Core.DInt (0 + i0) (FP.dadd FP.dconst0 x0) := dadd_D dint_zero D0 (by omega)
  refine g_dadd C X0 (pc' := 28) d2_27 (nn_of_int D101) rfl ?_
  obtain ⟨d102, e_d102⟩ : ∃ z : UInt64, z = FP.dadd FP.dconst0 x0 := ⟨_, rfl⟩
  have D_d102 : FP.Core.DInt (0 + i0) d102 := e_d102 ▸ D101
  refine g_dstoreN C X0 (pc' := 29) d2_28 (x := d102) e_d102 (l' := #[.val (.ref ar), .val (.double d102), .second, .val (.ref ar), .val (.int (5 : Int32)), .val (.int (0 : Int32)), .val (.double x0), .second]) rfl rfl ?_
  refine g_iinc C X0 (pc' := 32) d2_29 rfl (z := (1 : Int32)) (by decide) (l' := #[.val (.ref ar), .val (.double d102), .second, .val (.ref ar), .val (.int (5 : Int32)), .val (.int (1 : Int32)), .val (.double x0), .second]) rfl rfl ?_
  refine g_goto C X0 d2_32 (pc' := 11) (by decide) (by decide) ?_
  refine g_iload C X0 (pc' := 13) d2_11 rfl rfl ?_
  refine g_iload C X0 (pc' := 15) d2_13 rfl rfl ?_
  refine g_icmpN C X0 d2_15 (by decide) rfl ?_
  refine g_aloadN C X0 (pc' := 19) d2_18 rfl rfl rfl ?_
  refine g_iload C X0 (pc' := 21) d2_19 rfl rfl ?_
  refine g_daload C X0 (pc' := 22) e0 A (by decide) (by decide) 1 (by decide) rfl d2_21 rfl ?_
  refine g_dstore C X0 (pc' := 24) d2_22 (x := x1) rfl (l' := #[.val (.ref ar), .val (.double d102), .second, .val (.ref ar), .val (.int (5 : Int32)), .val (.int (1 : Int32)), .val (.double x1), .second]) rfl rfl ?_
  refine g_dloadN C X0 (pc' := 25) d2_24 rfl rfl ?_
  refine g_dload C X0 (pc' := 27) d2_25 rfl rfl ?_
  have D103 : FP.Core.DInt ((0 + i0) + i1) (FP.dadd d102 x1) := dadd_D D_d102 D1 (by omega)
  refine g_dadd C X0 (pc' := 28) d2_27 (nn_of_int D103) rfl ?_
  obtain ⟨d104, e_d104⟩ : ∃ z : UInt64, z = FP.dadd d102 x1 := ⟨_, rfl⟩
  have D_d104 : FP.Core.DInt ((0 + i0) + i1) d104 := e_d104 ▸ D103
  refine g_dstoreN C X0 (pc' := 29) d2_28 (x := d104) e_d104 (l' := #[.val (.ref ar), .val (.double d104), .second, .val (.ref ar), .val (.int (5 : Int32)), .val (.int (1 : Int32)), .val (.double x1), .second]) rfl rfl ?_
  refine g_iinc C X0 (pc' := 32) d2_29 rfl (z := (2 : Int32)) (by decide) (l' := #[.val (.ref ar), .val (.double d104), .second, .val (.ref ar), .val (.int (5 : Int32)), .val (.int (2 : Int32)), .val (.double x1), .second]) rfl rfl ?_
  refine g_goto C X0 d2_32 (pc' := 11) (by decide) (by decide) ?_
  refine g_iload C X0 (pc' := 13) d2_11 rfl rfl ?_
  refine g_iload C X0 (pc' := 15) d2_13 rfl rfl ?_
  refine g_icmpN C X0 d2_15 (by decide) rfl ?_
  refine g_aloadN C X0 (pc' := 19) d2_18 rfl rfl rfl ?_
  refine g_iload C X0 (pc' := 21) d2_19 rfl rfl ?_
  refine g_daload C X0 (pc' := 22) e0 A (by decide) (by decide) 2 (by decide) rfl d2_21 rfl ?_
  refine g_dstore C X0 (pc' := 24) d2_22 (x := x2) rfl (l' := #[.val (.ref ar), .val (.double d104), .second, .val (.ref ar), .val (.int (5 : Int32)), .val (.int (2 : Int32)), .val (.double x2), .second]) rfl rfl ?_
  refine g_dloadN C X0 (pc' := 25) d2_24 rfl rfl ?_
  refine g_dload C X0 (pc' := 27) d2_25 rfl rfl ?_
  have D105 : FP.Core.DInt (((0 + i0) + i1) + i2) (FP.dadd d104 x2) := dadd_D D_d104 D2 (by omega)
  refine g_dadd C X0 (pc' := 28) d2_27 (nn_of_int D105) rfl ?_
  obtain ⟨d106, e_d106⟩ : ∃ z : UInt64, z = FP.dadd d104 x2 := ⟨_, rfl⟩
  have D_d106 : FP.Core.DInt (((0 + i0) + i1) + i2) d106 := e_d106 ▸ D105
  refine g_dstoreN C X0 (pc' := 29) d2_28 (x := d106) e_d106 (l' := #[.val (.ref ar), .val (.double d106), .second, .val (.ref ar), .val (.int (5 : Int32)), .val (.int (2 : Int32)), .val (.double x2), .second]) rfl rfl ?_
  refine g_iinc C X0 (pc' := 32) d2_29 rfl (z := (3 : Int32)) (by decide) (l' := #[.val (.ref ar), .val (.double d106), .second, .val (.ref ar), .val (.int (5 : Int32)), .val (.int (3 : Int32)), .val (.double x2), .second]) rfl rfl ?_
  refine g_goto C X0 d2_32 (pc' := 11) (by decide) (by decide) ?_
  refine g_iload C X0 (pc' := 13) d2_11 rfl rfl ?_
  refine g_iload C X0 (pc' := 15) d2_13 rfl rfl ?_
  refine g_icmpN C X0 d2_15 (by decide) rfl ?_
  refine g_aloadN C X0 (pc' := 19) d2_18 rfl rfl rfl ?_
  refine g_iload C X0 (pc' := 21) d2_19 rfl rfl ?_
  refine g_daload C X0 (pc' := 22) e0 A (by decide) (by decide) 3 (by decide) rfl d2_21 rfl ?_
  refine g_dstore C X0 (pc' := 24) d2_22 (x := x3) rfl (l' := #[.val (.ref ar), .val (.double d106), .second, .val (.ref ar), .val (.int (5 : Int32)), .val (.int (3 : Int32)), .val (.double x3), .second]) rfl rfl ?_
  refine g_dloadN C X0 (pc' := 25) d2_24 rfl rfl ?_
  refine g_dload C X0 (pc' := 27) d2_25 rfl rfl ?_
  have D107 : FP.Core.DInt ((((0 + i0) + i1) + i2) + i3) (FP.dadd d106 x3) := dadd_D D_d106 D3 (by omega)
  refine g_dadd C X0 (pc' := 28) d2_27 (nn_of_int D107) rfl ?_
  obtain ⟨d108, e_d108⟩ : ∃ z : UInt64, z = FP.dadd d106 x3 := ⟨_, rfl⟩
  have D_d108 : FP.Core.DInt ((((0 + i0) + i1) + i2) + i3) d108 := e_d108 ▸ D107
  refine g_dstoreN C X0 (pc' := 29) d2_28 (x := d108) e_d108 (l' := #[.val (.ref ar), .val (.double d108), .second, .val (.ref ar), .val (.int (5 : Int32)), .val (.int (3 : Int32)), .val (.double x3), .second]) rfl rfl ?_
  refine g_iinc C X0 (pc' := 32) d2_29 rfl (z := (4 : Int32)) (by decide) (l' := #[.val (.ref ar), .val (.double d108), .second, .val (.ref ar), .val (.int (5 : Int32)), .val (.int (4 : Int32)), .val (.double x3), .second]) rfl rfl ?_
  refine g_goto C X0 d2_32 (pc' := 11) (by decide) (by decide) ?_
  refine g_iload C X0 (pc' := 13) d2_11 rfl rfl ?_
  refine g_iload C X0 (pc' := 15) d2_13 rfl rfl ?_
  refine g_icmpN C X0 d2_15 (by decide) rfl ?_
  refine g_aloadN C X0 (pc' := 19) d2_18 rfl rfl rfl ?_
  refine g_iload C X0 (pc' := 21) d2_19 rfl rfl ?_
  refine g_daload C X0 (pc' := 22) e0 A (by decide) (by decide) 4 (by decide) rfl d2_21 rfl ?_
  refine g_dstore C X0 (pc' := 24) d2_22 (x := x4) rfl (l' := #[.val (.ref ar), .val (.double d108), .second, .val (.ref ar), .val (.int (5 : Int32)), .val (.int (4 : Int32)), .val (.double x4), .second]) rfl rfl ?_
  refine g_dloadN C X0 (pc' := 25) d2_24 rfl rfl ?_
  refine g_dload C X0 (pc' := 27) d2_25 rfl rfl ?_
  have D109 : FP.Core.DInt (((((0 + i0) + i1) + i2) + i3) + i4) (FP.dadd d108 x4) := dadd_D D_d108 D4 (by omega)
  refine g_dadd C X0 (pc' := 28) d2_27 (nn_of_int D109) rfl ?_
  obtain ⟨d110, e_d110⟩ : ∃ z : UInt64, z = FP.dadd d108 x4 := ⟨_, rfl⟩
  have D_d110 : FP.Core.DInt (((((0 + i0) + i1) + i2) + i3) + i4) d110 := e_d110 ▸ D109
  refine g_dstoreN C X0 (pc' := 29) d2_28 (x := d110) e_d110 (l' := #[.val (.ref ar), .val (.double d110), .second, .val (.ref ar), .val (.int (5 : Int32)), .val (.int (4 : Int32)), .val (.double x4), .second]) rfl rfl ?_
  refine g_iinc C X0 (pc' := 32) d2_29 rfl (z := (5 : Int32)) (by decide) (l' := #[.val (.ref ar), .val (.double d110), .second, .val (.ref ar), .val (.int (5 : Int32)), .val (.int (5 : Int32)), .val (.double x4), .second]) rfl rfl ?_
  refine g_goto C X0 d2_32 (pc' := 11) (by decide) (by decide) ?_
  refine g_iload C X0 (pc' := 13) d2_11 rfl rfl ?_
  refine g_iload C X0 (pc' := 15) d2_13 rfl rfl ?_
  refine g_icmpY C X0 d2_15 (pc' := 35) (by decide) (by decide) (by decide) ?_
  refine g_dloadN C X0 (pc' := 36) d2_35 rfl rfl ?_
  exact g_dreturn C X0 d2_36 ⟨_, rfl, D_d110, rfl, e0⟩ (by decide) (by decide)
theorem own_n (x : Int32) : (x &&& 7) % 6 = 0 ∨ (x &&& 7) % 6 = 1 ∨ (x &&& 7) % 6 = 2 ∨ (x &&& 7) % 6 = 3 ∨ (x &&& 7) % 6 = 4 ∨ (x &&& 7) % 6 = 5 := by
  have h1 := c_and x 7 (by decide)
  have h2 := (c_irem (x &&& 7) 6 6 (by decide)).1 h1.1
  have e0 : (0 : Int32).toInt = 0 := by decide
  have e1 : (1 : Int32).toInt = 1 := by decide
  have e2 : (2 : Int32).toInt = 2 := by decide
  have e3 : (3 : Int32).toInt = 3 := by decide
  have e4 : (4 : Int32).toInt = 4 := by decide
  have e5 : (5 : Int32).toInt = 5 := by decide
  simp only [← Int32.toInt_inj]
  omega
theorem own_add {x : Int64} {y : Int32} (h : -9223372034707292160 ≤ x.toInt ∧ x.toInt ≤ 9223372034707292160) : (x + y.toInt64).toInt = x.toInt + y.toInt := by
  have h1 := c_ladd x y.toInt64
  have h2 := rng64 (x + y.toInt64)
  have h3 := rng32 y
  rw [c_i2l] at h1
  omega
set_option maxRecDepth 65536 in
set_option maxHeartbeats 40000000 in
theorem law (l : Launch) (Z : State) (a0 : Array Value) (hw : ∀ d ∈ tables_1, d.before a0 Z = true) (p0 p1 p2 p3 p4 p5 : Int32) (h : Heap) (n0 : Nat) (Z0 : n0 ≤ h.size) :
    Con l Z x code maxLocals ret room_1 #[.int p0, .int p1, .int p2, .int p3, .int p4, .int p5] h (fun v _ L => v = some (.int 1) ∧ Fr n0 L) := by
  refine con_of_go pn0 (fun m => ef0 m p0 p1 p2 p3 p4 p5) ?_
  intro p e s m below meth c T0 C X0 e0
  refine g_iloadN C X0 (pc' := 1) at_0 rfl rfl ?_
  refine g_bipush C X0 (pc' := 3) at_1 (v := (7 : Int32)) (by decide) rfl ?_
  refine g_iand C X0 (pc' := 4) at_3 rfl ?_
  refine g_bipush C X0 (pc' := 6) at_4 (v := (6 : Int32)) (by decide) rfl ?_
  refine g_irem C X0 (pc' := 7) at_6 (by decide) rfl ?_
  obtain ⟨i1, e_i1⟩ : ∃ z : Int32, z = (p0 &&& (7 : Int32)) % (6 : Int32) := ⟨_, rfl⟩
  refine g_istore C X0 (pc' := 9) at_7 (x := i1) e_i1 (l' := #[.val (.int p0), .val (.int p1), .val (.int p2), .val (.int p3), .val (.int p4), .val (.int p5), .val (.int i1), .unset, .unset, .unset, .unset, .unset]) rfl rfl ?_
  have nn := own_n p0
  rw [← e_i1] at nn
  clear e_i1
  have R1 := rng32 p1
  have R2 := rng32 p2
  have R3 := rng32 p3
  have R4 := rng32 p4
  have R5 := rng32 p5
  rcases nn with rfl | rfl | rfl | rfl | rfl | rfl
  · show Go p.tables e below _ T0 (mkF m 9 #[.val (.int p0), .val (.int p1), .val (.int p2), .val (.int p3), .val (.int p4), .val (.int p5), .val (.int (0 : Int32)), .unset, .unset, .unset, .unset, .unset] [])
    refine g_iload C X0 (pc' := 11) at_9 rfl rfl ?_
    refine g_iloadN C X0 (pc' := 12) at_11 rfl rfl ?_
    refine g_iloadN C X0 (pc' := 13) at_12 rfl rfl ?_
    refine g_iloadN C X0 (pc' := 14) at_13 rfl rfl ?_
    refine g_iload C X0 (pc' := 16) at_14 rfl rfl ?_
    refine g_iload C X0 (pc' := 18) at_16 rfl rfl ?_
    refine g_callS C X0 (c_build0 l Z a0 hw h n0 Z0 p1 p2 p3 p4 p5) (hw _ (List.mem_of_getElem? (i := 0) rfl)) (hw _ (List.mem_of_getElem? (i := 1) rfl)) (hw _ (List.mem_of_getElem? (i := 2) rfl)) (hw _ (List.mem_of_getElem? (i := 3) rfl)) (by decide) e0 at_18 rfl pdB [(.int (0 : Int32)), (.int p1), (.int p2), (.int p3), (.int p4), (.int p5)] [] rfl rfl rfl 0 rfl (by decide) (by decide) (by decide) (by decide) rfl ?_
    rintro _ T1 L1 X1 ⟨a1, k1, rfl, g1, M1, K1, A1⟩
    have N1 := Fr.app (Fr.nil n0) M1
    obtain ⟨h1, e1⟩ : ∃ z, T1.heap = z := ⟨_, rfl⟩
    rw [e1] at A1
    show Go p.tables e below _ T1 (mkF m 21 #[.val (.int p0), .val (.int p1), .val (.int p2), .val (.int p3), .val (.int p4), .val (.int p5), .val (.int (0 : Int32)), .unset, .unset, .unset, .unset, .unset] [(.ref a1)])
    refine g_astore C X1 (pc' := 23) at_21 rfl (l' := #[.val (.int p0), .val (.int p1), .val (.int p2), .val (.int p3), .val (.int p4), .val (.int p5), .val (.int (0 : Int32)), .val (.ref a1), .unset, .unset, .unset, .unset]) rfl rfl ?_
    refine g_lconst C X1 (pc' := 24) at_23 (v := (0 : Int64)) (by decide) rfl ?_
    refine g_lstore C X1 (pc' := 26) at_24 (x := (0 : Int64)) rfl (l' := #[.val (.int p0), .val (.int p1), .val (.int p2), .val (.int p3), .val (.int p4), .val (.int p5), .val (.int (0 : Int32)), .val (.ref a1), .val (.long (0 : Int64)), .second, .unset, .unset]) rfl rfl ?_
    refine g_iload C X1 (pc' := 28) at_26 rfl rfl ?_
    refine g_iconst C X1 (pc' := 29) at_28 (v := (1 : Int32)) (by decide) rfl ?_
    refine g_icmpY C X1 at_29 (pc' := 39) (by decide) (by decide) (by decide) ?_
    refine g_iload C X1 (pc' := 41) at_39 rfl rfl ?_
    refine g_iconst C X1 (pc' := 42) at_41 (v := (2 : Int32)) (by decide) rfl ?_
    refine g_icmpY C X1 at_42 (pc' := 52) (by decide) (by decide) (by decide) ?_
    refine g_iload C X1 (pc' := 54) at_52 rfl rfl ?_
    refine g_iconst C X1 (pc' := 55) at_54 (v := (3 : Int32)) (by decide) rfl ?_
    refine g_icmpY C X1 at_55 (pc' := 65) (by decide) (by decide) (by decide) ?_
    refine g_iload C X1 (pc' := 67) at_65 rfl rfl ?_
    refine g_iconst C X1 (pc' := 68) at_67 (v := (4 : Int32)) (by decide) rfl ?_
    refine g_icmpY C X1 at_68 (pc' := 79) (by decide) (by decide) (by decide) ?_
    refine g_iload C X1 (pc' := 81) at_79 rfl rfl ?_
    refine g_iconst C X1 (pc' := 82) at_81 (v := (5 : Int32)) (by decide) rfl ?_
    refine g_icmpY C X1 at_82 (pc' := 93) (by decide) (by decide) (by decide) ?_
    refine g_aload C X1 (pc' := 95) at_93 rfl rfl rfl ?_
    refine g_callS C X1 (c_sum0 l Z h1 a1 k1  A1) (hw _ (List.mem_of_getElem? (i := 5) rfl)) (hw _ (List.mem_of_getElem? (i := 6) rfl)) (hw _ (List.mem_of_getElem? (i := 7) rfl)) (hw _ (List.mem_of_getElem? (i := 8) rfl)) (by decide) e1 at_95 rfl pdS [(.ref a1)] [] rfl rfl rfl 0 rfl (by decide) (by decide) (by decide) (by decide) rfl ?_
    rintro _ T2 _ X2 ⟨r2, rfl, D_r2, rfl, e2⟩
    rw [List.append_nil] at X2
    show Go p.tables e below _ T2 (mkF m 98 #[.val (.int p0), .val (.int p1), .val (.int p2), .val (.int p3), .val (.int p4), .val (.int p5), .val (.int (0 : Int32)), .val (.ref a1), .val (.long (0 : Int64)), .second, .unset, .unset] [(.double r2)])
    refine g_dstore C X2 (pc' := 100) at_98 (x := r2) rfl (l' := #[.val (.int p0), .val (.int p1), .val (.int p2), .val (.int p3), .val (.int p4), .val (.int p5), .val (.int (0 : Int32)), .val (.ref a1), .val (.long (0 : Int64)), .second, .val (.double r2), .second]) rfl rfl ?_
    refine g_dload C X2 (pc' := 102) at_100 rfl rfl ?_
    refine g_lload C X2 (pc' := 104) at_102 rfl rfl ?_
    refine g_l2d C X2 (pc' := 105) at_104 rfl ?_
    refine g_dcmpV C X2 at_105 (v := (0 : Int32)) ((dcmp_cmpI D_r2 (l2d_D (x := (0 : Int64)) (by decide)) _).trans (cmpI_self _)) rfl ?_
    refine g_ifN C X2 at_106 (by decide) rfl ?_
    refine g_iconst C X2 (pc' := 110) at_109 (v := (1 : Int32)) (by decide) rfl ?_
    refine g_goto C X2 at_110 (pc' := 114) (by decide) (by decide) ?_
    exact g_zreturn C X2 at_114 (w := 1) (by decide) ⟨rfl, N1⟩ (by decide) (by decide)
  · show Go p.tables e below _ T0 (mkF m 9 #[.val (.int p0), .val (.int p1), .val (.int p2), .val (.int p3), .val (.int p4), .val (.int p5), .val (.int (1 : Int32)), .unset, .unset, .unset, .unset, .unset] [])
    refine g_iload C X0 (pc' := 11) at_9 rfl rfl ?_
    refine g_iloadN C X0 (pc' := 12) at_11 rfl rfl ?_
    refine g_iloadN C X0 (pc' := 13) at_12 rfl rfl ?_
    refine g_iloadN C X0 (pc' := 14) at_13 rfl rfl ?_
    refine g_iload C X0 (pc' := 16) at_14 rfl rfl ?_
    refine g_iload C X0 (pc' := 18) at_16 rfl rfl ?_
    refine g_callS C X0 (c_build1 l Z a0 hw h n0 Z0 p1 p2 p3 p4 p5) (hw _ (List.mem_of_getElem? (i := 0) rfl)) (hw _ (List.mem_of_getElem? (i := 1) rfl)) (hw _ (List.mem_of_getElem? (i := 2) rfl)) (hw _ (List.mem_of_getElem? (i := 3) rfl)) (by decide) e0 at_18 rfl pdB [(.int (1 : Int32)), (.int p1), (.int p2), (.int p3), (.int p4), (.int p5)] [] rfl rfl rfl 0 rfl (by decide) (by decide) (by decide) (by decide) rfl ?_
    rintro _ T3 L3 X3 ⟨a3, k3, rfl, g3, M3, K3, A3⟩
    have N3 := Fr.app (Fr.nil n0) M3
    obtain ⟨h3, e3⟩ : ∃ z, T3.heap = z := ⟨_, rfl⟩
    rw [e3] at A3
    show Go p.tables e below _ T3 (mkF m 21 #[.val (.int p0), .val (.int p1), .val (.int p2), .val (.int p3), .val (.int p4), .val (.int p5), .val (.int (1 : Int32)), .unset, .unset, .unset, .unset, .unset] [(.ref a3)])
    refine g_astore C X3 (pc' := 23) at_21 rfl (l' := #[.val (.int p0), .val (.int p1), .val (.int p2), .val (.int p3), .val (.int p4), .val (.int p5), .val (.int (1 : Int32)), .val (.ref a3), .unset, .unset, .unset, .unset]) rfl rfl ?_
    refine g_lconst C X3 (pc' := 24) at_23 (v := (0 : Int64)) (by decide) rfl ?_
    refine g_lstore C X3 (pc' := 26) at_24 (x := (0 : Int64)) rfl (l' := #[.val (.int p0), .val (.int p1), .val (.int p2), .val (.int p3), .val (.int p4), .val (.int p5), .val (.int (1 : Int32)), .val (.ref a3), .val (.long (0 : Int64)), .second, .unset, .unset]) rfl rfl ?_
    refine g_iload C X3 (pc' := 28) at_26 rfl rfl ?_
    refine g_iconst C X3 (pc' := 29) at_28 (v := (1 : Int32)) (by decide) rfl ?_
    refine g_icmpN C X3 at_29 (by decide) rfl ?_
    refine g_lload C X3 (pc' := 34) at_32 rfl rfl ?_
    refine g_iloadN C X3 (pc' := 35) at_34 rfl rfl ?_
    refine g_i2l C X3 (pc' := 36) at_35 rfl ?_
    refine g_ladd C X3 (pc' := 37) at_36 rfl ?_
    obtain ⟨j2, e_j2⟩ : ∃ z : Int64, z = (0 : Int64) + p1.toInt64 := ⟨_, rfl⟩
    refine g_lstore C X3 (pc' := 39) at_37 (x := j2) e_j2 (l' := #[.val (.int p0), .val (.int p1), .val (.int p2), .val (.int p3), .val (.int p4), .val (.int p5), .val (.int (1 : Int32)), .val (.ref a3), .val (.long j2), .second, .unset, .unset]) rfl rfl ?_
    have f_j2 : j2.toInt = 0 + p1.toInt := by rw [e_j2]; exact own_add (by decide)
    refine g_iload C X3 (pc' := 41) at_39 rfl rfl ?_
    refine g_iconst C X3 (pc' := 42) at_41 (v := (2 : Int32)) (by decide) rfl ?_
    refine g_icmpY C X3 at_42 (pc' := 52) (by decide) (by decide) (by decide) ?_
    refine g_iload C X3 (pc' := 54) at_52 rfl rfl ?_
    refine g_iconst C X3 (pc' := 55) at_54 (v := (3 : Int32)) (by decide) rfl ?_
    refine g_icmpY C X3 at_55 (pc' := 65) (by decide) (by decide) (by decide) ?_
    refine g_iload C X3 (pc' := 67) at_65 rfl rfl ?_
    refine g_iconst C X3 (pc' := 68) at_67 (v := (4 : Int32)) (by decide) rfl ?_
    refine g_icmpY C X3 at_68 (pc' := 79) (by decide) (by decide) (by decide) ?_
    refine g_iload C X3 (pc' := 81) at_79 rfl rfl ?_
    refine g_iconst C X3 (pc' := 82) at_81 (v := (5 : Int32)) (by decide) rfl ?_
    refine g_icmpY C X3 at_82 (pc' := 93) (by decide) (by decide) (by decide) ?_
    refine g_aload C X3 (pc' := 95) at_93 rfl rfl rfl ?_
    refine g_callS C X3 (c_sum1 l Z h3 a3 k3 _ _ (i2d_D p1) R1 A3) (hw _ (List.mem_of_getElem? (i := 5) rfl)) (hw _ (List.mem_of_getElem? (i := 6) rfl)) (hw _ (List.mem_of_getElem? (i := 7) rfl)) (hw _ (List.mem_of_getElem? (i := 8) rfl)) (by decide) e3 at_95 rfl pdS [(.ref a3)] [] rfl rfl rfl 0 rfl (by decide) (by decide) (by decide) (by decide) rfl ?_
    rintro _ T4 _ X4 ⟨r4, rfl, D_r4, rfl, e4⟩
    rw [List.append_nil] at X4
    show Go p.tables e below _ T4 (mkF m 98 #[.val (.int p0), .val (.int p1), .val (.int p2), .val (.int p3), .val (.int p4), .val (.int p5), .val (.int (1 : Int32)), .val (.ref a3), .val (.long j2), .second, .unset, .unset] [(.double r4)])
    refine g_dstore C X4 (pc' := 100) at_98 (x := r4) rfl (l' := #[.val (.int p0), .val (.int p1), .val (.int p2), .val (.int p3), .val (.int p4), .val (.int p5), .val (.int (1 : Int32)), .val (.ref a3), .val (.long j2), .second, .val (.double r4), .second]) rfl rfl ?_
    refine g_dload C X4 (pc' := 102) at_100 rfl rfl ?_
    refine g_lload C X4 (pc' := 104) at_102 rfl rfl ?_
    refine g_l2d C X4 (pc' := 105) at_104 rfl ?_
    refine g_dcmpV C X4 (pc' := 106) at_105 (dcmp_cmpI D_r4 (l2d_D (x := j2) (by omega)) _) rfl ?_
    refine g_if C X4 at_106 (pc' := 113) (pc'' := 109) (by decide) (by decide) rfl (fun c106 => ?_) (fun c106 => ?_)
    · have c106 : ¬ ((cmpI (0 + p1.toInt) j2.toInt).toInt = 0) := c106
      have c106 : ¬ (0 + p1.toInt = j2.toInt) := fun q => c106 ((cmpI_eq _ _).mpr q)
      refine g_iconst C X4 (pc' := 114) at_113 (v := (0 : Int32)) (by decide) rfl ?_
      exfalso; omega
    · have c106 : (cmpI (0 + p1.toInt) j2.toInt).toInt = 0 := Decidable.not_not.mp c106
      have c106 : 0 + p1.toInt = j2.toInt := (cmpI_eq _ _).mp c106
      refine g_iconst C X4 (pc' := 110) at_109 (v := (1 : Int32)) (by decide) rfl ?_
      refine g_goto C X4 at_110 (pc' := 114) (by decide) (by decide) ?_
      exact g_zreturn C X4 at_114 (w := 1) (by decide) ⟨rfl, N3⟩ (by decide) (by decide)
  · show Go p.tables e below _ T0 (mkF m 9 #[.val (.int p0), .val (.int p1), .val (.int p2), .val (.int p3), .val (.int p4), .val (.int p5), .val (.int (2 : Int32)), .unset, .unset, .unset, .unset, .unset] [])
    refine g_iload C X0 (pc' := 11) at_9 rfl rfl ?_
    refine g_iloadN C X0 (pc' := 12) at_11 rfl rfl ?_
    refine g_iloadN C X0 (pc' := 13) at_12 rfl rfl ?_
    refine g_iloadN C X0 (pc' := 14) at_13 rfl rfl ?_
    refine g_iload C X0 (pc' := 16) at_14 rfl rfl ?_
    refine g_iload C X0 (pc' := 18) at_16 rfl rfl ?_
    refine g_callS C X0 (c_build2 l Z a0 hw h n0 Z0 p1 p2 p3 p4 p5) (hw _ (List.mem_of_getElem? (i := 0) rfl)) (hw _ (List.mem_of_getElem? (i := 1) rfl)) (hw _ (List.mem_of_getElem? (i := 2) rfl)) (hw _ (List.mem_of_getElem? (i := 3) rfl)) (by decide) e0 at_18 rfl pdB [(.int (2 : Int32)), (.int p1), (.int p2), (.int p3), (.int p4), (.int p5)] [] rfl rfl rfl 0 rfl (by decide) (by decide) (by decide) (by decide) rfl ?_
    rintro _ T5 L5 X5 ⟨a5, k5, rfl, g5, M5, K5, A5⟩
    have N5 := Fr.app (Fr.nil n0) M5
    obtain ⟨h5, e5⟩ : ∃ z, T5.heap = z := ⟨_, rfl⟩
    rw [e5] at A5
    show Go p.tables e below _ T5 (mkF m 21 #[.val (.int p0), .val (.int p1), .val (.int p2), .val (.int p3), .val (.int p4), .val (.int p5), .val (.int (2 : Int32)), .unset, .unset, .unset, .unset, .unset] [(.ref a5)])
    refine g_astore C X5 (pc' := 23) at_21 rfl (l' := #[.val (.int p0), .val (.int p1), .val (.int p2), .val (.int p3), .val (.int p4), .val (.int p5), .val (.int (2 : Int32)), .val (.ref a5), .unset, .unset, .unset, .unset]) rfl rfl ?_
    refine g_lconst C X5 (pc' := 24) at_23 (v := (0 : Int64)) (by decide) rfl ?_
    refine g_lstore C X5 (pc' := 26) at_24 (x := (0 : Int64)) rfl (l' := #[.val (.int p0), .val (.int p1), .val (.int p2), .val (.int p3), .val (.int p4), .val (.int p5), .val (.int (2 : Int32)), .val (.ref a5), .val (.long (0 : Int64)), .second, .unset, .unset]) rfl rfl ?_
    refine g_iload C X5 (pc' := 28) at_26 rfl rfl ?_
    refine g_iconst C X5 (pc' := 29) at_28 (v := (1 : Int32)) (by decide) rfl ?_
    refine g_icmpN C X5 at_29 (by decide) rfl ?_
    refine g_lload C X5 (pc' := 34) at_32 rfl rfl ?_
    refine g_iloadN C X5 (pc' := 35) at_34 rfl rfl ?_
    refine g_i2l C X5 (pc' := 36) at_35 rfl ?_
    refine g_ladd C X5 (pc' := 37) at_36 rfl ?_
    obtain ⟨j3, e_j3⟩ : ∃ z : Int64, z = (0 : Int64) + p1.toInt64 := ⟨_, rfl⟩
    refine g_lstore C X5 (pc' := 39) at_37 (x := j3) e_j3 (l' := #[.val (.int p0), .val (.int p1), .val (.int p2), .val (.int p3), .val (.int p4), .val (.int p5), .val (.int (2 : Int32)), .val (.ref a5), .val (.long j3), .second, .unset, .unset]) rfl rfl ?_
    have f_j3 : j3.toInt = 0 + p1.toInt := by rw [e_j3]; exact own_add (by decide)
    refine g_iload C X5 (pc' := 41) at_39 rfl rfl ?_
    refine g_iconst C X5 (pc' := 42) at_41 (v := (2 : Int32)) (by decide) rfl ?_
    refine g_icmpN C X5 at_42 (by decide) rfl ?_
    refine g_lload C X5 (pc' := 47) at_45 rfl rfl ?_
    refine g_iloadN C X5 (pc' := 48) at_47 rfl rfl ?_
    refine g_i2l C X5 (pc' := 49) at_48 rfl ?_
    refine g_ladd C X5 (pc' := 50) at_49 rfl ?_
    obtain ⟨j4, e_j4⟩ : ∃ z : Int64, z = j3 + p2.toInt64 := ⟨_, rfl⟩
    refine g_lstore C X5 (pc' := 52) at_50 (x := j4) e_j4 (l' := #[.val (.int p0), .val (.int p1), .val (.int p2), .val (.int p3), .val (.int p4), .val (.int p5), .val (.int (2 : Int32)), .val (.ref a5), .val (.long j4), .second, .unset, .unset]) rfl rfl ?_
    have f_j4 : j4.toInt = j3.toInt + p2.toInt := by rw [e_j4]; exact own_add (by omega)
    refine g_iload C X5 (pc' := 54) at_52 rfl rfl ?_
    refine g_iconst C X5 (pc' := 55) at_54 (v := (3 : Int32)) (by decide) rfl ?_
    refine g_icmpY C X5 at_55 (pc' := 65) (by decide) (by decide) (by decide) ?_
    refine g_iload C X5 (pc' := 67) at_65 rfl rfl ?_
    refine g_iconst C X5 (pc' := 68) at_67 (v := (4 : Int32)) (by decide) rfl ?_
    refine g_icmpY C X5 at_68 (pc' := 79) (by decide) (by decide) (by decide) ?_
    refine g_iload C X5 (pc' := 81) at_79 rfl rfl ?_
    refine g_iconst C X5 (pc' := 82) at_81 (v := (5 : Int32)) (by decide) rfl ?_
    refine g_icmpY C X5 at_82 (pc' := 93) (by decide) (by decide) (by decide) ?_
    refine g_aload C X5 (pc' := 95) at_93 rfl rfl rfl ?_
    refine g_callS C X5 (c_sum2 l Z h5 a5 k5 _ _ _ _ (i2d_D p1) (i2d_D p2) R1 R2 A5) (hw _ (List.mem_of_getElem? (i := 5) rfl)) (hw _ (List.mem_of_getElem? (i := 6) rfl)) (hw _ (List.mem_of_getElem? (i := 7) rfl)) (hw _ (List.mem_of_getElem? (i := 8) rfl)) (by decide) e5 at_95 rfl pdS [(.ref a5)] [] rfl rfl rfl 0 rfl (by decide) (by decide) (by decide) (by decide) rfl ?_
    rintro _ T6 _ X6 ⟨r6, rfl, D_r6, rfl, e6⟩
    rw [List.append_nil] at X6
    show Go p.tables e below _ T6 (mkF m 98 #[.val (.int p0), .val (.int p1), .val (.int p2), .val (.int p3), .val (.int p4), .val (.int p5), .val (.int (2 : Int32)), .val (.ref a5), .val (.long j4), .second, .unset, .unset] [(.double r6)])
    refine g_dstore C X6 (pc' := 100) at_98 (x := r6) rfl (l' := #[.val (.int p0), .val (.int p1), .val (.int p2), .val (.int p3), .val (.int p4), .val (.int p5), .val (.int (2 : Int32)), .val (.ref a5), .val (.long j4), .second, .val (.double r6), .second]) rfl rfl ?_
    refine g_dload C X6 (pc' := 102) at_100 rfl rfl ?_
    refine g_lload C X6 (pc' := 104) at_102 rfl rfl ?_
    refine g_l2d C X6 (pc' := 105) at_104 rfl ?_
    refine g_dcmpV C X6 (pc' := 106) at_105 (dcmp_cmpI D_r6 (l2d_D (x := j4) (by omega)) _) rfl ?_
    refine g_if C X6 at_106 (pc' := 113) (pc'' := 109) (by decide) (by decide) rfl (fun c106 => ?_) (fun c106 => ?_)
    · have c106 : ¬ ((cmpI (0 + p1.toInt + p2.toInt) j4.toInt).toInt = 0) := c106
      have c106 : ¬ (0 + p1.toInt + p2.toInt = j4.toInt) := fun q => c106 ((cmpI_eq _ _).mpr q)
      refine g_iconst C X6 (pc' := 114) at_113 (v := (0 : Int32)) (by decide) rfl ?_
      exfalso; omega
    · have c106 : (cmpI (0 + p1.toInt + p2.toInt) j4.toInt).toInt = 0 := Decidable.not_not.mp c106
      have c106 : 0 + p1.toInt + p2.toInt = j4.toInt := (cmpI_eq _ _).mp c106
      refine g_iconst C X6 (pc' := 110) at_109 (v := (1 : Int32)) (by decide) rfl ?_
      refine g_goto C X6 at_110 (pc' := 114) (by decide) (by decide) ?_
      exact g_zreturn C X6 at_114 (w := 1) (by decide) ⟨rfl, N5⟩ (by decide) (by decide)
  · show Go p.tables e below _ T0 (mkF m 9 #[.val (.int p0), .val (.int p1), .val (.int p2), .val (.int p3), .val (.int p4), .val (.int p5), .val (.int (3 : Int32)), .unset, .unset, .unset, .unset, .unset] [])
    refine g_iload C X0 (pc' := 11) at_9 rfl rfl ?_
    refine g_iloadN C X0 (pc' := 12) at_11 rfl rfl ?_
    refine g_iloadN C X0 (pc' := 13) at_12 rfl rfl ?_
    refine g_iloadN C X0 (pc' := 14) at_13 rfl rfl ?_
    refine g_iload C X0 (pc' := 16) at_14 rfl rfl ?_
    refine g_iload C X0 (pc' := 18) at_16 rfl rfl ?_
    refine g_callS C X0 (c_build3 l Z a0 hw h n0 Z0 p1 p2 p3 p4 p5) (hw _ (List.mem_of_getElem? (i := 0) rfl)) (hw _ (List.mem_of_getElem? (i := 1) rfl)) (hw _ (List.mem_of_getElem? (i := 2) rfl)) (hw _ (List.mem_of_getElem? (i := 3) rfl)) (by decide) e0 at_18 rfl pdB [(.int (3 : Int32)), (.int p1), (.int p2), (.int p3), (.int p4), (.int p5)] [] rfl rfl rfl 0 rfl (by decide) (by decide) (by decide) (by decide) rfl ?_
    rintro _ T7 L7 X7 ⟨a7, k7, rfl, g7, M7, K7, A7⟩
    have N7 := Fr.app (Fr.nil n0) M7
    obtain ⟨h7, e7⟩ : ∃ z, T7.heap = z := ⟨_, rfl⟩
    rw [e7] at A7
    show Go p.tables e below _ T7 (mkF m 21 #[.val (.int p0), .val (.int p1), .val (.int p2), .val (.int p3), .val (.int p4), .val (.int p5), .val (.int (3 : Int32)), .unset, .unset, .unset, .unset, .unset] [(.ref a7)])
    refine g_astore C X7 (pc' := 23) at_21 rfl (l' := #[.val (.int p0), .val (.int p1), .val (.int p2), .val (.int p3), .val (.int p4), .val (.int p5), .val (.int (3 : Int32)), .val (.ref a7), .unset, .unset, .unset, .unset]) rfl rfl ?_
    refine g_lconst C X7 (pc' := 24) at_23 (v := (0 : Int64)) (by decide) rfl ?_
    refine g_lstore C X7 (pc' := 26) at_24 (x := (0 : Int64)) rfl (l' := #[.val (.int p0), .val (.int p1), .val (.int p2), .val (.int p3), .val (.int p4), .val (.int p5), .val (.int (3 : Int32)), .val (.ref a7), .val (.long (0 : Int64)), .second, .unset, .unset]) rfl rfl ?_
    refine g_iload C X7 (pc' := 28) at_26 rfl rfl ?_
    refine g_iconst C X7 (pc' := 29) at_28 (v := (1 : Int32)) (by decide) rfl ?_
    refine g_icmpN C X7 at_29 (by decide) rfl ?_
    refine g_lload C X7 (pc' := 34) at_32 rfl rfl ?_
    refine g_iloadN C X7 (pc' := 35) at_34 rfl rfl ?_
    refine g_i2l C X7 (pc' := 36) at_35 rfl ?_
    refine g_ladd C X7 (pc' := 37) at_36 rfl ?_
    obtain ⟨j5, e_j5⟩ : ∃ z : Int64, z = (0 : Int64) + p1.toInt64 := ⟨_, rfl⟩
    refine g_lstore C X7 (pc' := 39) at_37 (x := j5) e_j5 (l' := #[.val (.int p0), .val (.int p1), .val (.int p2), .val (.int p3), .val (.int p4), .val (.int p5), .val (.int (3 : Int32)), .val (.ref a7), .val (.long j5), .second, .unset, .unset]) rfl rfl ?_
    have f_j5 : j5.toInt = 0 + p1.toInt := by rw [e_j5]; exact own_add (by decide)
    refine g_iload C X7 (pc' := 41) at_39 rfl rfl ?_
    refine g_iconst C X7 (pc' := 42) at_41 (v := (2 : Int32)) (by decide) rfl ?_
    refine g_icmpN C X7 at_42 (by decide) rfl ?_
    refine g_lload C X7 (pc' := 47) at_45 rfl rfl ?_
    refine g_iloadN C X7 (pc' := 48) at_47 rfl rfl ?_
    refine g_i2l C X7 (pc' := 49) at_48 rfl ?_
    refine g_ladd C X7 (pc' := 50) at_49 rfl ?_
    obtain ⟨j6, e_j6⟩ : ∃ z : Int64, z = j5 + p2.toInt64 := ⟨_, rfl⟩
    refine g_lstore C X7 (pc' := 52) at_50 (x := j6) e_j6 (l' := #[.val (.int p0), .val (.int p1), .val (.int p2), .val (.int p3), .val (.int p4), .val (.int p5), .val (.int (3 : Int32)), .val (.ref a7), .val (.long j6), .second, .unset, .unset]) rfl rfl ?_
    have f_j6 : j6.toInt = j5.toInt + p2.toInt := by rw [e_j6]; exact own_add (by omega)
    refine g_iload C X7 (pc' := 54) at_52 rfl rfl ?_
    refine g_iconst C X7 (pc' := 55) at_54 (v := (3 : Int32)) (by decide) rfl ?_
    refine g_icmpN C X7 at_55 (by decide) rfl ?_
    refine g_lload C X7 (pc' := 60) at_58 rfl rfl ?_
    refine g_iloadN C X7 (pc' := 61) at_60 rfl rfl ?_
    refine g_i2l C X7 (pc' := 62) at_61 rfl ?_
    refine g_ladd C X7 (pc' := 63) at_62 rfl ?_
    obtain ⟨j7, e_j7⟩ : ∃ z : Int64, z = j6 + p3.toInt64 := ⟨_, rfl⟩
    refine g_lstore C X7 (pc' := 65) at_63 (x := j7) e_j7 (l' := #[.val (.int p0), .val (.int p1), .val (.int p2), .val (.int p3), .val (.int p4), .val (.int p5), .val (.int (3 : Int32)), .val (.ref a7), .val (.long j7), .second, .unset, .unset]) rfl rfl ?_
    have f_j7 : j7.toInt = j6.toInt + p3.toInt := by rw [e_j7]; exact own_add (by omega)
    refine g_iload C X7 (pc' := 67) at_65 rfl rfl ?_
    refine g_iconst C X7 (pc' := 68) at_67 (v := (4 : Int32)) (by decide) rfl ?_
    refine g_icmpY C X7 at_68 (pc' := 79) (by decide) (by decide) (by decide) ?_
    refine g_iload C X7 (pc' := 81) at_79 rfl rfl ?_
    refine g_iconst C X7 (pc' := 82) at_81 (v := (5 : Int32)) (by decide) rfl ?_
    refine g_icmpY C X7 at_82 (pc' := 93) (by decide) (by decide) (by decide) ?_
    refine g_aload C X7 (pc' := 95) at_93 rfl rfl rfl ?_
    refine g_callS C X7 (c_sum3 l Z h7 a7 k7 _ _ _ _ _ _ (i2d_D p1) (i2d_D p2) (i2d_D p3) R1 R2 R3 A7) (hw _ (List.mem_of_getElem? (i := 5) rfl)) (hw _ (List.mem_of_getElem? (i := 6) rfl)) (hw _ (List.mem_of_getElem? (i := 7) rfl)) (hw _ (List.mem_of_getElem? (i := 8) rfl)) (by decide) e7 at_95 rfl pdS [(.ref a7)] [] rfl rfl rfl 0 rfl (by decide) (by decide) (by decide) (by decide) rfl ?_
    rintro _ T8 _ X8 ⟨r8, rfl, D_r8, rfl, e8⟩
    rw [List.append_nil] at X8
    show Go p.tables e below _ T8 (mkF m 98 #[.val (.int p0), .val (.int p1), .val (.int p2), .val (.int p3), .val (.int p4), .val (.int p5), .val (.int (3 : Int32)), .val (.ref a7), .val (.long j7), .second, .unset, .unset] [(.double r8)])
    refine g_dstore C X8 (pc' := 100) at_98 (x := r8) rfl (l' := #[.val (.int p0), .val (.int p1), .val (.int p2), .val (.int p3), .val (.int p4), .val (.int p5), .val (.int (3 : Int32)), .val (.ref a7), .val (.long j7), .second, .val (.double r8), .second]) rfl rfl ?_
    refine g_dload C X8 (pc' := 102) at_100 rfl rfl ?_
    refine g_lload C X8 (pc' := 104) at_102 rfl rfl ?_
    refine g_l2d C X8 (pc' := 105) at_104 rfl ?_
    refine g_dcmpV C X8 (pc' := 106) at_105 (dcmp_cmpI D_r8 (l2d_D (x := j7) (by omega)) _) rfl ?_
    refine g_if C X8 at_106 (pc' := 113) (pc'' := 109) (by decide) (by decide) rfl (fun c106 => ?_) (fun c106 => ?_)
    · have c106 : ¬ ((cmpI (0 + p1.toInt + p2.toInt + p3.toInt) j7.toInt).toInt = 0) := c106
      have c106 : ¬ (0 + p1.toInt + p2.toInt + p3.toInt = j7.toInt) := fun q => c106 ((cmpI_eq _ _).mpr q)
      refine g_iconst C X8 (pc' := 114) at_113 (v := (0 : Int32)) (by decide) rfl ?_
      exfalso; omega
    · have c106 : (cmpI (0 + p1.toInt + p2.toInt + p3.toInt) j7.toInt).toInt = 0 := Decidable.not_not.mp c106
      have c106 : 0 + p1.toInt + p2.toInt + p3.toInt = j7.toInt := (cmpI_eq _ _).mp c106
      refine g_iconst C X8 (pc' := 110) at_109 (v := (1 : Int32)) (by decide) rfl ?_
      refine g_goto C X8 at_110 (pc' := 114) (by decide) (by decide) ?_
      exact g_zreturn C X8 at_114 (w := 1) (by decide) ⟨rfl, N7⟩ (by decide) (by decide)
  · show Go p.tables e below _ T0 (mkF m 9 #[.val (.int p0), .val (.int p1), .val (.int p2), .val (.int p3), .val (.int p4), .val (.int p5), .val (.int (4 : Int32)), .unset, .unset, .unset, .unset, .unset] [])
    refine g_iload C X0 (pc' := 11) at_9 rfl rfl ?_
    refine g_iloadN C X0 (pc' := 12) at_11 rfl rfl ?_
    refine g_iloadN C X0 (pc' := 13) at_12 rfl rfl ?_
    refine g_iloadN C X0 (pc' := 14) at_13 rfl rfl ?_
    refine g_iload C X0 (pc' := 16) at_14 rfl rfl ?_
    refine g_iload C X0 (pc' := 18) at_16 rfl rfl ?_
    refine g_callS C X0 (c_build4 l Z a0 hw h n0 Z0 p1 p2 p3 p4 p5) (hw _ (List.mem_of_getElem? (i := 0) rfl)) (hw _ (List.mem_of_getElem? (i := 1) rfl)) (hw _ (List.mem_of_getElem? (i := 2) rfl)) (hw _ (List.mem_of_getElem? (i := 3) rfl)) (by decide) e0 at_18 rfl pdB [(.int (4 : Int32)), (.int p1), (.int p2), (.int p3), (.int p4), (.int p5)] [] rfl rfl rfl 0 rfl (by decide) (by decide) (by decide) (by decide) rfl ?_
    rintro _ T9 L9 X9 ⟨a9, k9, rfl, g9, M9, K9, A9⟩
    have N9 := Fr.app (Fr.nil n0) M9
    obtain ⟨h9, e9⟩ : ∃ z, T9.heap = z := ⟨_, rfl⟩
    rw [e9] at A9
    show Go p.tables e below _ T9 (mkF m 21 #[.val (.int p0), .val (.int p1), .val (.int p2), .val (.int p3), .val (.int p4), .val (.int p5), .val (.int (4 : Int32)), .unset, .unset, .unset, .unset, .unset] [(.ref a9)])
    refine g_astore C X9 (pc' := 23) at_21 rfl (l' := #[.val (.int p0), .val (.int p1), .val (.int p2), .val (.int p3), .val (.int p4), .val (.int p5), .val (.int (4 : Int32)), .val (.ref a9), .unset, .unset, .unset, .unset]) rfl rfl ?_
    refine g_lconst C X9 (pc' := 24) at_23 (v := (0 : Int64)) (by decide) rfl ?_
    refine g_lstore C X9 (pc' := 26) at_24 (x := (0 : Int64)) rfl (l' := #[.val (.int p0), .val (.int p1), .val (.int p2), .val (.int p3), .val (.int p4), .val (.int p5), .val (.int (4 : Int32)), .val (.ref a9), .val (.long (0 : Int64)), .second, .unset, .unset]) rfl rfl ?_
    refine g_iload C X9 (pc' := 28) at_26 rfl rfl ?_
    refine g_iconst C X9 (pc' := 29) at_28 (v := (1 : Int32)) (by decide) rfl ?_
    refine g_icmpN C X9 at_29 (by decide) rfl ?_
    refine g_lload C X9 (pc' := 34) at_32 rfl rfl ?_
    refine g_iloadN C X9 (pc' := 35) at_34 rfl rfl ?_
    refine g_i2l C X9 (pc' := 36) at_35 rfl ?_
    refine g_ladd C X9 (pc' := 37) at_36 rfl ?_
    obtain ⟨j8, e_j8⟩ : ∃ z : Int64, z = (0 : Int64) + p1.toInt64 := ⟨_, rfl⟩
    refine g_lstore C X9 (pc' := 39) at_37 (x := j8) e_j8 (l' := #[.val (.int p0), .val (.int p1), .val (.int p2), .val (.int p3), .val (.int p4), .val (.int p5), .val (.int (4 : Int32)), .val (.ref a9), .val (.long j8), .second, .unset, .unset]) rfl rfl ?_
    have f_j8 : j8.toInt = 0 + p1.toInt := by rw [e_j8]; exact own_add (by decide)
    refine g_iload C X9 (pc' := 41) at_39 rfl rfl ?_
    refine g_iconst C X9 (pc' := 42) at_41 (v := (2 : Int32)) (by decide) rfl ?_
    refine g_icmpN C X9 at_42 (by decide) rfl ?_
    refine g_lload C X9 (pc' := 47) at_45 rfl rfl ?_
    refine g_iloadN C X9 (pc' := 48) at_47 rfl rfl ?_
    refine g_i2l C X9 (pc' := 49) at_48 rfl ?_
    refine g_ladd C X9 (pc' := 50) at_49 rfl ?_
    obtain ⟨j9, e_j9⟩ : ∃ z : Int64, z = j8 + p2.toInt64 := ⟨_, rfl⟩
    refine g_lstore C X9 (pc' := 52) at_50 (x := j9) e_j9 (l' := #[.val (.int p0), .val (.int p1), .val (.int p2), .val (.int p3), .val (.int p4), .val (.int p5), .val (.int (4 : Int32)), .val (.ref a9), .val (.long j9), .second, .unset, .unset]) rfl rfl ?_
    have f_j9 : j9.toInt = j8.toInt + p2.toInt := by rw [e_j9]; exact own_add (by omega)
    refine g_iload C X9 (pc' := 54) at_52 rfl rfl ?_
    refine g_iconst C X9 (pc' := 55) at_54 (v := (3 : Int32)) (by decide) rfl ?_
    refine g_icmpN C X9 at_55 (by decide) rfl ?_
    refine g_lload C X9 (pc' := 60) at_58 rfl rfl ?_
    refine g_iloadN C X9 (pc' := 61) at_60 rfl rfl ?_
    refine g_i2l C X9 (pc' := 62) at_61 rfl ?_
    refine g_ladd C X9 (pc' := 63) at_62 rfl ?_
    obtain ⟨j10, e_j10⟩ : ∃ z : Int64, z = j9 + p3.toInt64 := ⟨_, rfl⟩
    refine g_lstore C X9 (pc' := 65) at_63 (x := j10) e_j10 (l' := #[.val (.int p0), .val (.int p1), .val (.int p2), .val (.int p3), .val (.int p4), .val (.int p5), .val (.int (4 : Int32)), .val (.ref a9), .val (.long j10), .second, .unset, .unset]) rfl rfl ?_
    have f_j10 : j10.toInt = j9.toInt + p3.toInt := by rw [e_j10]; exact own_add (by omega)
    refine g_iload C X9 (pc' := 67) at_65 rfl rfl ?_
    refine g_iconst C X9 (pc' := 68) at_67 (v := (4 : Int32)) (by decide) rfl ?_
    refine g_icmpN C X9 at_68 (by decide) rfl ?_
    refine g_lload C X9 (pc' := 73) at_71 rfl rfl ?_
    refine g_iload C X9 (pc' := 75) at_73 rfl rfl ?_
    refine g_i2l C X9 (pc' := 76) at_75 rfl ?_
    refine g_ladd C X9 (pc' := 77) at_76 rfl ?_
    obtain ⟨j11, e_j11⟩ : ∃ z : Int64, z = j10 + p4.toInt64 := ⟨_, rfl⟩
    refine g_lstore C X9 (pc' := 79) at_77 (x := j11) e_j11 (l' := #[.val (.int p0), .val (.int p1), .val (.int p2), .val (.int p3), .val (.int p4), .val (.int p5), .val (.int (4 : Int32)), .val (.ref a9), .val (.long j11), .second, .unset, .unset]) rfl rfl ?_
    have f_j11 : j11.toInt = j10.toInt + p4.toInt := by rw [e_j11]; exact own_add (by omega)
    refine g_iload C X9 (pc' := 81) at_79 rfl rfl ?_
    refine g_iconst C X9 (pc' := 82) at_81 (v := (5 : Int32)) (by decide) rfl ?_
    refine g_icmpY C X9 at_82 (pc' := 93) (by decide) (by decide) (by decide) ?_
    refine g_aload C X9 (pc' := 95) at_93 rfl rfl rfl ?_
    refine g_callS C X9 (c_sum4 l Z h9 a9 k9 _ _ _ _ _ _ _ _ (i2d_D p1) (i2d_D p2) (i2d_D p3) (i2d_D p4) R1 R2 R3 R4 A9) (hw _ (List.mem_of_getElem? (i := 5) rfl)) (hw _ (List.mem_of_getElem? (i := 6) rfl)) (hw _ (List.mem_of_getElem? (i := 7) rfl)) (hw _ (List.mem_of_getElem? (i := 8) rfl)) (by decide) e9 at_95 rfl pdS [(.ref a9)] [] rfl rfl rfl 0 rfl (by decide) (by decide) (by decide) (by decide) rfl ?_
    rintro _ T10 _ X10 ⟨r10, rfl, D_r10, rfl, e10⟩
    rw [List.append_nil] at X10
    show Go p.tables e below _ T10 (mkF m 98 #[.val (.int p0), .val (.int p1), .val (.int p2), .val (.int p3), .val (.int p4), .val (.int p5), .val (.int (4 : Int32)), .val (.ref a9), .val (.long j11), .second, .unset, .unset] [(.double r10)])
    refine g_dstore C X10 (pc' := 100) at_98 (x := r10) rfl (l' := #[.val (.int p0), .val (.int p1), .val (.int p2), .val (.int p3), .val (.int p4), .val (.int p5), .val (.int (4 : Int32)), .val (.ref a9), .val (.long j11), .second, .val (.double r10), .second]) rfl rfl ?_
    refine g_dload C X10 (pc' := 102) at_100 rfl rfl ?_
    refine g_lload C X10 (pc' := 104) at_102 rfl rfl ?_
    refine g_l2d C X10 (pc' := 105) at_104 rfl ?_
    refine g_dcmpV C X10 (pc' := 106) at_105 (dcmp_cmpI D_r10 (l2d_D (x := j11) (by omega)) _) rfl ?_
    refine g_if C X10 at_106 (pc' := 113) (pc'' := 109) (by decide) (by decide) rfl (fun c106 => ?_) (fun c106 => ?_)
    · have c106 : ¬ ((cmpI (0 + p1.toInt + p2.toInt + p3.toInt + p4.toInt) j11.toInt).toInt = 0) := c106
      have c106 : ¬ (0 + p1.toInt + p2.toInt + p3.toInt + p4.toInt = j11.toInt) := fun q => c106 ((cmpI_eq _ _).mpr q)
      refine g_iconst C X10 (pc' := 114) at_113 (v := (0 : Int32)) (by decide) rfl ?_
      exfalso; omega
    · have c106 : (cmpI (0 + p1.toInt + p2.toInt + p3.toInt + p4.toInt) j11.toInt).toInt = 0 := Decidable.not_not.mp c106
      have c106 : 0 + p1.toInt + p2.toInt + p3.toInt + p4.toInt = j11.toInt := (cmpI_eq _ _).mp c106
      refine g_iconst C X10 (pc' := 110) at_109 (v := (1 : Int32)) (by decide) rfl ?_
      refine g_goto C X10 at_110 (pc' := 114) (by decide) (by decide) ?_
      exact g_zreturn C X10 at_114 (w := 1) (by decide) ⟨rfl, N9⟩ (by decide) (by decide)
  · show Go p.tables e below _ T0 (mkF m 9 #[.val (.int p0), .val (.int p1), .val (.int p2), .val (.int p3), .val (.int p4), .val (.int p5), .val (.int (5 : Int32)), .unset, .unset, .unset, .unset, .unset] [])
    refine g_iload C X0 (pc' := 11) at_9 rfl rfl ?_
    refine g_iloadN C X0 (pc' := 12) at_11 rfl rfl ?_
    refine g_iloadN C X0 (pc' := 13) at_12 rfl rfl ?_
    refine g_iloadN C X0 (pc' := 14) at_13 rfl rfl ?_
    refine g_iload C X0 (pc' := 16) at_14 rfl rfl ?_
    refine g_iload C X0 (pc' := 18) at_16 rfl rfl ?_
    refine g_callS C X0 (c_build5 l Z a0 hw h n0 Z0 p1 p2 p3 p4 p5) (hw _ (List.mem_of_getElem? (i := 0) rfl)) (hw _ (List.mem_of_getElem? (i := 1) rfl)) (hw _ (List.mem_of_getElem? (i := 2) rfl)) (hw _ (List.mem_of_getElem? (i := 3) rfl)) (by decide) e0 at_18 rfl pdB [(.int (5 : Int32)), (.int p1), (.int p2), (.int p3), (.int p4), (.int p5)] [] rfl rfl rfl 0 rfl (by decide) (by decide) (by decide) (by decide) rfl ?_
    rintro _ T11 L11 X11 ⟨a11, k11, rfl, g11, M11, K11, A11⟩
    have N11 := Fr.app (Fr.nil n0) M11
    obtain ⟨h11, e11⟩ : ∃ z, T11.heap = z := ⟨_, rfl⟩
    rw [e11] at A11
    show Go p.tables e below _ T11 (mkF m 21 #[.val (.int p0), .val (.int p1), .val (.int p2), .val (.int p3), .val (.int p4), .val (.int p5), .val (.int (5 : Int32)), .unset, .unset, .unset, .unset, .unset] [(.ref a11)])
    refine g_astore C X11 (pc' := 23) at_21 rfl (l' := #[.val (.int p0), .val (.int p1), .val (.int p2), .val (.int p3), .val (.int p4), .val (.int p5), .val (.int (5 : Int32)), .val (.ref a11), .unset, .unset, .unset, .unset]) rfl rfl ?_
    refine g_lconst C X11 (pc' := 24) at_23 (v := (0 : Int64)) (by decide) rfl ?_
    refine g_lstore C X11 (pc' := 26) at_24 (x := (0 : Int64)) rfl (l' := #[.val (.int p0), .val (.int p1), .val (.int p2), .val (.int p3), .val (.int p4), .val (.int p5), .val (.int (5 : Int32)), .val (.ref a11), .val (.long (0 : Int64)), .second, .unset, .unset]) rfl rfl ?_
    refine g_iload C X11 (pc' := 28) at_26 rfl rfl ?_
    refine g_iconst C X11 (pc' := 29) at_28 (v := (1 : Int32)) (by decide) rfl ?_
    refine g_icmpN C X11 at_29 (by decide) rfl ?_
    refine g_lload C X11 (pc' := 34) at_32 rfl rfl ?_
    refine g_iloadN C X11 (pc' := 35) at_34 rfl rfl ?_
    refine g_i2l C X11 (pc' := 36) at_35 rfl ?_
    refine g_ladd C X11 (pc' := 37) at_36 rfl ?_
    obtain ⟨j12, e_j12⟩ : ∃ z : Int64, z = (0 : Int64) + p1.toInt64 := ⟨_, rfl⟩
    refine g_lstore C X11 (pc' := 39) at_37 (x := j12) e_j12 (l' := #[.val (.int p0), .val (.int p1), .val (.int p2), .val (.int p3), .val (.int p4), .val (.int p5), .val (.int (5 : Int32)), .val (.ref a11), .val (.long j12), .second, .unset, .unset]) rfl rfl ?_
    have f_j12 : j12.toInt = 0 + p1.toInt := by rw [e_j12]; exact own_add (by decide)
    refine g_iload C X11 (pc' := 41) at_39 rfl rfl ?_
    refine g_iconst C X11 (pc' := 42) at_41 (v := (2 : Int32)) (by decide) rfl ?_
    refine g_icmpN C X11 at_42 (by decide) rfl ?_
    refine g_lload C X11 (pc' := 47) at_45 rfl rfl ?_
    refine g_iloadN C X11 (pc' := 48) at_47 rfl rfl ?_
    refine g_i2l C X11 (pc' := 49) at_48 rfl ?_
    refine g_ladd C X11 (pc' := 50) at_49 rfl ?_
    obtain ⟨j13, e_j13⟩ : ∃ z : Int64, z = j12 + p2.toInt64 := ⟨_, rfl⟩
    refine g_lstore C X11 (pc' := 52) at_50 (x := j13) e_j13 (l' := #[.val (.int p0), .val (.int p1), .val (.int p2), .val (.int p3), .val (.int p4), .val (.int p5), .val (.int (5 : Int32)), .val (.ref a11), .val (.long j13), .second, .unset, .unset]) rfl rfl ?_
    have f_j13 : j13.toInt = j12.toInt + p2.toInt := by rw [e_j13]; exact own_add (by omega)
    refine g_iload C X11 (pc' := 54) at_52 rfl rfl ?_
    refine g_iconst C X11 (pc' := 55) at_54 (v := (3 : Int32)) (by decide) rfl ?_
    refine g_icmpN C X11 at_55 (by decide) rfl ?_
    refine g_lload C X11 (pc' := 60) at_58 rfl rfl ?_
    refine g_iloadN C X11 (pc' := 61) at_60 rfl rfl ?_
    refine g_i2l C X11 (pc' := 62) at_61 rfl ?_
    refine g_ladd C X11 (pc' := 63) at_62 rfl ?_
    obtain ⟨j14, e_j14⟩ : ∃ z : Int64, z = j13 + p3.toInt64 := ⟨_, rfl⟩
    refine g_lstore C X11 (pc' := 65) at_63 (x := j14) e_j14 (l' := #[.val (.int p0), .val (.int p1), .val (.int p2), .val (.int p3), .val (.int p4), .val (.int p5), .val (.int (5 : Int32)), .val (.ref a11), .val (.long j14), .second, .unset, .unset]) rfl rfl ?_
    have f_j14 : j14.toInt = j13.toInt + p3.toInt := by rw [e_j14]; exact own_add (by omega)
    refine g_iload C X11 (pc' := 67) at_65 rfl rfl ?_
    refine g_iconst C X11 (pc' := 68) at_67 (v := (4 : Int32)) (by decide) rfl ?_
    refine g_icmpN C X11 at_68 (by decide) rfl ?_
    refine g_lload C X11 (pc' := 73) at_71 rfl rfl ?_
    refine g_iload C X11 (pc' := 75) at_73 rfl rfl ?_
    refine g_i2l C X11 (pc' := 76) at_75 rfl ?_
    refine g_ladd C X11 (pc' := 77) at_76 rfl ?_
    obtain ⟨j15, e_j15⟩ : ∃ z : Int64, z = j14 + p4.toInt64 := ⟨_, rfl⟩
    refine g_lstore C X11 (pc' := 79) at_77 (x := j15) e_j15 (l' := #[.val (.int p0), .val (.int p1), .val (.int p2), .val (.int p3), .val (.int p4), .val (.int p5), .val (.int (5 : Int32)), .val (.ref a11), .val (.long j15), .second, .unset, .unset]) rfl rfl ?_
    have f_j15 : j15.toInt = j14.toInt + p4.toInt := by rw [e_j15]; exact own_add (by omega)
    refine g_iload C X11 (pc' := 81) at_79 rfl rfl ?_
    refine g_iconst C X11 (pc' := 82) at_81 (v := (5 : Int32)) (by decide) rfl ?_
    refine g_icmpN C X11 at_82 (by decide) rfl ?_
    refine g_lload C X11 (pc' := 87) at_85 rfl rfl ?_
    refine g_iload C X11 (pc' := 89) at_87 rfl rfl ?_
    refine g_i2l C X11 (pc' := 90) at_89 rfl ?_
    refine g_ladd C X11 (pc' := 91) at_90 rfl ?_
    obtain ⟨j16, e_j16⟩ : ∃ z : Int64, z = j15 + p5.toInt64 := ⟨_, rfl⟩
    refine g_lstore C X11 (pc' := 93) at_91 (x := j16) e_j16 (l' := #[.val (.int p0), .val (.int p1), .val (.int p2), .val (.int p3), .val (.int p4), .val (.int p5), .val (.int (5 : Int32)), .val (.ref a11), .val (.long j16), .second, .unset, .unset]) rfl rfl ?_
    have f_j16 : j16.toInt = j15.toInt + p5.toInt := by rw [e_j16]; exact own_add (by omega)
    refine g_aload C X11 (pc' := 95) at_93 rfl rfl rfl ?_
    refine g_callS C X11 (c_sum5 l Z h11 a11 k11 _ _ _ _ _ _ _ _ _ _ (i2d_D p1) (i2d_D p2) (i2d_D p3) (i2d_D p4) (i2d_D p5) R1 R2 R3 R4 R5 A11) (hw _ (List.mem_of_getElem? (i := 5) rfl)) (hw _ (List.mem_of_getElem? (i := 6) rfl)) (hw _ (List.mem_of_getElem? (i := 7) rfl)) (hw _ (List.mem_of_getElem? (i := 8) rfl)) (by decide) e11 at_95 rfl pdS [(.ref a11)] [] rfl rfl rfl 0 rfl (by decide) (by decide) (by decide) (by decide) rfl ?_
    rintro _ T12 _ X12 ⟨r12, rfl, D_r12, rfl, e12⟩
    rw [List.append_nil] at X12
    show Go p.tables e below _ T12 (mkF m 98 #[.val (.int p0), .val (.int p1), .val (.int p2), .val (.int p3), .val (.int p4), .val (.int p5), .val (.int (5 : Int32)), .val (.ref a11), .val (.long j16), .second, .unset, .unset] [(.double r12)])
    refine g_dstore C X12 (pc' := 100) at_98 (x := r12) rfl (l' := #[.val (.int p0), .val (.int p1), .val (.int p2), .val (.int p3), .val (.int p4), .val (.int p5), .val (.int (5 : Int32)), .val (.ref a11), .val (.long j16), .second, .val (.double r12), .second]) rfl rfl ?_
    refine g_dload C X12 (pc' := 102) at_100 rfl rfl ?_
    refine g_lload C X12 (pc' := 104) at_102 rfl rfl ?_
    refine g_l2d C X12 (pc' := 105) at_104 rfl ?_
    refine g_dcmpV C X12 (pc' := 106) at_105 (dcmp_cmpI D_r12 (l2d_D (x := j16) (by omega)) _) rfl ?_
    refine g_if C X12 at_106 (pc' := 113) (pc'' := 109) (by decide) (by decide) rfl (fun c106 => ?_) (fun c106 => ?_)
    · have c106 : ¬ ((cmpI (0 + p1.toInt + p2.toInt + p3.toInt + p4.toInt + p5.toInt) j16.toInt).toInt = 0) := c106
      have c106 : ¬ (0 + p1.toInt + p2.toInt + p3.toInt + p4.toInt + p5.toInt = j16.toInt) := fun q => c106 ((cmpI_eq _ _).mpr q)
      refine g_iconst C X12 (pc' := 114) at_113 (v := (0 : Int32)) (by decide) rfl ?_
      exfalso; omega
    · have c106 : (cmpI (0 + p1.toInt + p2.toInt + p3.toInt + p4.toInt + p5.toInt) j16.toInt).toInt = 0 := Decidable.not_not.mp c106
      have c106 : 0 + p1.toInt + p2.toInt + p3.toInt + p4.toInt + p5.toInt = j16.toInt := (cmpI_eq _ _).mp c106
      refine g_iconst C X12 (pc' := 110) at_109 (v := (1 : Int32)) (by decide) rfl ?_
      refine g_goto C X12 at_110 (pc' := 114) (by decide) (by decide) ?_
      exact g_zreturn C X12 at_114 (w := 1) (by decide) ⟨rfl, N11⟩ (by decide) (by decide)
set_option maxRecDepth 65536 in
set_option maxHeartbeats 40000000 in
theorem comes_1 {Post : Tables → Env → Array Value → State → Outcome → State → Prop} (hpost : ∀ tb e args s v u, (limb_1_1.after args s (.returned v) u = true ∧ limb_1_2.after args s (.returned v) u = true ∧ True) → FrameEnd s (.returned v) u (Jvm.fieldLocs frame_1_writes args s ++ Jvm.arrayLocs frame_1_arrays args s ++ Jvm.staticLocs frame_1_statics s) 16 128 → Post tb e args s (.returned v) u) :
    ArmFor flags0 classFile x code maxLocals ret World_1 tables_1 room_1 Calls_1 rest_1 Pre_1 Post := by
  intro l hfl _ _ p e ha hc hk s m args below hf hA hF happ hP
  obtain ⟨hcalls, hrest, hpre⟩ := hP
  obtain ⟨-, -, -, hnamed, -, -, -, hat⟩ := (Spec.applies_iff hf).mp happ
  obtain ⟨hg, hn⟩ := and_e (Cond.before_iff.mp (show (Jvm.Cond.and given_1 narrow_1).before args s = true from hpre))
  obtain ⟨g_c, g_0⟩ := and_e hg
  obtain ⟨k_0, g_1⟩ := and_e g_0
  obtain ⟨k_1, g_2⟩ := and_e g_1
  obtain ⟨k_2, g_3⟩ := and_e g_2
  obtain ⟨k_3, g_4⟩ := and_e g_3
  obtain ⟨k_4, g_5⟩ := and_e g_4
  have k_5 := g_5
  obtain ⟨w0, w1, w2, w3, w4, w5, rfl⟩ : ∃ w0 w1 w2 w3 w4 w5 : Value, args = #[w0, w1, w2, w3, w4, w5] := by
    have hs : args.size = 6 := by simpa [Cond.value, given_1] using g_c
    obtain ⟨L⟩ := args
    match L, hs with
    | [w0, w1, w2, w3, w4, w5], _ => exact ⟨w0, w1, w2, w3, w4, w5, rfl⟩
  have hw := fun d (hd : d ∈ tables_1) => atoms_spec (ws := Jvm.Cond.code x code maxLocals ret :: tables_1) hat d (List.mem_cons_of_mem _ hd)
  have hfit : Fit s := fun {y c} hc i hi => by
    obtain ⟨ha, rfl⟩ := Array.getElem?_eq_some_iff.mp hc
    have q := List.all_eq_true.mp ((Array.all_eq_true_iff_forall_mem.mp hF) _ (Array.getElem_mem ha)) i (List.mem_range.mpr hi)
    simpa [Array.getElem?_eq_getElem hi] using q
  obtain ⟨p0, q_0⟩ := is_v k_0
  obtain rfl : w0 = (.int p0) := Option.some.inj q_0
  obtain ⟨p1, q_1⟩ := is_v k_1
  obtain rfl : w1 = (.int p1) := Option.some.inj q_1
  obtain ⟨p2, q_2⟩ := is_v k_2
  obtain rfl : w2 = (.int p2) := Option.some.inj q_2
  obtain ⟨p3, q_3⟩ := is_v k_3
  obtain rfl : w3 = (.int p3) := Option.some.inj q_3
  obtain ⟨p4, q_4⟩ := is_v k_4
  obtain rfl : w4 = (.int p4) := Option.some.inj q_4
  obtain ⟨p5, q_5⟩ := is_v k_5
  obtain rfl : w5 = (.int p5) := Option.some.inj q_5
  obtain ⟨n, o, h1, h2, h3, _, L, rfl, ⟨rfl, N⟩, hq⟩ := law l s _ hw p0 p1 p2 p3 p4 p5 s.heap s.heap.size (Nat.le_refl _)  tables_1 p e ha hc hk s m _ below hf ((Spec.applies_iff_loose hf).mp happ).1 ⟨rfl, State.Warmed39.refl s, rfl⟩ trivial
  refine ⟨n, _, h1, h2, h3, hpost _ _ _ _ _ _ ⟨Cond.after_iff.mpr rfl, Cond.after_iff.mpr (eq_i res_at (Term.int_eval (1)) rfl), trivial⟩ ⟨hq.1, hq.2.1, (hq.2.2.sift fun y hy => Or.inr (N y hy)).mono (by decide) (by decide)⟩⟩
theorem main_1_1 : Claimed_1_1 := comes_1 fun _ _ _ _ _ _ h hF => ⟨h.1, hF⟩
theorem main_1_2 : Claimed_1_2 := comes_1 fun _ _ _ _ _ _ h hF => ⟨h.2.1, hF⟩
end Jvm.Pilot.@@N@@
namespace Jvm.Pilot.@@N@@
open Jvm Jvm.ClassFile Sem Op Lib Jvm.Free Jvm.Stand Jvm.Pilot.@@N@@.Jvm.D
/-! MADE BY PROGRAM (witnessworld.py) out of the Statement's table words and the real class files: 11 classes; the members and pool entries that the words name. The judged class is class 1, her method 1. -/
namespace start1
open Jvm.ClassFile
def u (s : String) : CpInfo := .utf8 (stringToUtf16 s)
/-- a pool by its gaps: so many unusable entries, then the entry; so many at the end -/
def gap : Nat → List CpInfo → List CpInfo
  | 0, r => r
  | n + 1, r => .unusable :: gap n r
def poolList (es : List (Nat × CpInfo)) (last : Nat) : List CpInfo := es.foldr (fun e r => gap e.1 (e.2 :: r)) (gap last [])
def pool (es : List (Nat × CpInfo)) (last : Nat) : Array CpInfo := ⟨poolList es last⟩
def fileOf (pool : Array CpInfo) (this : Nat) (attrs : Array Attribute := #[]) (ms : Array MethodInfo := #[]) (fl : Nat := 33) (sup : Nat := 0) (ifs : Array Nat := #[]) (fds : Array FieldInfo := #[]) : ClassFile where
  minorVersion := 0
  majorVersion := 65
  constantPool := pool
  accessFlags := fl
  thisClass := this
  superClass := sup
  interfaces := ifs
  fields := fds
  methods := ms
  attributes := attrs
def plain (name : String) (sup : Option ClassId) : Class where
  name := name
  kind := .ordinary
  loader := none
  accessFlags := 33
  super := sup
  interfaces := #[]
  cf := none
  fields := #[]
  methods := #[]
  instanceTypes := #[]
  staticTypes := #[]
  resolved := #[]
  callSites := []
  init := .initialized
  statics := none
  mirror := none

def pool0 : Array CpInfo := pool [(5, u "<init>"), (0, u "()V"), (1, .class_ 10), (1, u "java/lang/Object")] 113

def k0m0 : Method := { name := "<init>", desc := "()V", sig := { parameters := [], returnType := none }, accessFlags := 1, code := none }
/-- java/lang/Object -/
def k0 : Class := { plain "java/lang/Object" none with
  accessFlags := 33
  interfaces := #[]
  cf := some (fileOf pool0 8 #[] #[{ accessFlags := 1, nameIndex := 5, descriptorIndex := 6, attributes := #[] }] 33 0 #[] #[])
  fields := #[]
  methods := #[k0m0]
  instanceTypes := #[]
  staticTypes := #[]
  resolved := Array.replicate 124 none
  statics := none }

def pool1 : Array CpInfo := pool [(2, .class_ 4), (1, u "java/lang/Object"), (0, u "<init>"), (0, u "()V"), (0, .methodref 8 9), (0, .class_ 10), (0, .nameAndType 11 12), (0, u "com/example/sitewise/sitewise/SolutionSumOfPinLaw"), (0, u "build"), (0, u "(IIIIII)[D"), (0, .methodref 14 15), (0, .class_ 16), (0, .nameAndType 17 18), (0, u "com/example/sitewise/sitewise/Solution"), (0, u "sumOf"), (0, u "([D)D"), (2, u "law"), (0, u "(IIIIII)Z")] 5

def k1m0 : Method := { name := "<init>", desc := "()V", sig := { parameters := [], returnType := none }, accessFlags := 1, code := none }
def k1c1 : Code := { maxStack := 6, maxLocals := 12, code := code, exceptionTable := #[], attributes := #[] }
def k1m1 : Method := { name := "law", desc := "(IIIIII)Z", sig := { parameters := [.int, .int, .int, .int, .int, .int], returnType := some .boolean }, accessFlags := 9, code := some k1c1 }
def k1c2 : Code := { maxStack := 5, maxLocals := 6, code := method_3_code, exceptionTable := #[], attributes := #[] }
def k1m2 : Method := { name := "build", desc := "(IIIIII)[D", sig := { parameters := [.int, .int, .int, .int, .int, .int], returnType := some (.array .double) }, accessFlags := 10, code := some k1c2 }
/-- com/example/sitewise/sitewise/SolutionSumOfPinLaw -/
def k1 : Class := { plain "com/example/sitewise/sitewise/SolutionSumOfPinLaw" (some 0) with
  accessFlags := 49
  interfaces := #[]
  cf := some (fileOf pool1 8 #[] #[{ accessFlags := 1, nameIndex := 5, descriptorIndex := 6, attributes := #[] }, { accessFlags := 9, nameIndex := 21, descriptorIndex := 22, attributes := #[] }, { accessFlags := 10, nameIndex := 11, descriptorIndex := 12, attributes := #[] }] 49 2 #[] #[])
  fields := #[]
  methods := #[k1m0, k1m1, k1m2]
  instanceTypes := #[]
  staticTypes := #[]
  resolved := Array.replicate 28 none
  statics := none }

def pool2 : Array CpInfo := pool [(2, .class_ 4), (1, u "com/example/sitewise/sitewise/Solution"), (3, .class_ 10), (1, u "java/lang/Object"), (3, u "plan"), (0, u "Lcom/example/sitewise/sitewise/Plan;"), (2, u "cost"), (0, u "D"), (2, u "lowerBound"), (2, u "guarantee"), (0, u "Ljava/lang/String;"), (2, u "alpha"), (0, u "[D"), (2, u "sumOf"), (0, u "([D)D")] 73

def k2c0 : Code := { maxStack := 4, maxLocals := 8, code := prog_34_method_6_code, exceptionTable := #[], attributes := #[] }
def k2m0 : Method := { name := "sumOf", desc := "([D)D", sig := { parameters := [(.array .double)], returnType := some .double }, accessFlags := 8, code := some k2c0 }
/-- com/example/sitewise/sitewise/Solution -/
def k2 : Class := { plain "com/example/sitewise/sitewise/Solution" (some 0) with
  accessFlags := 49
  interfaces := #[]
  cf := some (fileOf pool2 2 #[] #[{ accessFlags := 8, nameIndex := 33, descriptorIndex := 34, attributes := #[] }] 49 8 #[] #[{ accessFlags := 18, nameIndex := 14, descriptorIndex := 15, attributes := #[] }, { accessFlags := 18, nameIndex := 18, descriptorIndex := 19, attributes := #[] }, { accessFlags := 18, nameIndex := 22, descriptorIndex := 19, attributes := #[] }, { accessFlags := 18, nameIndex := 25, descriptorIndex := 26, attributes := #[] }, { accessFlags := 18, nameIndex := 29, descriptorIndex := 30, attributes := #[] }])
  fields := #[{ name := "plan", type := (.object "com/example/sitewise/sitewise/Plan"), accessFlags := 18, slot := 0, constantValue := 0 }, { name := "cost", type := .double, accessFlags := 18, slot := 1, constantValue := 0 }, { name := "lowerBound", type := .double, accessFlags := 18, slot := 2, constantValue := 0 }, { name := "guarantee", type := (.object "java/lang/String"), accessFlags := 18, slot := 3, constantValue := 0 }, { name := "alpha", type := (.array .double), accessFlags := 18, slot := 4, constantValue := 0 }]
  methods := #[k2m0]
  instanceTypes := #[(.object "com/example/sitewise/sitewise/Plan"), .double, .double, (.object "java/lang/String"), (.array .double)]
  staticTypes := #[]
  resolved := Array.replicate 108 none
  statics := none }

def pool3 : Array CpInfo := pool [(1, u "java/lang/Cloneable"), (0, .class_ 1), (0, u "java/lang/Object"), (0, .class_ 3)] 3

/-- java/lang/Cloneable -/
def k3 : Class := { plain "java/lang/Cloneable" (some 0) with
  accessFlags := 1537
  interfaces := #[]
  cf := some (fileOf pool3 2 #[] #[] 1537 4 #[] #[])
  fields := #[]
  methods := #[]
  instanceTypes := #[]
  staticTypes := #[]
  resolved := Array.replicate 8 none
  statics := none }

def pool4 : Array CpInfo := pool [(1, u "java/io/Serializable"), (0, .class_ 1), (0, u "java/lang/Object"), (0, .class_ 3)] 3

/-- java/io/Serializable -/
def k4 : Class := { plain "java/io/Serializable" (some 0) with
  accessFlags := 1537
  interfaces := #[]
  cf := some (fileOf pool4 2 #[] #[] 1537 4 #[] #[])
  fields := #[]
  methods := #[]
  instanceTypes := #[]
  staticTypes := #[]
  resolved := Array.replicate 8 none
  statics := none }

/-- the primitive byte -/
def k5 : Class := { plain "byte" none with kind := .primitive 'B', accessFlags := 0x411 }
/-- [B -/
def k6 : Class := { plain "[B" (some 0) with kind := .array 5 .byte, interfaces := #[3, 4], accessFlags := 1041 }

/-- the primitive double -/
def k7 : Class := { plain "double" none with kind := .primitive 'D', accessFlags := 0x411 }
/-- [D -/
def k8 : Class := { plain "[D" (some 0) with kind := .array 7 .double, interfaces := #[3, 4], accessFlags := 1041 }

/-- the primitive int -/
def k9 : Class := { plain "int" none with kind := .primitive 'I', accessFlags := 0x411 }
/-- [I -/
def k10 : Class := { plain "[I" (some 0) with kind := .array 9 .int, interfaces := #[3, 4], accessFlags := 1041 }

def heap : Heap := #[]
def classes : Array Class := #[k0, k1, k2, k3, k4, k5, k6, k7, k8, k9, k10]
def interned : List (Array UInt16 × Addr) := []
def slotsUsed : Nat := 0
def theMethod : MethodId := ⟨1, 1⟩
def args0 : Array Value := #[.int 3, .int 7, .int 2, .int 4, .int 5, .int 6]
def aboutOver (below : List Frame) : State where
  vm := { classes := classes, interned := interned.toArray }
  heap := heap
  slotsUsed := slotsUsed
  threads := #[{ frames := .invoking theMethod args0 :: below }]
def below0 : List Frame := [.native { method := ⟨0, 0⟩, args := #[] }]
def about1 : State := aboutOver below0
def p0 : Program := .bare "" "" ""
def e0 : Env := launch0.env 0 0 0
theorem w_frames : about1.frames = Frame.invoking theMethod args0 :: below0 := rfl
set_option maxRecDepth 65536 in
theorem w_args : argsFit about1.vm theMethod args0 = true := by decide +kernel
set_option maxRecDepth 65536 in
theorem w_heap : heapFits about1 = true := by decide +kernel
set_option maxRecDepth 65536 in
theorem w_runnable : about1.curStatus? = some .runnable := by decide +kernel
set_option maxRecDepth 65536 in
theorem w_alone : about1.alone = true := by decide +kernel
set_option maxRecDepth 65536 in
theorem w_named : about1.methodNamed? x = some theMethod := by decide +kernel
set_option maxRecDepth 65536 in
theorem w_hears : about1.hears theMethod below0 = true := by decide +kernel
set_option maxRecDepth 65536 in
theorem w_ripe : about1.ripe theMethod args0 below0 = true := by decide +kernel
theorem w_running : about1.status = .running := rfl
set_option maxRecDepth 65536 in
theorem w_room : about1.hasRoom e0.platform room_1 = true :=
  launch0.hasRoom_least _ room_1 (by decide +kernel) (by decide +kernel) (by decide +kernel) (by decide +kernel) (by decide +kernel) (by decide +kernel)
theorem allAtoms_all (ts : List Jvm.Cond) (a : Array Jvm.Value) (st : Jvm.State) : (allAtoms ts).before a st = ts.all (fun c => c.before a st) := by
  induction ts with
  | nil => rfl
  | cons c t ih =>
    show (Jvm.Cond.and c (allAtoms t)).before a st = _
    rw [Jvm.Cond.before_and, ih, List.all_cons]
def words1 : List Jvm.Cond := Jvm.Cond.code x code maxLocals ret :: tables_1
/-- a 'code' word, met by the world's own term for the bytes: nothing is compared byte by byte -/
theorem code_word {y : MethodName} {bytes : ByteArray} {mx : Nat} {rt : Option FieldType} {a : Array Value} {s : State} {m : MethodId} {meth : Method} {c : Code} (h1 : s.methodNamed? y = some m) (h2 : s.vm.method? m = some meth) (h3 : meth.code = some c) (h4 : c.code = bytes)
    (h5 : (c.maxLocals == mx && c.exceptionTable.isEmpty && decide (c.maxStack ≤ mostOperands) && decide (meth.sig.returnType = rt) && !meth.locks && decide (parseMethodDescriptor y.desc = some meth.sig)) = true) : (Jvm.Cond.code y bytes mx rt).before a s = true := by
  simp only [Bool.and_eq_true, beq_iff_eq, Bool.not_eq_true', decide_eq_true_eq] at h5
  obtain ⟨⟨⟨⟨⟨g1, g2⟩, g3⟩, g4⟩, g5⟩, g6⟩ := h5
  simp [Cond.before, Cond.holds, Cond.value, h1, h2, h3, h4, g1, g2, g3, g4, g5, g6]
def isCode : Jvm.Cond → Bool
  | .code _ _ _ _ => true
  | _ => false
theorem all_split {L : List Jvm.Cond} {P : Jvm.Cond → Bool} (h1 : L.all (fun c => isCode c || P c) = true) (h2 : ∀ c ∈ L.filter isCode, P c = true) : L.all P = true := by
  refine List.all_eq_true.mpr fun c hc => ?_
  have h := List.all_eq_true.mp h1 c hc
  rcases Bool.eq_false_or_eq_true (isCode c) with hi | hi
  · exact h2 c (List.mem_filter.mpr ⟨hc, hi⟩)
  · simpa [hi] using h
set_option maxRecDepth 65536 in
theorem w_c0 : (Jvm.Cond.code x code maxLocals ret).before args0 about1 = true := code_word (m := ⟨1, 1⟩) (meth := k1m1) (c := k1c1) (by decide +kernel) rfl rfl rfl (by decide +kernel)
set_option maxRecDepth 65536 in
theorem w_c1 : (Jvm.Cond.code ({ cls := "com/example/sitewise/sitewise/SolutionSumOfPinLaw", name := "build", desc := "(IIIIII)[D" } : Jvm.MethodName) method_3_code (6 : Nat) (Option.some (Jvm.ClassFile.FieldType.array Jvm.ClassFile.FieldType.double))).before args0 about1 = true := code_word (m := ⟨1, 2⟩) (meth := k1m2) (c := k1c2) (by decide +kernel) rfl rfl rfl (by decide +kernel)
set_option maxRecDepth 65536 in
theorem w_c2 : (Jvm.Cond.code ({ cls := "com/example/sitewise/sitewise/Solution", name := "sumOf", desc := "([D)D" } : Jvm.MethodName) prog_34_method_6_code (8 : Nat) (Option.some Jvm.ClassFile.FieldType.double)).before args0 about1 = true := code_word (m := ⟨2, 0⟩) (meth := k2m0) (c := k2c0) (by decide +kernel) rfl rfl rfl (by decide +kernel)
def codes1 : List Jvm.Cond := [Jvm.Cond.code x code maxLocals ret, Jvm.Cond.code ({ cls := "com/example/sitewise/sitewise/SolutionSumOfPinLaw", name := "build", desc := "(IIIIII)[D" } : Jvm.MethodName) method_3_code (6 : Nat) (Option.some (Jvm.ClassFile.FieldType.array Jvm.ClassFile.FieldType.double)), Jvm.Cond.code ({ cls := "com/example/sitewise/sitewise/Solution", name := "sumOf", desc := "([D)D" } : Jvm.MethodName) prog_34_method_6_code (8 : Nat) (Option.some Jvm.ClassFile.FieldType.double)]
set_option maxRecDepth 65536 in
theorem codes_eq : words1.filter isCode = codes1 := rfl
theorem w_codes : ∀ c ∈ words1.filter isCode, c.before args0 about1 = true := by
  rw [codes_eq]
  intro c hc
  simp only [codes1, List.mem_cons, List.not_mem_nil, or_false] at hc
  rcases hc with rfl | rfl | rfl
  · exact w_c0
  · exact w_c1
  · exact w_c2
set_option maxRecDepth 65536 in
theorem w_t1 : words1.all (fun c => isCode c || c.before args0 about1) = true := by decide +kernel
theorem w_tables : (allAtoms (Jvm.Cond.code x code maxLocals ret :: tables_1)).before args0 about1 = true := by
  rw [allAtoms_all]
  show words1.all (fun c => c.before args0 about1) = true
  refine all_split ?_ w_codes
  rw [w_t1]
set_option maxRecDepth 65536 in
theorem w_case : (Jvm.Cond.and given_1 narrow_1).before args0 about1 = true := by decide +kernel
theorem w_applies : (headSpec (Jvm.Cond.code x code maxLocals ret :: tables_1) room_1).applies x e0.platform about1 = true :=
  (Spec.applies_iff w_frames).mpr ⟨w_running, w_runnable, w_alone, w_named, w_hears, w_ripe, w_room, w_tables⟩
theorem atStart : AtStart classFile x code maxLocals ret World_1 tables_1 room_1 Calls_1 rest_1 Pre_1 launch0 p0 e0 about1 theMethod args0 below0 :=
  ⟨lists_1, trivial, launch0.admits_env _ _ _, launch0.least_env, fairChoices_fair.cas, fairChoices_fair.clock, w_frames, w_args, w_heap, w_applies, trivial, trivial, w_case⟩
end start1
theorem witness_1 : WitnessClaimed_1 := ⟨start1.p0, start1.e0, start1.about1, start1.theMethod, start1.args0, start1.below0, start1.atStart⟩
end Jvm.Pilot.@@N@@
