import JvmDerived
import JvmDerived.Pilot.@@N@@Statement
import JvmDerived.Pilot.@@N@@Code
set_option linter.unusedVariables false
set_option linter.unusedSimpArgs false
namespace Jvm.OwnKit
open Sem ClassFile Op Lib Jvm.Stand Jvm.Free Jvm.LawKit Jvm.RoadKit
section Walk
variable {p : Program} {l : Launch} {e : Env} {R : Room} {s : State} {m : MethodId} {args : Array Value} {below : List Frame} {meth : Method} {c : Code} {T : State} {locs : List Loc} {cells slots : Nat} {Z : State} {a0 : Array Value} {h : Heap} {G : Outcome → State → Prop}
variable {x0 : MethodName} {code : ByteArray} {maxL : Nat} {ret : Option FieldType}
/-- what is still owed from the frame g on: the run ends, and G holds of the end -/
def Go (tb : Tables) (e : Env) (below : List Frame) (G : Outcome → State → Prop) (T : State) (g : JFrame) : Prop :=
  ∃ s₂ o, Steps tb e below (T.setTop g) s₂ ∧ s₂.status = .running ∧ Ended s₂ below o ∧ G o s₂
theorem Go.step {tb : Tables} {T T' : State} {g g' : JFrame} (q : ∀ t, Steps tb e below (T'.setTop g') t → Steps tb e below (T.setTop g) t) (k : Go tb e below G T' g') : Go tb e below G T g := by
  obtain ⟨s2, o, h1, h2⟩ := k
  exact ⟨s2, o, q _ h1, h2⟩
/-- what stands still while one body is walked -/
def Cx (p : Program) (l : Launch) (s : State) (m : MethodId) (meth : Method) (c : Code) (Z : State) (x0 : MethodName) (code : ByteArray) (maxL : Nat) (ret : Option FieldType) : Prop :=
  p.tables.exec = Jvm.exec ∧ Z.Warmed39 s.vm ∧ c.code = code ∧ c.maxLocals = maxL ∧ s.vm.findClass x0.cls = some m.cls ∧ meth.sig.returnType = ret ∧ meth.locks = false ∧ meth.name = x0.name
theorem Cx.exec (C : Cx p l s m meth c Z x0 code maxL ret) : p.tables.exec = Jvm.exec := C.1
theorem Cx.warm (C : Cx p l s m meth c Z x0 code maxL ret) : Z.Warmed39 s.vm := C.2.1
theorem Cx.bytes (C : Cx p l s m meth c Z x0 code maxL ret) : c.code = code := C.2.2.1
theorem Cx.maxl (C : Cx p l s m meth c Z x0 code maxL ret) : c.maxLocals = maxL := C.2.2.2.1
theorem Cx.own (C : Cx p l s m meth c Z x0 code maxL ret) : s.vm.findClass x0.cls = some m.cls := C.2.2.2.2.1
theorem Cx.rets (C : Cx p l s m meth c Z x0 code maxL ret) : meth.sig.returnType = ret := C.2.2.2.2.2.1
theorem Cx.unlocked (C : Cx p l s m meth c Z x0 code maxL ret) : meth.locks = false := C.2.2.2.2.2.2.1
theorem Cx.nm (C : Cx p l s m meth c Z x0 code maxL ret) : meth.name = x0.name := C.2.2.2.2.2.2.2
theorem Cx.at (C : Cx p l s m meth c Z x0 code maxL ret) {pc : Nat} {r : Except ClassFile.DecodeError (ClassFile.Instr × Nat)} (h2 : decode code pc = r) : decode c.code pc = r := hb C.bytes h2
/-- the end of a walk: what is returned, the heap and the places written answer Q -/
def End (s : State) (Q : Option Value → Heap → List Loc → Prop) (k n : Nat) (o : Outcome) (U : State) : Prop := ∃ v L, o = .returned v ∧ Q v U.heap L ∧ FrameEnd s o U L k n
/-- a body's contract at one call: the arguments as, the heap h -/
def Con (l : Launch) (Z : State) (y : MethodName) (bytes : ByteArray) (maxL : Nat) (ret : Option FieldType) (rm : Room) (as : Array Value) (h : Heap) (Q : Option Value → Heap → List Loc → Prop) : Prop :=
  ∀ ws, MetFree l y (head1 (Cond.code y bytes maxL ret :: ws) rm) (fun a U => a = as ∧ Z.Warmed39 U.vm ∧ U.heap = h) (fun _ _ _ _ _ => True) (fun _ U o U' => End U Q rm.cells rm.slots o U')
theorem con_of_go {rm : Room} {as : Array Value} {Q : Option Value → Heap → List Loc → Prop} {Ls : Array Slot} (hn : plainName x0.cls = true) (hef : ∀ m, entryFrame m as maxL = mkF m 0 Ls [])
    (H : ∀ (p : Program) (e : Env) (s : State) (m : MethodId) (below : List Frame) (meth : Method) (c : Code) (T : State), Cx p l s m meth c Z x0 code maxL ret → Stand p l e rm s m as below meth c T [] 0 0 → T.heap = h → Go p.tables e below (End s Q rm.cells rm.slots) T (mkF m 0 Ls [])) :
    Con l Z x0 code maxL ret rm as h Q := by
  intro ws
  refine MetFree.of_bodySF (plainFor_of_name hn) hisR ?_
  intro p e s m args below meth c s₁ Bd hml hP hK
  obtain ⟨rfl, hZ, hh⟩ := hP
  have X0 : Stand p l e rm s m args below meth c s₁ [] 0 0 := Stand.of_body Bd
  have e0 : s₁.heap = h := by rw [← hh, Bd.state]; rfl
  have q := H p e s m below meth c s₁ ⟨Bd.exec, hZ, Bd.bytes, hml, findClass_of_methodNamed Bd.named, Bd.returns, Bd.notSynchronized, (name_of_methodNamed Bd.named Bd.method).1⟩ X0 e0
  rw [hef]
  exact q
theorem g_aloadN (C : Cx p l s m meth c Z x0 code maxL ret) (X : Stand p l e R s m args below meth c T locs cells slots) {pc pc' : Nat} {Ls : Array Slot} {st : List Value} {k : Fin 4} {v : Value} (hd : decode code pc = .ok (.aload_n k, 1)) (hl : Ls[k.val]? = some (.val v)) (hv : v.isRef = true) (hp : pc + 1 = pc')
    (K : Go p.tables e below G T (mkF m pc' Ls (v :: st))) : Go p.tables e below G T (mkF m pc Ls (st)) := by
  subst hp; exact Go.step (fun _ k => XS.aloadN X.here C.exec rfl (C.at hd) hl hv k) K
theorem g_aload (C : Cx p l s m meth c Z x0 code maxL ret) (X : Stand p l e R s m args below meth c T locs cells slots) {pc pc' : Nat} {Ls : Array Slot} {st : List Value} {k : Nat} {v : Value} (hd : decode code pc = .ok (.aload k, 2)) (hl : Ls[k]? = some (.val v)) (hv : v.isRef = true) (hp : pc + 2 = pc')
    (K : Go p.tables e below G T (mkF m pc' Ls (v :: st))) : Go p.tables e below G T (mkF m pc Ls (st)) := by
  subst hp; exact Go.step (fun _ k => XS.aload X.here C.exec rfl (C.at hd) hl hv k) K
theorem g_iloadN (C : Cx p l s m meth c Z x0 code maxL ret) (X : Stand p l e R s m args below meth c T locs cells slots) {pc pc' : Nat} {Ls : Array Slot} {st : List Value} {k : Fin 4} {v : Int32} (hd : decode code pc = .ok (.iload_n k, 1)) (hl : Ls[k.val]? = some (.val (.int v))) (hp : pc + 1 = pc')
    (K : Go p.tables e below G T (mkF m pc' Ls (.int v :: st))) : Go p.tables e below G T (mkF m pc Ls (st)) := by
  subst hp; exact Go.step (fun _ k => XS.iloadN X.here C.exec rfl (C.at hd) hl k) K
theorem g_iload (C : Cx p l s m meth c Z x0 code maxL ret) (X : Stand p l e R s m args below meth c T locs cells slots) {pc pc' : Nat} {Ls : Array Slot} {st : List Value} {k : Nat} {v : Int32} (hd : decode code pc = .ok (.iload k, 2)) (hl : Ls[k]? = some (.val (.int v))) (hp : pc + 2 = pc')
    (K : Go p.tables e below G T (mkF m pc' Ls (.int v :: st))) : Go p.tables e below G T (mkF m pc Ls (st)) := by
  subst hp; exact Go.step (fun _ k => XS.iload X.here C.exec rfl (C.at hd) hl k) K
theorem g_istoreN (C : Cx p l s m meth c Z x0 code maxL ret) (X : Stand p l e R s m args below meth c T locs cells slots) {pc pc' : Nat} {Ls : Array Slot} {st : List Value} {k : Fin 4} {x y : Int32} {l' : Array Slot} (hd : decode code pc = .ok (.istore_n k, 1)) (hv : x = y) (hl : storeLocals Ls k.val (.int x) = some l') (hp : pc + 1 = pc')
    (K : Go p.tables e below G T (mkF m pc' l' (st))) : Go p.tables e below G T (mkF m pc Ls (.int y :: st)) := by
  subst hp; subst hv; exact Go.step (fun _ k => XS.istoreN X.here C.exec rfl (C.at hd) rfl hl k) K
theorem g_istore (C : Cx p l s m meth c Z x0 code maxL ret) (X : Stand p l e R s m args below meth c T locs cells slots) {pc pc' : Nat} {Ls : Array Slot} {st : List Value} {k : Nat} {x y : Int32} {l' : Array Slot} (hd : decode code pc = .ok (.istore k, 2)) (hv : x = y) (hl : storeLocals Ls k (.int x) = some l') (hp : pc + 2 = pc')
    (K : Go p.tables e below G T (mkF m pc' l' (st))) : Go p.tables e below G T (mkF m pc Ls (.int y :: st)) := by
  subst hp; subst hv; exact Go.step (fun _ k => XS.istore X.here C.exec rfl (C.at hd) rfl hl k) K
theorem g_lloadN (C : Cx p l s m meth c Z x0 code maxL ret) (X : Stand p l e R s m args below meth c T locs cells slots) {pc pc' : Nat} {Ls : Array Slot} {st : List Value} {k : Fin 4} {v : Int64} (hd : decode code pc = .ok (.lload_n k, 1)) (hl : Ls[k.val]? = some (.val (.long v))) (hp : pc + 1 = pc')
    (K : Go p.tables e below G T (mkF m pc' Ls (.long v :: st))) : Go p.tables e below G T (mkF m pc Ls (st)) := by
  subst hp; exact Go.step (fun _ k => XT.lloadN X.here C.exec rfl (C.at hd) hl k) K
theorem g_lload (C : Cx p l s m meth c Z x0 code maxL ret) (X : Stand p l e R s m args below meth c T locs cells slots) {pc pc' : Nat} {Ls : Array Slot} {st : List Value} {k : Nat} {v : Int64} (hd : decode code pc = .ok (.lload k, 2)) (hl : Ls[k]? = some (.val (.long v))) (hp : pc + 2 = pc')
    (K : Go p.tables e below G T (mkF m pc' Ls (.long v :: st))) : Go p.tables e below G T (mkF m pc Ls (st)) := by
  subst hp; exact Go.step (fun _ k => XT.lload X.here C.exec rfl (C.at hd) hl k) K
theorem g_lstoreN (C : Cx p l s m meth c Z x0 code maxL ret) (X : Stand p l e R s m args below meth c T locs cells slots) {pc pc' : Nat} {Ls : Array Slot} {st : List Value} {k : Fin 4} {x y : Int64} {l' : Array Slot} (hd : decode code pc = .ok (.lstore_n k, 1)) (hv : x = y) (hl : storeLocals Ls k.val (.long x) = some l') (hp : pc + 1 = pc')
    (K : Go p.tables e below G T (mkF m pc' l' (st))) : Go p.tables e below G T (mkF m pc Ls (.long y :: st)) := by
  subst hp; subst hv; exact Go.step (fun _ k => XT.lstoreN X.here C.exec rfl (C.at hd) rfl hl k) K
theorem g_lstore (C : Cx p l s m meth c Z x0 code maxL ret) (X : Stand p l e R s m args below meth c T locs cells slots) {pc pc' : Nat} {Ls : Array Slot} {st : List Value} {k : Nat} {x y : Int64} {l' : Array Slot} (hd : decode code pc = .ok (.lstore k, 2)) (hv : x = y) (hl : storeLocals Ls k (.long x) = some l') (hp : pc + 2 = pc')
    (K : Go p.tables e below G T (mkF m pc' l' (st))) : Go p.tables e below G T (mkF m pc Ls (.long y :: st)) := by
  subst hp; subst hv; exact Go.step (fun _ k => XT.lstore X.here C.exec rfl (C.at hd) rfl hl k) K
theorem g_dloadN (C : Cx p l s m meth c Z x0 code maxL ret) (X : Stand p l e R s m args below meth c T locs cells slots) {pc pc' : Nat} {Ls : Array Slot} {st : List Value} {k : Fin 4} {v : UInt64} (hd : decode code pc = .ok (.dload_n k, 1)) (hl : Ls[k.val]? = some (.val (.double v))) (hp : pc + 1 = pc')
    (K : Go p.tables e below G T (mkF m pc' Ls (.double v :: st))) : Go p.tables e below G T (mkF m pc Ls (st)) := by
  subst hp; exact Go.step (fun _ k => XS.dloadN X.here C.exec rfl (C.at hd) hl k) K
theorem g_dload (C : Cx p l s m meth c Z x0 code maxL ret) (X : Stand p l e R s m args below meth c T locs cells slots) {pc pc' : Nat} {Ls : Array Slot} {st : List Value} {k : Nat} {v : UInt64} (hd : decode code pc = .ok (.dload k, 2)) (hl : Ls[k]? = some (.val (.double v))) (hp : pc + 2 = pc')
    (K : Go p.tables e below G T (mkF m pc' Ls (.double v :: st))) : Go p.tables e below G T (mkF m pc Ls (st)) := by
  subst hp; exact Go.step (fun _ k => XS.dload X.here C.exec rfl (C.at hd) hl k) K
theorem g_dstoreN (C : Cx p l s m meth c Z x0 code maxL ret) (X : Stand p l e R s m args below meth c T locs cells slots) {pc pc' : Nat} {Ls : Array Slot} {st : List Value} {k : Fin 4} {x y : UInt64} {l' : Array Slot} (hd : decode code pc = .ok (.dstore_n k, 1)) (hv : x = y) (hl : storeLocals Ls k.val (.double x) = some l') (hp : pc + 1 = pc')
    (K : Go p.tables e below G T (mkF m pc' l' (st))) : Go p.tables e below G T (mkF m pc Ls (.double y :: st)) := by
  subst hp; subst hv; exact Go.step (fun _ k => XS.dstoreN X.here C.exec rfl (C.at hd) rfl hl k) K
theorem g_dstore (C : Cx p l s m meth c Z x0 code maxL ret) (X : Stand p l e R s m args below meth c T locs cells slots) {pc pc' : Nat} {Ls : Array Slot} {st : List Value} {k : Nat} {x y : UInt64} {l' : Array Slot} (hd : decode code pc = .ok (.dstore k, 2)) (hv : x = y) (hl : storeLocals Ls k (.double x) = some l') (hp : pc + 2 = pc')
    (K : Go p.tables e below G T (mkF m pc' l' (st))) : Go p.tables e below G T (mkF m pc Ls (.double y :: st)) := by
  subst hp; subst hv; exact Go.step (fun _ k => XS.dstore X.here C.exec rfl (C.at hd) rfl hl k) K
theorem g_astoreN (C : Cx p l s m meth c Z x0 code maxL ret) (X : Stand p l e R s m args below meth c T locs cells slots) {pc pc' : Nat} {Ls : Array Slot} {st : List Value} {k : Fin 4} {v : Value} {l' : Array Slot} (hd : decode code pc = .ok (.astore_n k, 1)) (hv : v.isRef = true) (hl : storeLocals Ls k.val v = some l') (hp : pc + 1 = pc')
    (K : Go p.tables e below G T (mkF m pc' l' (st))) : Go p.tables e below G T (mkF m pc Ls (v :: st)) := by
  subst hp; exact Go.step (fun _ k => XS.astoreN X.here C.exec rfl (C.at hd) rfl hv hl k) K
theorem g_astore (C : Cx p l s m meth c Z x0 code maxL ret) (X : Stand p l e R s m args below meth c T locs cells slots) {pc pc' : Nat} {Ls : Array Slot} {st : List Value} {k : Nat} {v : Value} {l' : Array Slot} (hd : decode code pc = .ok (.astore k, 2)) (hv : v.isRef = true) (hl : storeLocals Ls k v = some l') (hp : pc + 2 = pc')
    (K : Go p.tables e below G T (mkF m pc' l' (st))) : Go p.tables e below G T (mkF m pc Ls (v :: st)) := by
  subst hp; exact Go.step (fun _ k => XS.astore X.here C.exec rfl (C.at hd) rfl hv hl k) K
theorem g_iconst (C : Cx p l s m meth c Z x0 code maxL ret) (X : Stand p l e R s m args below meth c T locs cells slots) {pc pc' : Nat} {Ls : Array Slot} {st : List Value} {i : Int} {v : Int32} (hd : decode code pc = .ok (.iconst i, 1)) (hv : Int32.ofInt i = v) (hp : pc + 1 = pc')
    (K : Go p.tables e below G T (mkF m pc' Ls (.int v :: st))) : Go p.tables e below G T (mkF m pc Ls (st)) := by
  subst hp; subst hv; exact Go.step (fun _ k => XS.iconst X.here C.exec rfl (C.at hd)  k) K
theorem g_bipush (C : Cx p l s m meth c Z x0 code maxL ret) (X : Stand p l e R s m args below meth c T locs cells slots) {pc pc' : Nat} {Ls : Array Slot} {st : List Value} {i : Int} {v : Int32} (hd : decode code pc = .ok (.bipush i, 2)) (hv : (Int8.ofInt i).toInt32 = v) (hp : pc + 2 = pc')
    (K : Go p.tables e below G T (mkF m pc' Ls (.int v :: st))) : Go p.tables e below G T (mkF m pc Ls (st)) := by
  subst hp; subst hv; exact Go.step (fun _ k => XS.bipush X.here C.exec rfl (C.at hd)  k) K
theorem g_sipush (C : Cx p l s m meth c Z x0 code maxL ret) (X : Stand p l e R s m args below meth c T locs cells slots) {pc pc' : Nat} {Ls : Array Slot} {st : List Value} {i : Int} {v : Int32} (hd : decode code pc = .ok (.sipush i, 3)) (hv : (Int16.ofInt i).toInt32 = v) (hp : pc + 3 = pc')
    (K : Go p.tables e below G T (mkF m pc' Ls (.int v :: st))) : Go p.tables e below G T (mkF m pc Ls (st)) := by
  subst hp; subst hv; exact Go.step (fun _ k => XS.sipush X.here C.exec rfl (C.at hd)  k) K
theorem g_aconstNull (C : Cx p l s m meth c Z x0 code maxL ret) (X : Stand p l e R s m args below meth c T locs cells slots) {pc pc' : Nat} {Ls : Array Slot} {st : List Value}  (hd : decode code pc = .ok (.aconst_null, 1))  (hp : pc + 1 = pc')
    (K : Go p.tables e below G T (mkF m pc' Ls (.null :: st))) : Go p.tables e below G T (mkF m pc Ls (st)) := by
  subst hp; exact Go.step (fun _ k => XS.aconstNull X.here C.exec rfl (C.at hd)  k) K
theorem g_lconst (C : Cx p l s m meth c Z x0 code maxL ret) (X : Stand p l e R s m args below meth c T locs cells slots) {pc pc' : Nat} {Ls : Array Slot} {st : List Value} {k : Fin 2} {v : Int64} (hd : decode code pc = .ok (.lconst k, 1)) (hv : Int64.ofNat k = v) (hp : pc + 1 = pc')
    (K : Go p.tables e below G T (mkF m pc' Ls (.long v :: st))) : Go p.tables e below G T (mkF m pc Ls (st)) := by
  subst hp; subst hv; exact Go.step (fun _ k => XT.lconst X.here C.exec rfl (C.at hd)  k) K
theorem g_dconst0 (C : Cx p l s m meth c Z x0 code maxL ret) (X : Stand p l e R s m args below meth c T locs cells slots) {pc pc' : Nat} {Ls : Array Slot} {st : List Value} {v : UInt64} (hd : decode code pc = .ok (.dconst 0, 1)) (hv : FP.dconst0 = v) (hp : pc + 1 = pc')
    (K : Go p.tables e below G T (mkF m pc' Ls (.double v :: st))) : Go p.tables e below G T (mkF m pc Ls (st)) := by
  subst hp; exact Go.step (fun _ k => XS.dconst0 X.here C.exec rfl (C.at hd) hv k) K
theorem g_dconst1 (C : Cx p l s m meth c Z x0 code maxL ret) (X : Stand p l e R s m args below meth c T locs cells slots) {pc pc' : Nat} {Ls : Array Slot} {st : List Value} {v : UInt64} (hd : decode code pc = .ok (.dconst 1, 1)) (hv : FP.dconst1 = v) (hp : pc + 1 = pc')
    (K : Go p.tables e below G T (mkF m pc' Ls (.double v :: st))) : Go p.tables e below G T (mkF m pc Ls (st)) := by
  subst hp; exact Go.step (fun _ k => XS.dconst1 X.here C.exec rfl (C.at hd) hv k) K
theorem g_iadd (C : Cx p l s m meth c Z x0 code maxL ret) (X : Stand p l e R s m args below meth c T locs cells slots) {pc pc' : Nat} {Ls : Array Slot} {st : List Value} {x y : Int32} (hd : decode code pc = .ok (.iadd, 1))  (hp : pc + 1 = pc')
    (K : Go p.tables e below G T (mkF m pc' Ls (.int (x + y) :: st))) : Go p.tables e below G T (mkF m pc Ls (.int y :: .int x :: st)) := by
  subst hp; exact Go.step (fun _ k => XS.iadd X.here C.exec rfl (C.at hd) rfl k) K
theorem g_isub (C : Cx p l s m meth c Z x0 code maxL ret) (X : Stand p l e R s m args below meth c T locs cells slots) {pc pc' : Nat} {Ls : Array Slot} {st : List Value} {x y : Int32} (hd : decode code pc = .ok (.isub, 1))  (hp : pc + 1 = pc')
    (K : Go p.tables e below G T (mkF m pc' Ls (.int (x - y) :: st))) : Go p.tables e below G T (mkF m pc Ls (.int y :: .int x :: st)) := by
  subst hp; exact Go.step (fun _ k => XS.isub X.here C.exec rfl (C.at hd) rfl k) K
theorem g_iand (C : Cx p l s m meth c Z x0 code maxL ret) (X : Stand p l e R s m args below meth c T locs cells slots) {pc pc' : Nat} {Ls : Array Slot} {st : List Value} {x y : Int32} (hd : decode code pc = .ok (.iand, 1))  (hp : pc + 1 = pc')
    (K : Go p.tables e below G T (mkF m pc' Ls (.int (x &&& y) :: st))) : Go p.tables e below G T (mkF m pc Ls (.int y :: .int x :: st)) := by
  subst hp; exact Go.step (fun _ k => XS.iand X.here C.exec rfl (C.at hd) rfl k) K
theorem g_imul (C : Cx p l s m meth c Z x0 code maxL ret) (X : Stand p l e R s m args below meth c T locs cells slots) {pc pc' : Nat} {Ls : Array Slot} {st : List Value} {x y : Int32} (hd : decode code pc = .ok (.imul, 1))  (hp : pc + 1 = pc')
    (K : Go p.tables e below G T (mkF m pc' Ls (.int (x * y) :: st))) : Go p.tables e below G T (mkF m pc Ls (.int y :: .int x :: st)) := by
  subst hp; exact Go.step (fun _ k => XS.imul X.here C.exec rfl (C.at hd) rfl k) K
theorem g_idiv (C : Cx p l s m meth c Z x0 code maxL ret) (X : Stand p l e R s m args below meth c T locs cells slots) {pc pc' : Nat} {Ls : Array Slot} {st : List Value} {x y : Int32} (hd : decode code pc = .ok (.idiv, 1)) (hy : y ≠ 0) (hp : pc + 1 = pc')
    (K : Go p.tables e below G T (mkF m pc' Ls (.int (x / y) :: st))) : Go p.tables e below G T (mkF m pc Ls (.int y :: .int x :: st)) := by
  subst hp; exact Go.step (fun _ k => XS.idiv X.here C.exec rfl (C.at hd) rfl hy k) K
theorem g_ineg (C : Cx p l s m meth c Z x0 code maxL ret) (X : Stand p l e R s m args below meth c T locs cells slots) {pc pc' : Nat} {Ls : Array Slot} {st : List Value} {x : Int32} (hd : decode code pc = .ok (.ineg, 1))  (hp : pc + 1 = pc')
    (K : Go p.tables e below G T (mkF m pc' Ls (.int (-x) :: st))) : Go p.tables e below G T (mkF m pc Ls (.int x :: st)) := by
  subst hp; exact Go.step (fun _ k => XS.ineg X.here C.exec rfl (C.at hd) rfl k) K
theorem g_ixor (C : Cx p l s m meth c Z x0 code maxL ret) (X : Stand p l e R s m args below meth c T locs cells slots) {pc pc' : Nat} {Ls : Array Slot} {st : List Value} {x y : Int32} (hd : decode code pc = .ok (.ixor, 1))  (hp : pc + 1 = pc')
    (K : Go p.tables e below G T (mkF m pc' Ls (.int (x ^^^ y) :: st))) : Go p.tables e below G T (mkF m pc Ls (.int y :: .int x :: st)) := by
  subst hp; exact Go.step (fun _ k => XT.ixor X.here C.exec rfl (C.at hd) rfl k) K
theorem g_ior (C : Cx p l s m meth c Z x0 code maxL ret) (X : Stand p l e R s m args below meth c T locs cells slots) {pc pc' : Nat} {Ls : Array Slot} {st : List Value} {x y : Int32} (hd : decode code pc = .ok (.ior, 1))  (hp : pc + 1 = pc')
    (K : Go p.tables e below G T (mkF m pc' Ls (.int (x ||| y) :: st))) : Go p.tables e below G T (mkF m pc Ls (.int y :: .int x :: st)) := by
  subst hp; exact Go.step (fun _ k => XT.ior X.here C.exec rfl (C.at hd) rfl k) K
theorem g_ishl (C : Cx p l s m meth c Z x0 code maxL ret) (X : Stand p l e R s m args below meth c T locs cells slots) {pc pc' : Nat} {Ls : Array Slot} {st : List Value} {x y : Int32} (hd : decode code pc = .ok (.ishl, 1))  (hp : pc + 1 = pc')
    (K : Go p.tables e below G T (mkF m pc' Ls (.int (x <<< (y &&& 31)) :: st))) : Go p.tables e below G T (mkF m pc Ls (.int y :: .int x :: st)) := by
  subst hp; exact Go.step (fun _ k => XT.ishl X.here C.exec rfl (C.at hd) rfl k) K
theorem g_ishr (C : Cx p l s m meth c Z x0 code maxL ret) (X : Stand p l e R s m args below meth c T locs cells slots) {pc pc' : Nat} {Ls : Array Slot} {st : List Value} {x y : Int32} (hd : decode code pc = .ok (.ishr, 1))  (hp : pc + 1 = pc')
    (K : Go p.tables e below G T (mkF m pc' Ls (.int (x >>> (y &&& 31)) :: st))) : Go p.tables e below G T (mkF m pc Ls (.int y :: .int x :: st)) := by
  subst hp; exact Go.step (fun _ k => XT.ishr X.here C.exec rfl (C.at hd) rfl k) K
theorem g_iushr (C : Cx p l s m meth c Z x0 code maxL ret) (X : Stand p l e R s m args below meth c T locs cells slots) {pc pc' : Nat} {Ls : Array Slot} {st : List Value} {x y : Int32} (hd : decode code pc = .ok (.iushr, 1))  (hp : pc + 1 = pc')
    (K : Go p.tables e below G T (mkF m pc' Ls (.int (XT.ushr x y) :: st))) : Go p.tables e below G T (mkF m pc Ls (.int y :: .int x :: st)) := by
  subst hp; exact Go.step (fun _ k => XT.iushr X.here C.exec rfl (C.at hd) rfl k) K
theorem g_ladd (C : Cx p l s m meth c Z x0 code maxL ret) (X : Stand p l e R s m args below meth c T locs cells slots) {pc pc' : Nat} {Ls : Array Slot} {st : List Value} {x y : Int64} (hd : decode code pc = .ok (.ladd, 1))  (hp : pc + 1 = pc')
    (K : Go p.tables e below G T (mkF m pc' Ls (.long (x + y) :: st))) : Go p.tables e below G T (mkF m pc Ls (.long y :: .long x :: st)) := by
  subst hp; exact Go.step (fun _ k => XT.ladd X.here C.exec rfl (C.at hd) rfl k) K
theorem g_lsub (C : Cx p l s m meth c Z x0 code maxL ret) (X : Stand p l e R s m args below meth c T locs cells slots) {pc pc' : Nat} {Ls : Array Slot} {st : List Value} {x y : Int64} (hd : decode code pc = .ok (.lsub, 1))  (hp : pc + 1 = pc')
    (K : Go p.tables e below G T (mkF m pc' Ls (.long (x - y) :: st))) : Go p.tables e below G T (mkF m pc Ls (.long y :: .long x :: st)) := by
  subst hp; exact Go.step (fun _ k => XT.lsub X.here C.exec rfl (C.at hd) rfl k) K
theorem g_lmul (C : Cx p l s m meth c Z x0 code maxL ret) (X : Stand p l e R s m args below meth c T locs cells slots) {pc pc' : Nat} {Ls : Array Slot} {st : List Value} {x y : Int64} (hd : decode code pc = .ok (.lmul, 1))  (hp : pc + 1 = pc')
    (K : Go p.tables e below G T (mkF m pc' Ls (.long (x * y) :: st))) : Go p.tables e below G T (mkF m pc Ls (.long y :: .long x :: st)) := by
  subst hp; exact Go.step (fun _ k => XT.lmul X.here C.exec rfl (C.at hd) rfl k) K
theorem g_land (C : Cx p l s m meth c Z x0 code maxL ret) (X : Stand p l e R s m args below meth c T locs cells slots) {pc pc' : Nat} {Ls : Array Slot} {st : List Value} {x y : Int64} (hd : decode code pc = .ok (.land, 1))  (hp : pc + 1 = pc')
    (K : Go p.tables e below G T (mkF m pc' Ls (.long (x &&& y) :: st))) : Go p.tables e below G T (mkF m pc Ls (.long y :: .long x :: st)) := by
  subst hp; exact Go.step (fun _ k => XT.land X.here C.exec rfl (C.at hd) rfl k) K
theorem g_lor (C : Cx p l s m meth c Z x0 code maxL ret) (X : Stand p l e R s m args below meth c T locs cells slots) {pc pc' : Nat} {Ls : Array Slot} {st : List Value} {x y : Int64} (hd : decode code pc = .ok (.lor, 1))  (hp : pc + 1 = pc')
    (K : Go p.tables e below G T (mkF m pc' Ls (.long (x ||| y) :: st))) : Go p.tables e below G T (mkF m pc Ls (.long y :: .long x :: st)) := by
  subst hp; exact Go.step (fun _ k => XT.lor X.here C.exec rfl (C.at hd) rfl k) K
theorem g_lxor (C : Cx p l s m meth c Z x0 code maxL ret) (X : Stand p l e R s m args below meth c T locs cells slots) {pc pc' : Nat} {Ls : Array Slot} {st : List Value} {x y : Int64} (hd : decode code pc = .ok (.lxor, 1))  (hp : pc + 1 = pc')
    (K : Go p.tables e below G T (mkF m pc' Ls (.long (x ^^^ y) :: st))) : Go p.tables e below G T (mkF m pc Ls (.long y :: .long x :: st)) := by
  subst hp; exact Go.step (fun _ k => XT.lxor X.here C.exec rfl (C.at hd) rfl k) K
theorem g_lneg (C : Cx p l s m meth c Z x0 code maxL ret) (X : Stand p l e R s m args below meth c T locs cells slots) {pc pc' : Nat} {Ls : Array Slot} {st : List Value} {x : Int64} (hd : decode code pc = .ok (.lneg, 1))  (hp : pc + 1 = pc')
    (K : Go p.tables e below G T (mkF m pc' Ls (.long (-x) :: st))) : Go p.tables e below G T (mkF m pc Ls (.long x :: st)) := by
  subst hp; exact Go.step (fun _ k => XT.lneg X.here C.exec rfl (C.at hd) rfl k) K
theorem g_i2l (C : Cx p l s m meth c Z x0 code maxL ret) (X : Stand p l e R s m args below meth c T locs cells slots) {pc pc' : Nat} {Ls : Array Slot} {st : List Value} {x : Int32} (hd : decode code pc = .ok (.i2l, 1))  (hp : pc + 1 = pc')
    (K : Go p.tables e below G T (mkF m pc' Ls (.long x.toInt64 :: st))) : Go p.tables e below G T (mkF m pc Ls (.int x :: st)) := by
  subst hp; exact Go.step (fun _ k => XT.i2l X.here C.exec rfl (C.at hd) rfl k) K
theorem g_l2i (C : Cx p l s m meth c Z x0 code maxL ret) (X : Stand p l e R s m args below meth c T locs cells slots) {pc pc' : Nat} {Ls : Array Slot} {st : List Value} {x : Int64} (hd : decode code pc = .ok (.l2i, 1))  (hp : pc + 1 = pc')
    (K : Go p.tables e below G T (mkF m pc' Ls (.int x.toInt32 :: st))) : Go p.tables e below G T (mkF m pc Ls (.long x :: st)) := by
  subst hp; exact Go.step (fun _ k => XT.l2i X.here C.exec rfl (C.at hd) rfl k) K
theorem g_i2b (C : Cx p l s m meth c Z x0 code maxL ret) (X : Stand p l e R s m args below meth c T locs cells slots) {pc pc' : Nat} {Ls : Array Slot} {st : List Value} {x : Int32} (hd : decode code pc = .ok (.i2b, 1))  (hp : pc + 1 = pc')
    (K : Go p.tables e below G T (mkF m pc' Ls (.int x.toInt8.toInt32 :: st))) : Go p.tables e below G T (mkF m pc Ls (.int x :: st)) := by
  subst hp; exact Go.step (fun _ k => XT.i2b X.here C.exec rfl (C.at hd) rfl k) K
theorem g_i2s (C : Cx p l s m meth c Z x0 code maxL ret) (X : Stand p l e R s m args below meth c T locs cells slots) {pc pc' : Nat} {Ls : Array Slot} {st : List Value} {x : Int32} (hd : decode code pc = .ok (.i2s, 1))  (hp : pc + 1 = pc')
    (K : Go p.tables e below G T (mkF m pc' Ls (.int x.toInt16.toInt32 :: st))) : Go p.tables e below G T (mkF m pc Ls (.int x :: st)) := by
  subst hp; exact Go.step (fun _ k => XT.i2s X.here C.exec rfl (C.at hd) rfl k) K
theorem g_i2d (C : Cx p l s m meth c Z x0 code maxL ret) (X : Stand p l e R s m args below meth c T locs cells slots) {pc pc' : Nat} {Ls : Array Slot} {st : List Value} {x : Int32} (hd : decode code pc = .ok (.i2d, 1))  (hp : pc + 1 = pc')
    (K : Go p.tables e below G T (mkF m pc' Ls (.double (FP.i2d x) :: st))) : Go p.tables e below G T (mkF m pc Ls (.int x :: st)) := by
  subst hp; exact Go.step (fun _ k => XS.i2dS X.here C.exec rfl (C.at hd) rfl rfl k) K
theorem g_l2d (C : Cx p l s m meth c Z x0 code maxL ret) (X : Stand p l e R s m args below meth c T locs cells slots) {pc pc' : Nat} {Ls : Array Slot} {st : List Value} {x : Int64} (hd : decode code pc = .ok (.l2d, 1))  (hp : pc + 1 = pc')
    (K : Go p.tables e below G T (mkF m pc' Ls (.double (FP.l2d x) :: st))) : Go p.tables e below G T (mkF m pc Ls (.long x :: st)) := by
  subst hp; exact Go.step (fun _ k => XS.l2dS X.here C.exec rfl (C.at hd) rfl rfl k) K
theorem g_dneg (C : Cx p l s m meth c Z x0 code maxL ret) (X : Stand p l e R s m args below meth c T locs cells slots) {pc pc' : Nat} {Ls : Array Slot} {st : List Value} {x : UInt64} (hd : decode code pc = .ok (.dneg, 1))  (hp : pc + 1 = pc')
    (K : Go p.tables e below G T (mkF m pc' Ls (.double (FP.dneg x) :: st))) : Go p.tables e below G T (mkF m pc Ls (.double x :: st)) := by
  subst hp; exact Go.step (fun _ k => XS.dnegS X.here C.exec rfl (C.at hd) rfl rfl k) K
theorem g_dcmp (C : Cx p l s m meth c Z x0 code maxL ret) (X : Stand p l e R s m args below meth c T locs cells slots) {pc pc' : Nat} {Ls : Array Slot} {st : List Value} {o : CmpOp} {x y : UInt64} (hd : decode code pc = .ok (.dcmp o, 1))  (hp : pc + 1 = pc')
    (K : Go p.tables e below G T (mkF m pc' Ls (.int (cmpValue (FP.dcmp x y) o) :: st))) : Go p.tables e below G T (mkF m pc Ls (.double y :: .double x :: st)) := by
  subst hp; exact Go.step (fun _ k => XS.dcmpS X.here C.exec rfl (C.at hd) rfl rfl k) K
theorem g_dcmpV (C : Cx p l s m meth c Z x0 code maxL ret) (X : Stand p l e R s m args below meth c T locs cells slots) {pc pc' : Nat} {Ls : Array Slot} {st : List Value} {o : CmpOp} {x y : UInt64} {v : Int32} (hd : decode code pc = .ok (.dcmp o, 1)) (hv : cmpValue (FP.dcmp x y) o = v) (hp : pc + 1 = pc')
    (K : Go p.tables e below G T (mkF m pc' Ls (.int v :: st))) : Go p.tables e below G T (mkF m pc Ls (.double y :: .double x :: st)) := by
  subst hp; exact Go.step (fun _ k => XS.dcmpS X.here C.exec rfl (C.at hd) rfl hv k) K
theorem g_dadd (C : Cx p l s m meth c Z x0 code maxL ret) (X : Stand p l e R s m args below meth c T locs cells slots) {pc pc' : Nat} {Ls : Array Slot} {st : List Value} {x y : UInt64} (hd : decode code pc = .ok (.dadd, 1)) (hn : Jvm.Free.Fl.NoNaN64 (FP.dadd x y)) (hp : pc + 1 = pc')
    (K : Go p.tables e below G T (mkF m pc' Ls (.double (FP.dadd x y) :: st))) : Go p.tables e below G T (mkF m pc Ls (.double y :: .double x :: st)) := by
  subst hp; exact Go.step (fun _ k => XS.daddS X.here C.exec rfl (C.at hd) rfl hn rfl k) K
theorem g_dsub (C : Cx p l s m meth c Z x0 code maxL ret) (X : Stand p l e R s m args below meth c T locs cells slots) {pc pc' : Nat} {Ls : Array Slot} {st : List Value} {x y : UInt64} (hd : decode code pc = .ok (.dsub, 1)) (hn : Jvm.Free.Fl.NoNaN64 (FP.dsub x y)) (hp : pc + 1 = pc')
    (K : Go p.tables e below G T (mkF m pc' Ls (.double (FP.dsub x y) :: st))) : Go p.tables e below G T (mkF m pc Ls (.double y :: .double x :: st)) := by
  subst hp; exact Go.step (fun _ k => XS.dsubS X.here C.exec rfl (C.at hd) rfl hn rfl k) K
theorem g_dmul (C : Cx p l s m meth c Z x0 code maxL ret) (X : Stand p l e R s m args below meth c T locs cells slots) {pc pc' : Nat} {Ls : Array Slot} {st : List Value} {x y : UInt64} (hd : decode code pc = .ok (.dmul, 1)) (hn : Jvm.Free.Fl.NoNaN64 (FP.dmul x y)) (hp : pc + 1 = pc')
    (K : Go p.tables e below G T (mkF m pc' Ls (.double (FP.dmul x y) :: st))) : Go p.tables e below G T (mkF m pc Ls (.double y :: .double x :: st)) := by
  subst hp; exact Go.step (fun _ k => XS.dmulS X.here C.exec rfl (C.at hd) rfl hn rfl k) K
theorem g_ddiv (C : Cx p l s m meth c Z x0 code maxL ret) (X : Stand p l e R s m args below meth c T locs cells slots) {pc pc' : Nat} {Ls : Array Slot} {st : List Value} {x y : UInt64} (hd : decode code pc = .ok (.ddiv, 1)) (hn : Jvm.Free.Fl.NoNaN64 (FP.ddiv x y)) (hp : pc + 1 = pc')
    (K : Go p.tables e below G T (mkF m pc' Ls (.double (FP.ddiv x y) :: st))) : Go p.tables e below G T (mkF m pc Ls (.double y :: .double x :: st)) := by
  subst hp; exact Go.step (fun _ k => XS.ddivS X.here C.exec rfl (C.at hd) rfl hn rfl k) K
theorem g_lcmp (C : Cx p l s m meth c Z x0 code maxL ret) (X : Stand p l e R s m args below meth c T locs cells slots) {pc pc' : Nat} {Ls : Array Slot} {st : List Value} {x y : Int64} (hd : decode code pc = .ok (.lcmp, 1))  (hp : pc + 1 = pc')
    (K : Go p.tables e below G T (mkF m pc' Ls (.int (XT.cmpL x y) :: st))) : Go p.tables e below G T (mkF m pc Ls (.long y :: .long x :: st)) := by
  subst hp; exact Go.step (fun _ k => XT.lcmp X.here C.exec rfl (C.at hd) rfl k) K
theorem g_pop (C : Cx p l s m meth c Z x0 code maxL ret) (X : Stand p l e R s m args below meth c T locs cells slots) {pc pc' : Nat} {Ls : Array Slot} {st : List Value} {x : Value} (hd : decode code pc = .ok (.pop, 1)) (hc : x.category = 1) (hp : pc + 1 = pc')
    (K : Go p.tables e below G T (mkF m pc' Ls (st))) : Go p.tables e below G T (mkF m pc Ls (x :: st)) := by
  subst hp; exact Go.step (fun _ k => XT.pop X.here C.exec rfl (C.at hd) rfl hc k) K
theorem g_dup (C : Cx p l s m meth c Z x0 code maxL ret) (X : Stand p l e R s m args below meth c T locs cells slots) {pc pc' : Nat} {Ls : Array Slot} {st : List Value} {x : Value} (hd : decode code pc = .ok (.dup, 1)) (hc : x.category = 1) (hp : pc + 1 = pc')
    (K : Go p.tables e below G T (mkF m pc' Ls (x :: x :: st))) : Go p.tables e below G T (mkF m pc Ls (x :: st)) := by
  subst hp; exact Go.step (fun _ k => XS.dup X.here C.exec rfl (C.at hd) rfl hc k) K
theorem g_dupX1 (C : Cx p l s m meth c Z x0 code maxL ret) (X : Stand p l e R s m args below meth c T locs cells slots) {pc pc' : Nat} {Ls : Array Slot} {st : List Value} {x y : Value} (hd : decode code pc = .ok (.dup_x1, 1)) (hc : x.category = 1) (hc' : y.category = 1) (hp : pc + 1 = pc')
    (K : Go p.tables e below G T (mkF m pc' Ls (x :: y :: x :: st))) : Go p.tables e below G T (mkF m pc Ls (x :: y :: st)) := by
  subst hp; exact Go.step (fun _ k => XT.dupX1 X.here C.exec rfl (C.at hd) rfl hc hc' k) K
theorem g_dup2 (C : Cx p l s m meth c Z x0 code maxL ret) (X : Stand p l e R s m args below meth c T locs cells slots) {pc pc' : Nat} {Ls : Array Slot} {st : List Value} {x y : Value} (hd : decode code pc = .ok (.dup2, 1)) (hc : x.category = 1) (hc' : y.category = 1) (hp : pc + 1 = pc')
    (K : Go p.tables e below G T (mkF m pc' Ls (x :: y :: x :: y :: st))) : Go p.tables e below G T (mkF m pc Ls (x :: y :: st)) := by
  subst hp; exact Go.step (fun _ k => XT.dup2 X.here C.exec rfl (C.at hd) rfl hc hc' k) K
theorem g_iinc (C : Cx p l s m meth c Z x0 code maxL ret) (X : Stand p l e R s m args below meth c T locs cells slots) {pc pc' : Nat} {Ls : Array Slot} {st : List Value} {k : Nat} {cst : Int} {x z : Int32} {l' : Array Slot} (hd : decode code pc = .ok (.iinc k cst, 3)) (hl : Ls[k]? = some (.val (.int x))) (hz : z = x + Int32.ofInt cst) (hl' : storeLocals Ls k (.int z) = some l') (hp : pc + 3 = pc')
    (K : Go p.tables e below G T (mkF m pc' l' (st))) : Go p.tables e below G T (mkF m pc Ls (st)) := by
  subst hp; subst hz; exact Go.step (fun _ k => XS.iinc X.here C.exec rfl (C.at hd) hl hl' k) K
theorem g_irem (C : Cx p l s m meth c Z x0 code maxL ret) (X : Stand p l e R s m args below meth c T locs cells slots) {pc pc' : Nat} {Ls : Array Slot} {st : List Value} {x y : Int32} (hd : decode code pc = .ok (.irem, 1)) (hy : y ≠ 0) (hp : pc + 1 = pc')
    (K : Go p.tables e below G T (mkF m pc' Ls (.int (x % y) :: st))) : Go p.tables e below G T (mkF m pc Ls (.int y :: .int x :: st)) := by
  subst hp; exact Go.step (fun _ k => iremM X C.exec rfl (C.at hd) rfl hy k) K
theorem g_lushr (C : Cx p l s m meth c Z x0 code maxL ret) (X : Stand p l e R s m args below meth c T locs cells slots) {pc pc' : Nat} {Ls : Array Slot} {st : List Value} {x : Int64} {y : Int32} (hd : decode code pc = .ok (.lushr, 1)) (hp : pc + 1 = pc')
    (K : Go p.tables e below G T (mkF m pc' Ls (.long (XT.ushrL x y) :: st))) : Go p.tables e below G T (mkF m pc Ls (.int y :: .long x :: st)) := by
  subst hp; exact Go.step (fun _ k => XT.lushr X.here C.exec rfl (C.at hd) rfl k) K
/-- what a branch asks, of whole numbers -/
abbrev cpI : ClassFile.Cond → Int → Int → Prop
  | .eq, x, y => x = y
  | .ne, x, y => ¬ x = y
  | .lt, x, y => x < y
  | .ge, x, y => ¬ x < y
  | .gt, x, y => y < x
  | .le, x, y => ¬ y < x
theorem holds_icmp (cd : ClassFile.Cond) (x y : Int32) : if_icmp.holds cd x y = true ↔ cpI cd x.toInt y.toInt := by
  cases cd <;> simp only [if_icmp.holds, cpI, decide_eq_true_eq, beq_iff_eq, bne_iff_ne, ne_eq, Int32.lt_iff_toInt_lt, Int32.le_iff_toInt_le, Int32.toInt_inj, Int.not_lt, ge_iff_le, gt_iff_lt]
theorem holds_if (cd : ClassFile.Cond) (x : Int32) : ifCond.holds cd x = true ↔ cpI cd x.toInt 0 := by
  rw [if0]; exact holds_icmp cd x 0
theorem g_goto (C : Cx p l s m meth c Z x0 code maxL ret) (X : Stand p l e R s m args below meth c T locs cells slots) {pc pc' : Nat} {Ls : Array Slot} {st : List Value} {o : Int} (hd : decode code pc = .ok (.goto o, 3)) (ho : 0 ≤ (pc : Int) + o) (hp : ((pc : Int) + o).toNat = pc')
    (K : Go p.tables e below G T (mkF m pc' Ls st)) : Go p.tables e below G T (mkF m pc Ls st) :=
  Go.step (fun _ k => XS.goto X.here C.exec rfl rfl (C.at hd) ho hp k) K
theorem g_if (C : Cx p l s m meth c Z x0 code maxL ret) (X : Stand p l e R s m args below meth c T locs cells slots) {pc pc' pc'' : Nat} {Ls : Array Slot} {st : List Value} {cd : ClassFile.Cond} {x : Int32} {o : Int} (hd : decode code pc = .ok (.ifCond cd o, 3)) (ho : 0 ≤ (pc : Int) + o) (hp : ((pc : Int) + o).toNat = pc') (hp3 : pc + 3 = pc'')
    (K1 : cpI cd x.toInt 0 → Go p.tables e below G T (mkF m pc' Ls st)) (K2 : ¬ cpI cd x.toInt 0 → Go p.tables e below G T (mkF m pc'' Ls st)) : Go p.tables e below G T (mkF m pc Ls (.int x :: st)) := by
  subst hp3
  cases hc : ifCond.holds cd x with
  | true => exact Go.step (fun _ k => XS.ifYes X.here C.exec rfl rfl (C.at hd) rfl hc ho hp k) (K1 ((holds_if cd x).mp hc))
  | false => exact Go.step (fun _ k => XS.ifNo X.here C.exec rfl (C.at hd) rfl hc k) (K2 fun q => by rw [(holds_if cd x).mpr q] at hc; cases hc)
theorem g_icmp (C : Cx p l s m meth c Z x0 code maxL ret) (X : Stand p l e R s m args below meth c T locs cells slots) {pc pc' pc'' : Nat} {Ls : Array Slot} {st : List Value} {cd : ClassFile.Cond} {x y : Int32} {o : Int} (hd : decode code pc = .ok (.if_icmp cd o, 3)) (ho : 0 ≤ (pc : Int) + o) (hp : ((pc : Int) + o).toNat = pc') (hp3 : pc + 3 = pc'')
    (K1 : cpI cd x.toInt y.toInt → Go p.tables e below G T (mkF m pc' Ls st)) (K2 : ¬ cpI cd x.toInt y.toInt → Go p.tables e below G T (mkF m pc'' Ls st)) : Go p.tables e below G T (mkF m pc Ls (.int y :: .int x :: st)) := by
  subst hp3
  cases hc : if_icmp.holds cd x y with
  | true => exact Go.step (fun _ k => XS.icmpYes X.here C.exec rfl rfl (C.at hd) rfl hc ho hp k) (K1 ((holds_icmp cd x y).mp hc))
  | false => exact Go.step (fun _ k => XS.icmpNo X.here C.exec rfl (C.at hd) rfl hc k) (K2 fun q => by rw [(holds_icmp cd x y).mpr q] at hc; cases hc)
theorem g_ifY (C : Cx p l s m meth c Z x0 code maxL ret) (X : Stand p l e R s m args below meth c T locs cells slots) {pc pc' : Nat} {Ls : Array Slot} {st : List Value} {cd : ClassFile.Cond} {x : Int32} {o : Int} (hd : decode code pc = .ok (.ifCond cd o, 3)) (ho : 0 ≤ (pc : Int) + o) (hp : ((pc : Int) + o).toNat = pc') (hc : cpI cd x.toInt 0)
    (K1 : Go p.tables e below G T (mkF m pc' Ls st)) : Go p.tables e below G T (mkF m pc Ls (.int x :: st)) :=
  Go.step (fun _ k => XS.ifYes X.here C.exec rfl rfl (C.at hd) rfl ((holds_if cd x).mpr hc) ho hp k) K1
theorem g_ifN (C : Cx p l s m meth c Z x0 code maxL ret) (X : Stand p l e R s m args below meth c T locs cells slots) {pc pc' : Nat} {Ls : Array Slot} {st : List Value} {cd : ClassFile.Cond} {x : Int32} {o : Int} (hd : decode code pc = .ok (.ifCond cd o, 3)) (hc : ¬ cpI cd x.toInt 0) (hp : pc + 3 = pc')
    (K1 : Go p.tables e below G T (mkF m pc' Ls st)) : Go p.tables e below G T (mkF m pc Ls (.int x :: st)) := by
  subst hp
  exact Go.step (fun _ k => XS.ifNo X.here C.exec rfl (C.at hd) rfl (Bool.eq_false_iff.mpr fun q => hc ((holds_if cd x).mp q)) k) K1
theorem g_icmpY (C : Cx p l s m meth c Z x0 code maxL ret) (X : Stand p l e R s m args below meth c T locs cells slots) {pc pc' : Nat} {Ls : Array Slot} {st : List Value} {cd : ClassFile.Cond} {x y : Int32} {o : Int} (hd : decode code pc = .ok (.if_icmp cd o, 3)) (ho : 0 ≤ (pc : Int) + o) (hp : ((pc : Int) + o).toNat = pc') (hc : cpI cd x.toInt y.toInt)
    (K1 : Go p.tables e below G T (mkF m pc' Ls st)) : Go p.tables e below G T (mkF m pc Ls (.int y :: .int x :: st)) :=
  Go.step (fun _ k => XS.icmpYes X.here C.exec rfl rfl (C.at hd) rfl ((holds_icmp cd x y).mpr hc) ho hp k) K1
theorem g_icmpN (C : Cx p l s m meth c Z x0 code maxL ret) (X : Stand p l e R s m args below meth c T locs cells slots) {pc pc' : Nat} {Ls : Array Slot} {st : List Value} {cd : ClassFile.Cond} {x y : Int32} {o : Int} (hd : decode code pc = .ok (.if_icmp cd o, 3)) (hc : ¬ cpI cd x.toInt y.toInt) (hp : pc + 3 = pc')
    (K1 : Go p.tables e below G T (mkF m pc' Ls st)) : Go p.tables e below G T (mkF m pc Ls (.int y :: .int x :: st)) := by
  subst hp
  exact Go.step (fun _ k => XS.icmpNo X.here C.exec rfl (C.at hd) rfl (Bool.eq_false_iff.mpr fun q => hc ((holds_icmp cd x y).mp q)) k) K1
/-! leaving the body -/
theorem g_out {k n : Nat} {Q : Option Value → Heap → List Loc → Prop} (C : Cx p l s m meth c Z x0 code maxL ret) (X : Stand p l e R s m args below meth c T locs cells slots) {v : Option Value} {g : JFrame} (hv : ret = none → v = none)
    (st : ∀ fs, (∀ (f : JFrame) (acts : List Action), f.method = m → f.locked = none → f.entered = [] → (doReturn e (T.setTop f) acts v).1 = T.setFrames fs) → Steps p.tables e below (T.setTop g) (T.setFrames fs))
    (hQ : Q v T.heap locs) (hk : cells ≤ k) (hn : slots ≤ n) : Go p.tables e below (End s Q k n) T g := by
  obtain ⟨fs, hr, hrun, hended, hW, hsame⟩ := X.leave (v := v) (fun q => hv (C.rets ▸ q)) C.unlocked
  exact ⟨_, _, st fs hr, hrun, hended, v, locs, rfl, hQ, ⟨_, rfl⟩, hW, hsame.mono hk hn⟩
theorem g_ireturn {k n : Nat} {Q : Option Value → Heap → List Loc → Prop} (C : Cx p l s m meth c Z x0 code maxL (some .int)) (X : Stand p l e R s m args below meth c T locs cells slots) {pc : Nat} {Ls : Array Slot} {st : List Value} {z : Int32} (hd : decode code pc = .ok (.ireturn, 1))
    (hQ : Q (some (.int z)) T.heap locs) (hk : cells ≤ k) (hn : slots ≤ n) : Go p.tables e below (End s Q k n) T (mkF m pc Ls (.int z :: st)) :=
  g_out C X (v := some (.int z)) (fun q => by cases q) (fun fs hr => retOut X C.exec C.rets rfl (Or.inl ⟨rfl, Or.inl rfl, _, rfl⟩) (C.at hd) hr) hQ hk hn
theorem g_zreturn {k n : Nat} {Q : Option Value → Heap → List Loc → Prop} (C : Cx p l s m meth c Z x0 code maxL (some .boolean)) (X : Stand p l e R s m args below meth c T locs cells slots) {pc : Nat} {Ls : Array Slot} {st : List Value} {z w : Int32} (hd : decode code pc = .ok (.ireturn, 1)) (hw : nar .boolean z = w)
    (hQ : Q (some (.int w)) T.heap locs) (hk : cells ≤ k) (hn : slots ≤ n) : Go p.tables e below (End s Q k n) T (mkF m pc Ls (.int z :: st)) :=
  g_out C X (v := some (.int w)) (fun q => by cases q) (fun fs hr => retN X C.exec (t := .boolean) C.rets (by simp) (C.at hd) (hw ▸ hr)) hQ hk hn
theorem g_lreturn {k n : Nat} {Q : Option Value → Heap → List Loc → Prop} (C : Cx p l s m meth c Z x0 code maxL (some .long)) (X : Stand p l e R s m args below meth c T locs cells slots) {pc : Nat} {Ls : Array Slot} {st : List Value} {z : Int64} (hd : decode code pc = .ok (.lreturn, 1))
    (hQ : Q (some (.long z)) T.heap locs) (hk : cells ≤ k) (hn : slots ≤ n) : Go p.tables e below (End s Q k n) T (mkF m pc Ls (.long z :: st)) :=
  g_out C X (v := some (.long z)) (fun q => by cases q) (fun fs hr => retOut X C.exec C.rets rfl (Or.inr (Or.inl ⟨rfl, rfl, _, rfl⟩)) (C.at hd) hr) hQ hk hn
theorem g_dreturn {k n : Nat} {Q : Option Value → Heap → List Loc → Prop} (C : Cx p l s m meth c Z x0 code maxL (some .double)) (X : Stand p l e R s m args below meth c T locs cells slots) {pc : Nat} {Ls : Array Slot} {st : List Value} {z : UInt64} (hd : decode code pc = .ok (.dreturn, 1))
    (hQ : Q (some (.double z)) T.heap locs) (hk : cells ≤ k) (hn : slots ≤ n) : Go p.tables e below (End s Q k n) T (mkF m pc Ls (.double z :: st)) :=
  g_out C X (v := some (.double z)) (fun q => by cases q) (fun fs hr => retOut X C.exec C.rets rfl (Or.inr (Or.inr (Or.inl ⟨rfl, rfl, _, rfl⟩))) (C.at hd) hr) hQ hk hn
theorem g_areturn {k n : Nat} {Q : Option Value → Heap → List Loc → Prop} {t : FieldType} (C : Cx p l s m meth c Z x0 code maxL (some t)) (X : Stand p l e R s m args below meth c T locs cells slots) {pc : Nat} {Ls : Array Slot} {st : List Value} {w : Value} (hd : decode code pc = .ok (.areturn, 1)) (ht : t.isReference = true) (hw : w.isRef = true) (hna : narrow t w = w)
    (hQ : Q (some w) T.heap locs) (hk : cells ≤ k) (hn : slots ≤ n) : Go p.tables e below (End s Q k n) T (mkF m pc Ls (w :: st)) :=
  g_out C X (v := some w) (fun q => by cases q) (fun fs hr => retOut X C.exec C.rets hna (Or.inr (Or.inr (Or.inr (Or.inr ⟨rfl, ht, hw⟩)))) (C.at hd) hr) hQ hk hn
theorem g_return {k n : Nat} {Q : Option Value → Heap → List Loc → Prop} (C : Cx p l s m meth c Z x0 code maxL none) (X : Stand p l e R s m args below meth c T locs cells slots) {pc : Nat} {Ls : Array Slot} (hd : decode code pc = .ok (.return_, 1))
    (hQ : Q none T.heap locs) (hk : cells ≤ k) (hn : slots ≤ n) : Go p.tables e below (End s Q k n) T (mkF m pc Ls []) :=
  g_out C X (v := none) (fun _ => rfl) (fun fs hr => X.returnOut C.exec C.rets (C.at hd) hr) hQ hk hn
/-! calls -/
theorem g_callS (C : Cx p l s m meth c Z x0 code maxL ret) (X : Stand p l e R s m args below meth c T locs cells slots) {index : Nat} {y : MethodName} {bytes : ByteArray} {mL : Nat} {rt : Option FieldType} {rm : Room} {as : Array Value} {Q : Option Value → Heap → List Loc → Prop} (K0 : Con l Z y bytes mL rt rm as h Q)
    (w1 : (Cond.methodLink x0.cls index y).before a0 Z = true) (w2 : (Cond.static y).before a0 Z = true) (w3 : (Cond.initialized y.cls).before a0 Z = true) (w4 : (Cond.code y bytes mL rt).before a0 Z = true)
    (hy : y.cls ≠ "java/lang/invoke/MethodHandle" ∧ y.cls ≠ "java/lang/invoke/VarHandle") (eT : T.heap = h) {pc pc' : Nat} {Ls : Array Slot} {st : List Value} (hd : decode code pc = .ok (.invokestatic index, 3)) (hsz : Ls.size = maxL)
    {ps : List FieldType} {r : Option FieldType} (hpd : parseMethodDescriptor y.desc = some ⟨ps, r⟩) (argsL rest : List Value) (hlen : argsL.length = ps.length) (has : argsL.toArray = as) (hst : st = argsL.reverse ++ rest) (W : Nat) (hW : (rest.map fun v => v.category).sum = W)
    (hfr : rm.frames + 1 ≤ R.frames) (hlo : W + (mL + 11) + rm.locals ≤ R.locals) (hce : cells + rm.cells ≤ R.cells) (hsl : slots + rm.slots ≤ R.slots) (hp : pc + 3 = pc')
    (K : ∀ v T' L, Stand p l e R s m args below meth c T' (locs ++ L) (cells + rm.cells) (slots + rm.slots) → Q v T'.heap L → Go p.tables e below G T' (mkF m pc' Ls (v.toList ++ rest))) : Go p.tables e below G T (mkF m pc Ls st) := by
  subst hp has
  obtain ⟨v, _, ⟨T1, L1, k1, n1⟩, -, X1, ⟨Lc, hQ, q1, q2, q3⟩, st1⟩ := Jvm.LawKit.callS X C.exec (y := y) C.own (mvT C.warm w1) (mvT C.warm w2) (mvT C.warm w3) (mvT C.warm w4) hy (backOf (W := W) (K0 []) C.warm w4 w3 hfr hlo)
    (g := mkF m pc Ls st) rfl (by rw [C.maxl]; exact hsz) (argsL := argsL) (rest := rest) (lenOf hpd hlen) hst (by show 2 * 0 + _ ≤ _; rw [hW]; omega) (C.at hd) (fun _ _ => ⟨rfl, eT, hce, hsl⟩)
  dsimp only [Pt.U, Pt.locs, Pt.cells, Pt.slots] at X1 q1 q2 q3 st1 hQ
  subst q1 q2 q3
  exact Go.step st1 (K v T1 Lc X1 hQ)
theorem go_trans {tb : Tables} {T1 : State} {g g1 : JFrame} (st : Steps tb e below (T.setTop g) (T1.setTop g1)) (k : Go tb e below G T1 g1) : Go tb e below G T g := by
  obtain ⟨s2, o, h1, h2⟩ := k
  exact ⟨s2, o, st.trans h1, h2⟩
theorem g_callI (C : Cx p l s m meth c Z x0 code maxL ret) (X : Stand p l e R s m args below meth c T locs cells slots) {index : Nat} {y : MethodName} {bytes : ByteArray} {mL : Nat} {rm : Room} {as : Array Value} {Q : Option Value → Heap → List Loc → Prop} (K0 : Con l Z y bytes mL none rm as h Q) (hy1 : y.name = "<init>")
    (w1 : (Cond.methodLink x0.cls index y).before a0 Z = true) (w2 : (Cond.instanceMethod y).before a0 Z = true) (w3 : (Cond.initialized y.cls).before a0 Z = true) (w4 : (Cond.code y bytes mL none).before a0 Z = true)
    (hy : y.cls ≠ "java/lang/invoke/MethodHandle" ∧ y.cls ≠ "java/lang/invoke/VarHandle") (eT : T.heap = h) {pc pc' : Nat} {Ls : Array Slot} {st : List Value} (hd : decode code pc = .ok (.invokespecial index, 3)) (hsz : Ls.size = maxL)
    {ps : List FieldType} {r : Option FieldType} (hpd : parseMethodDescriptor y.desc = some ⟨ps, r⟩) (a : Addr) (argsL rest : List Value) (hlen : argsL.length = ps.length) (has : (.ref a :: argsL).toArray = as) (hst : st = argsL.reverse ++ .ref a :: rest) (W : Nat) (hW : (rest.map fun v => v.category).sum = W)
    (hfr : rm.frames + 1 ≤ R.frames) (hlo : W + (mL + 11) + rm.locals ≤ R.locals) (hce : cells + rm.cells ≤ R.cells) (hsl : slots + rm.slots ≤ R.slots) (hp : pc + 3 = pc')
    (K : ∀ v T' L, Stand p l e R s m args below meth c T' (locs ++ L) (cells + rm.cells) (slots + rm.slots) → Q v T'.heap L → Go p.tables e below G T' (mkF m pc' Ls (v.toList ++ rest))) : Go p.tables e below G T (mkF m pc Ls st) := by
  subst hp has
  obtain ⟨v, _, ⟨T1, L1, k1, n1⟩, -, X1, ⟨Lc, hQ, q1, q2, q3⟩, st1⟩ := X.specialBack C.exec (y := y) hy1 C.own (mvT C.warm w1) (mvT C.warm w2) (mvT C.warm w4) hy (backOf (W := W) (K0 []) C.warm w4 w3 hfr hlo)
    (g := mkF m pc Ls st) rfl (by rw [C.maxl]; exact hsz) (Steps.refl _) (a := a) (argsL := argsL) (rest := rest) (lenOf hpd hlen) hst (by show 2 * 0 + _ ≤ _; rw [hW]; omega) (C.at hd) (fun _ _ => ⟨rfl, eT, hce, hsl⟩)
  dsimp only [Pt.U, Pt.locs, Pt.cells, Pt.slots] at X1 q1 q2 q3 st1 hQ
  subst q1 q2 q3
  exact go_trans st1 (K v T1 Lc X1 hQ)
theorem g_callV (C : Cx p l s m meth c Z x0 code maxL ret) (X : Stand p l e R s m args below meth c T locs cells slots) {index : Nat} {y : MethodName} {cls : String} {bytes : ByteArray} {mL : Nat} {rt : Option FieldType} {rm : Room} {as : Array Value} {Q : Option Value → Heap → List Loc → Prop} (K0 : Con l Z y bytes mL rt rm as h Q)
    (w1 : (Cond.methodLink x0.cls index y).before a0 Z = true) (w2 : (Cond.declares y).before a0 Z = true) (w5 : (Cond.selects cls y y).before a0 Z = true) (w6 : (Cond.instanceMethod y).before a0 Z = true) (w3 : (Cond.initialized y.cls).before a0 Z = true) (w4 : (Cond.code y bytes mL rt).before a0 Z = true)
    (hy : y.cls ≠ "java/lang/invoke/MethodHandle" ∧ y.cls ≠ "java/lang/invoke/VarHandle") (eT : T.heap = h) {a : Addr} (E : Exa Z h a cls) {pc pc' : Nat} {Ls : Array Slot} {st : List Value} (hd : decode code pc = .ok (.invokevirtual index, 3)) (hsz : Ls.size = maxL)
    {ps : List FieldType} {r : Option FieldType} (hpd : parseMethodDescriptor y.desc = some ⟨ps, r⟩) (argsL rest : List Value) (hlen : argsL.length = ps.length) (has : (.ref a :: argsL).toArray = as) (hst : st = argsL.reverse ++ .ref a :: rest) (W : Nat) (hW : (rest.map fun v => v.category).sum = W)
    (hfr : rm.frames + 1 ≤ R.frames) (hlo : W + (mL + 11) + rm.locals ≤ R.locals) (hce : cells + rm.cells ≤ R.cells) (hsl : slots + rm.slots ≤ R.slots) (hp : pc + 3 = pc')
    (K : ∀ v T' L, Stand p l e R s m args below meth c T' (locs ++ L) (cells + rm.cells) (slots + rm.slots) → Q v T'.heap L → Go p.tables e below G T' (mkF m pc' Ls (v.toList ++ rest))) : Go p.tables e below G T (mkF m pc Ls st) := by
  subst hp has
  obtain ⟨cq, kq, qa, qb, qc⟩ := isOf C.warm eT E
  obtain ⟨v, _, ⟨T1, L1, k1, n1⟩, -, X1, ⟨Lc, hQ, q1, q2, q3⟩, st1⟩ := X.virtualBack C.exec (y := y) (z := y) C.own (mvT C.warm w1) (mvT C.warm w2) (notFace_of_selects (args := #[]) (mvT C.warm w5)) (mvT C.warm w5) (mvT C.warm w6) hy (backOf (W := W) (K0 []) C.warm w4 w3 hfr hlo) qa qc
    (g := mkF m pc Ls st) rfl (by rw [C.maxl]; exact hsz) (Steps.refl _) (argsL := argsL) (rest := rest) (lenOf hpd hlen) hst (by show 2 * 0 + _ ≤ _; rw [hW]; omega) (C.at hd) (fun _ _ => ⟨rfl, eT, hce, hsl⟩)
  dsimp only [Pt.U, Pt.locs, Pt.cells, Pt.slots] at X1 q1 q2 q3 st1 hQ
  subst q1 q2 q3
  exact go_trans st1 (K v T1 Lc X1 hQ)
theorem g_initO (C : Cx p l s m meth c Z x0 code maxL ret) (X : Stand p l e R s m args below meth c T locs cells slots) {index : Nat} (w1 : (Cond.methodLink x0.cls index Lib.objectInit).before a0 Z = true) (w2 : (Cond.instanceMethod Lib.objectInit).before a0 Z = true) (w3 : (Cond.code Lib.objectInit ⟨#[0xb1]⟩ 1 none).before a0 Z = true) (eT : T.heap = h)
    {pc pc' : Nat} {Ls : Array Slot} {a : Addr} {rest : List Value} (hd : decode code pc = .ok (.invokespecial index, 3)) (hsz : Ls.size = maxL) (W : Nat) (hW : (rest.map fun v => v.category).sum = W) (hfr : 1 ≤ R.frames) (hlo : W + 12 ≤ R.locals) (hp : pc + 3 = pc')
    (K : ∀ T', Stand p l e R s m args below meth c T' locs cells slots → T'.heap = h → Go p.tables e below G T' (mkF m pc' Ls rest)) : Go p.tables e below G T (mkF m pc Ls (.ref a :: rest)) := by
  subst hp
  obtain ⟨T1, X1, e1, st1⟩ := initO X C.exec C.warm C.own w1 w2 w3 eT (g := mkF m pc Ls (.ref a :: rest)) rfl (by rw [C.maxl]; exact hsz) rfl (C.at hd) hfr (W := W) (by show 2 * 0 + _ ≤ _; rw [hW]; omega) hlo
  exact Go.step st1 (K T1 X1 e1)
/-! the heap -/
theorem g_new (C : Cx p l s m meth c Z x0 code maxL ret) (X : Stand p l e R s m args below meth c T locs cells slots) {cls : String} {index n : Nat} (w : (Cond.classLink x0.cls index cls).before a0 Z = true) (wi : (Cond.instantiable cls n).before a0 Z = true) (wz : (Cond.initialized cls).before a0 Z = true) (eT : T.heap = h)
    {pc pc' : Nat} {Ls : Array Slot} {st : List Value} (hd : decode code pc = .ok (.new index, 3)) (hc : cells + 1 ≤ R.cells) (hl : slots + n ≤ R.slots) (hp : pc + 3 = pc')
    (K : ∀ T' h' a, a = h.size → Stand p l e R s m args below meth c T' locs (cells + 1) (slots + n) → T'.heap = h' → Ext h h' → Exa Z h' a cls → (∀ {O nm d : String} {ty : FieldType}, Laid Z a0 cls O nm d → parseFieldDescriptor d = some ty → Fld Z h' a O nm d (defaultValue ty)) → Go p.tables e below G T' (mkF m pc' Ls (.ref a :: st))) :
    Go p.tables e below G T (mkF m pc Ls st) := by
  subst hp
  obtain ⟨T1, h1, X1, e1, E1, A1, D1, -, st1⟩ := newO X C.exec C.warm C.own w wi wz eT (g := mkF m pc Ls st) rfl (C.at hd) hc hl
  exact Go.step st1 (K T1 h1 h.size rfl X1 e1 E1 A1 D1)
theorem g_newP (C : Cx p l s m meth c Z x0 code maxL ret) (X : Stand p l e R s m args below meth c T locs cells slots) {aty : ArrayType} (w : (Cond.arrayClass (newarray.typeOf aty)).before a0 Z = true) (eT : T.heap = h)
    {pc pc' : Nat} {Ls : Array Slot} {st : List Value} {z : Int32} (hd : decode code pc = .ok (.newarray aty, 2)) (hz : ¬ z < 0) (cap : Nat) (hcap : z.toNatClampNeg ≤ cap) (hb : cap * 8 ≤ 536870912) (hc : cells + 1 ≤ R.cells) (hl : slots + cap ≤ R.slots) (hp : pc + 2 = pc')
    (K : ∀ T' h' a k, a = h.size → Stand p l e R s m args below meth c T' locs (cells + 1) (slots + cap) → T'.heap = h' → Ext h h' → Arv Z h' a k (newarray.typeOf aty) z [] (defaultValue (newarray.typeOf aty)) → Go p.tables e below G T' (mkF m pc' Ls (.ref a :: st))) :
    Go p.tables e below G T (mkF m pc Ls (.int z :: st)) := by
  subst hp
  obtain ⟨T1, h1, cA, X1, e1, E1, A1, st1⟩ := newP X C.exec C.warm w eT (g := mkF m pc Ls (.int z :: st)) rfl (C.at hd) rfl hz hcap hb hc hl
  exact Go.step st1 (K T1 h1 h.size cA rfl X1 e1 E1 (Arv.new A1 hz))
theorem g_getF (C : Cx p l s m meth c Z x0 code maxL ret) (X : Stand p l e R s m args below meth c T locs cells slots) {R0 O n d host : String} {index : Nat} (w : (Cond.fieldLink x0.cls index R0 n d).before a0 Z = true ∨ (Cond.fieldLinkNest x0.cls index R0 n d host).before a0 Z = true) (via : Via Z R0 O n d) (eT : T.heap = h) {a : Addr} {v : Value} (F : Fld Z h a O n d v)
    {pc pc' : Nat} {Ls : Array Slot} {st : List Value} (hd : decode code pc = .ok (.getfield index, 3)) (hp : pc + 3 = pc')
    (K : ∀ T', Stand p l e R s m args below meth c T' locs cells slots → T'.heap = h → Go p.tables e below G T' (mkF m pc' Ls (v :: st))) : Go p.tables e below G T (mkF m pc Ls (.ref a :: st)) := by
  subst hp
  obtain ⟨T1, X1, e1, st1⟩ := getF X C.exec C.warm C.own w via eT F (g := mkF m pc Ls (.ref a :: st)) rfl rfl (C.at hd)
  exact Go.step st1 (K T1 X1 e1)
theorem g_putF (C : Cx p l s m meth c Z x0 code maxL ret) (X : Stand p l e R s m args below meth c T locs cells slots) {R0 O n d host cls : String} {index kk : Nat} {ty : FieldType} (w : (Cond.fieldLink x0.cls index R0 n d).before a0 Z = true ∨ (Cond.fieldLinkNest x0.cls index R0 n d host).before a0 Z = true) (via : Via Z R0 O n d) (eT : T.heap = h) {a : Addr} {v old : Value} (F : Fld Z h a O n d old) (E : Exa Z h a cls)
    (L : (Cond.lays cls O n d).before a0 Z = true ∨ ((Cond.laysFinal cls O n d).before a0 Z = true ∧ x0.cls = O ∧ x0.name = "<init>")) (wi : (Cond.instantiable cls kk).before a0 Z = true) (hty : parseFieldDescriptor d = some ty) (hn : narrow ty v = v) (hf : fits ty v = true)
    {pc pc' : Nat} {Ls : Array Slot} {st : List Value} (hd : decode code pc = .ok (.putfield index, 3)) (hp : pc + 3 = pc')
    (K : ∀ T' h', Stand p l e R s m args below meth c T' (locs ++ [⟨a, RoadKit.slotOf Z O n d⟩]) cells slots → T'.heap = h' → Wr h h' a (RoadKit.slotOf Z O n d) v → Go p.tables e below G T' (mkF m pc' Ls st)) : Go p.tables e below G T (mkF m pc Ls (v :: .ref a :: st)) := by
  subst hp
  obtain ⟨T1, h1, X1, e1, W1, st1⟩ := putF X C.exec C.warm C.own w via eT F E (L.imp id fun q => ⟨q.1, q.2.1, C.nm.trans q.2.2⟩) wi hty hn hf (g := mkF m pc Ls (v :: .ref a :: st)) rfl rfl (C.at hd)
  exact Go.step st1 (K T1 h1 X1 e1 W1)
/-- an array whose values are a list: read, length, store -/
theorem Arv.cell {a : Addr} {k : ClassId} {ty : FieldType} {z : Int32} {vs : List Value} {d : Value} (A : Arv Z h a k ty z vs d) : ∃ cl : Cell, Arr Z h a cl ty ∧ cl.slots.size = z.toNatClampNeg ∧ ¬ z < 0 ∧ Has cl vs d := by
  obtain ⟨cl, A1, -, S, N, H, -⟩ := A
  exact ⟨cl, A1, S, N, H⟩
theorem g_len (C : Cx p l s m meth c Z x0 code maxL ret) (X : Stand p l e R s m args below meth c T locs cells slots) {a : Addr} {k : ClassId} {ty : FieldType} {z : Int32} {vs : List Value} {d : Value} (eT : T.heap = h) (A : Arv Z h a k ty z vs d) {pc pc' : Nat} {Ls : Array Slot} {st : List Value} (hd : decode code pc = .ok (.arraylength, 1)) (hp : pc + 1 = pc')
    (K : Go p.tables e below G T (mkF m pc' Ls (.int z :: st))) : Go p.tables e below G T (mkF m pc Ls (.ref a :: st)) := by
  subst hp
  obtain ⟨cl, A1, S, N, H⟩ := Arv.cell A
  refine Go.step (fun t q => X.arraylength C.exec (cell := cl) (by rw [eT]; exact A1.1) (State.isArrayOf_alike C.warm.alike A1.2.1) (g := mkF m pc Ls (.ref a :: st)) rfl rfl (C.at hd) t ?_) K
  rw [len_of S N]; exact q
theorem inb {cl : Cell} {z j : Int32} (S : cl.slots.size = z.toNatClampNeg) (h0 : 0 ≤ j.toInt) (h1 : j.toInt < z.toInt) : ¬ (j < 0 ∨ cl.slots.size ≤ j.toNatClampNeg) :=
  inb_of S ⟨fun q => by rw [Int32.lt_iff_toInt_lt] at q; exact absurd q (Int.not_lt.mpr h0), Int32.lt_iff_toInt_lt.mpr h1⟩
theorem g_iaload (C : Cx p l s m meth c Z x0 code maxL ret) (X : Stand p l e R s m args below meth c T locs cells slots) {a : Addr} {k : ClassId} {z j : Int32} {vs : List Value} {d : Value} {v : Int32} (eT : T.heap = h) (A : Arv Z h a k .int z vs d) (h0 : 0 ≤ j.toInt) (h1 : j.toInt < z.toInt) (i : Nat) (hj : j.toNatClampNeg = i) (hv : vs.getD i d = .int v) {pc pc' : Nat} {Ls : Array Slot} {st : List Value} (hd : decode code pc = .ok (.iaload, 1)) (hp : pc + 1 = pc')
    (K : Go p.tables e below G T (mkF m pc' Ls (.int v :: st))) : Go p.tables e below G T (mkF m pc Ls (.int j :: .ref a :: st)) := by
  subst hp
  obtain ⟨cl, A1, S, N, H⟩ := Arv.cell A
  exact Go.step (fun t q => X.iaload C.exec (j := j) (v := .int v) (by rw [eT]; exact A1.1) (State.isArrayOf_alike C.warm.alike A1.2.1) A1.2.2 (inb S h0 h1) (H.at (inb S h0 h1) (by rw [hj]; exact hv)) (g := mkF m pc Ls (.int j :: .ref a :: st)) rfl rfl (C.at hd) t q) K
theorem g_daload (C : Cx p l s m meth c Z x0 code maxL ret) (X : Stand p l e R s m args below meth c T locs cells slots) {a : Addr} {k : ClassId} {z j : Int32} {vs : List Value} {d : Value} {v : UInt64} (eT : T.heap = h) (A : Arv Z h a k .double z vs d) (h0 : 0 ≤ j.toInt) (h1 : j.toInt < z.toInt) (i : Nat) (hj : j.toNatClampNeg = i) (hv : vs.getD i d = .double v) {pc pc' : Nat} {Ls : Array Slot} {st : List Value} (hd : decode code pc = .ok (.daload, 1)) (hp : pc + 1 = pc')
    (K : Go p.tables e below G T (mkF m pc' Ls (.double v :: st))) : Go p.tables e below G T (mkF m pc Ls (.int j :: .ref a :: st)) := by
  subst hp
  obtain ⟨cl, A1, S, N, H⟩ := Arv.cell A
  exact Go.step (fun t q => X.daload C.exec (j := j) (v := .double v) (by rw [eT]; exact A1.1) (State.isArrayOf_alike C.warm.alike A1.2.1) A1.2.2 (inb S h0 h1) (H.at (inb S h0 h1) (by rw [hj]; exact hv)) (g := mkF m pc Ls (.int j :: .ref a :: st)) rfl rfl (C.at hd) t q) K
theorem g_aaload (C : Cx p l s m meth c Z x0 code maxL ret) (X : Stand p l e R s m args below meth c T locs cells slots) {a : Addr} {k : ClassId} {z j : Int32} {ty : FieldType} {vs : List Value} {d v : Value} (eT : T.heap = h) (A : Arv Z h a k ty z vs d) (hty : ty.isReference = true) (hr : v.isRef = true) (h0 : 0 ≤ j.toInt) (h1 : j.toInt < z.toInt) (i : Nat) (hj : j.toNatClampNeg = i) (hv : vs.getD i d = v) {pc pc' : Nat} {Ls : Array Slot} {st : List Value} (hd : decode code pc = .ok (.aaload, 1)) (hp : pc + 1 = pc')
    (K : Go p.tables e below G T (mkF m pc' Ls (v :: st))) : Go p.tables e below G T (mkF m pc Ls (.int j :: .ref a :: st)) := by
  subst hp
  obtain ⟨cl, A1, S, N, H⟩ := Arv.cell A
  exact Go.step (fun t q => X.aaload C.exec (j := j) (v := v) (by rw [eT]; exact A1.1) (State.isArrayOf_alike C.warm.alike A1.2.1) hty A1.2.2 (inb S h0 h1) (H.at (inb S h0 h1) (by rw [hj]; exact hv)) (g := mkF m pc Ls (.int j :: .ref a :: st)) rfl rfl (C.at hd) t q) K
theorem Arv.put {h' : Heap} {a : Addr} {k : ClassId} {ty : FieldType} {z j : Int32} {vs : List Value} {d v : Value} (A : Arv Z h a k ty z vs d) (W : Wr h h' a j.toNatClampNeg v) (hv : fits ty v = true) (i : Nat) (hj : j.toNatClampNeg = i) (n : Nat) (hi : i < vs.length + n) : Arv Z h' a k ty z ((vs ++ List.replicate n d).set i v) d := by
  obtain ⟨cl, A1, q1, S, N, H, Gf⟩ := Arv.pad A (pad_rep vs d n)
  exact Arv.set A1 q1 S N H Gf hv W i hj (by rw [List.length_append, List.length_replicate]; exact hi)
theorem g_iastore (C : Cx p l s m meth c Z x0 code maxL ret) (X : Stand p l e R s m args below meth c T locs cells slots) {a : Addr} {k : ClassId} {z j x : Int32} {vs : List Value} {d : Value} (eT : T.heap = h) (A : Arv Z h a k .int z vs d) (h0 : 0 ≤ j.toInt) (h1 : j.toInt < z.toInt) (i n : Nat) (hj : j.toNatClampNeg = i) (hi : i < vs.length + n) {pc pc' : Nat} {Ls : Array Slot} {st : List Value} (hd : decode code pc = .ok (.iastore, 1)) (hp : pc + 1 = pc')
    (K : ∀ T' h', Stand p l e R s m args below meth c T' (locs ++ [⟨a, j.toNatClampNeg⟩]) cells slots → T'.heap = h' → Wr h h' a j.toNatClampNeg (.int x) → Arv Z h' a k .int z ((vs ++ List.replicate n d).set i (.int x)) d → Go p.tables e below G T' (mkF m pc' Ls st)) : Go p.tables e below G T (mkF m pc Ls (.int x :: .int j :: .ref a :: st)) := by
  subst hp
  obtain ⟨cl, A1, S, N, H⟩ := Arv.cell A
  obtain ⟨T1, h2, X1, e1, W1, st1⟩ := stI X C.exec C.warm eT A1 (inb S h0 h1) (g := mkF m pc Ls (.int x :: .int j :: .ref a :: st)) rfl rfl (C.at hd)
  exact Go.step st1 (K T1 h2 X1 e1 W1 (Arv.put A W1 rfl i hj n hi))
theorem g_dastore (C : Cx p l s m meth c Z x0 code maxL ret) (X : Stand p l e R s m args below meth c T locs cells slots) {a : Addr} {k : ClassId} {z j : Int32} {x : UInt64} {vs : List Value} {d : Value} (eT : T.heap = h) (A : Arv Z h a k .double z vs d) (h0 : 0 ≤ j.toInt) (h1 : j.toInt < z.toInt) (i n : Nat) (hj : j.toNatClampNeg = i) (hi : i < vs.length + n) {pc pc' : Nat} {Ls : Array Slot} {st : List Value} (hd : decode code pc = .ok (.dastore, 1)) (hp : pc + 1 = pc')
    (K : ∀ T' h', Stand p l e R s m args below meth c T' (locs ++ [⟨a, j.toNatClampNeg⟩]) cells slots → T'.heap = h' → Wr h h' a j.toNatClampNeg (.double x) → Arv Z h' a k .double z ((vs ++ List.replicate n d).set i (.double x)) d → Go p.tables e below G T' (mkF m pc' Ls st)) : Go p.tables e below G T (mkF m pc Ls (.double x :: .int j :: .ref a :: st)) := by
  subst hp
  obtain ⟨cl, A1, S, N, H⟩ := Arv.cell A
  obtain ⟨T1, h2, X1, e1, W1, st1⟩ := stD X C.exec C.warm eT A1 (inb S h0 h1) (g := mkF m pc Ls (.double x :: .int j :: .ref a :: st)) rfl rfl (C.at hd)
  exact Go.step st1 (K T1 h2 X1 e1 W1 (Arv.put A W1 rfl i hj n hi))
theorem g_ldc2J (C : Cx p l s m meth c Z x0 code maxL ret) (X : Stand p l e R s m args below meth c T locs cells slots) {index : Nat} {v : Int64} (w : (Cond.constantLong x0.cls index v).before a0 Z = true) {pc pc' : Nat} {Ls : Array Slot} {st : List Value} (hd : decode code pc = .ok (.ldc2_w index, 3)) (hp : pc + 3 = pc')
    (K : Go p.tables e below G T (mkF m pc' Ls (.long v :: st))) : Go p.tables e below G T (mkF m pc Ls st) := by
  subst hp
  exact Go.step (fun t q => X.ldc2Long C.exec C.own (mvT C.warm w) (g := mkF m pc Ls st) rfl (C.at hd) t q) K
theorem g_ldcI (C : Cx p l s m meth c Z x0 code maxL ret) (X : Stand p l e R s m args below meth c T locs cells slots) {index : Nat} {v : Int32} (w : (Cond.constant x0.cls index v).before a0 Z = true) {pc pc' : Nat} {Ls : Array Slot} {st : List Value} (hd : decode code pc = .ok (.ldc index, 2)) (hp : pc + 2 = pc')
    (K : Go p.tables e below G T (mkF m pc' Ls (.int v :: st))) : Go p.tables e below G T (mkF m pc Ls st) := by
  subst hp
  exact Go.step (fun t q => X.ldcInt C.exec C.own (mvT C.warm w) (g := mkF m pc Ls st) rfl (C.at hd) t q) K
theorem FldE.wr {h' : Heap} {a b : Addr} {C n d : String} {sl : Nat} {v : Value} (W : Wr h h' b sl v) (F : ∃ w, Fld Z h a C n d w) : ∃ w, Fld Z h' a C n d w := by
  obtain ⟨w, F⟩ := F
  by_cases q : a ≠ b ∨ RoadKit.slotOf Z C n d ≠ sl
  · exact ⟨w, F.other W q⟩
  · have q1 : a = b := Decidable.not_not.mp fun z => q (Or.inl z)
    have q2 : RoadKit.slotOf Z C n d = sl := Decidable.not_not.mp fun z => q (Or.inr z)
    subst q1 q2
    exact ⟨v, F.same W⟩
theorem g_ldc2D (C : Cx p l s m meth c Z x0 code maxL ret) (X : Stand p l e R s m args below meth c T locs cells slots) {index : Nat} {b : UInt64} (w : (Cond.constantDouble x0.cls index b).before a0 Z = true) {pc pc' : Nat} {Ls : Array Slot} {st : List Value} (hd : decode code pc = .ok (.ldc2_w index, 3)) (hp : pc + 3 = pc')
    (K : Go p.tables e below G T (mkF m pc' Ls (.double b :: st))) : Go p.tables e below G T (mkF m pc Ls st) := by
  subst hp
  exact Go.step (fun t q => X.ldc2DoubleC C.exec C.own (mvT C.warm w) (g := mkF m pc Ls st) rfl (C.at hd) t q) K
end Walk
/-! doubles that are whole numbers -/
section Dbl
open Jvm.FP.Core Jvm.Free.Fl
theorem nn_of_int {i : Int} {a : UInt64} (q : DInt i a) : NoNaN64 a := val64_no.mpr (DInt_ne_nan q)
def cmpI (i j : Int) : Int32 := if j < i then 1 else if i = j then 0 else -1
theorem cmpI_lt (i j : Int) : (cmpI i j).toInt < 0 ↔ i < j := by
  unfold cmpI
  split
  · exact ⟨fun q => absurd q (by decide), fun q => by omega⟩
  · split
    · exact ⟨fun q => absurd q (by decide), fun q => by omega⟩
    · exact ⟨fun _ => by omega, fun _ => by decide⟩
theorem cmpI_gt (i j : Int) : 0 < (cmpI i j).toInt ↔ j < i := by
  unfold cmpI
  split
  · exact ⟨fun _ => by assumption, fun _ => by decide⟩
  · split
    · exact ⟨fun q => absurd q (by decide), fun q => by omega⟩
    · exact ⟨fun q => absurd q (by decide), fun q => by omega⟩
theorem cmpI_eq (i j : Int) : (cmpI i j).toInt = 0 ↔ i = j := by
  unfold cmpI
  split
  · exact ⟨fun q => absurd q (by decide), fun q => by omega⟩
  · split
    · exact ⟨fun _ => by assumption, fun _ => by decide⟩
    · exact ⟨fun q => absurd q (by decide), fun q => by omega⟩
theorem cmpI_self (i : Int) : cmpI i i = 0 := by
  unfold cmpI
  rw [if_neg (Int.lt_irrefl i), if_pos rfl]
theorem cmpL_lt (x y : Int64) : (XT.cmpL x y).toInt < 0 ↔ x.toInt < y.toInt := by
  unfold XT.cmpL
  rw [← Int64.lt_iff_toInt_lt]
  split
  · rename_i q; exact ⟨fun q => absurd q (by decide), fun q' => absurd q' (Int64.lt_asymm q)⟩
  · split
    · rename_i q; subst q; exact ⟨fun q => absurd q (by decide), fun q' => absurd q' Int64.lt_irrefl⟩
    · rename_i q1 q2; exact ⟨fun _ => by have q3 : ¬ x.toInt = y.toInt := fun q => q2 (Int64.toInt_inj.mp q); rw [Int64.lt_iff_toInt_lt] at q1 ⊢; omega, fun _ => by decide⟩
theorem cmpL_gt (x y : Int64) : 0 < (XT.cmpL x y).toInt ↔ y.toInt < x.toInt := by
  unfold XT.cmpL
  rw [← Int64.lt_iff_toInt_lt]
  split
  · rename_i q; exact ⟨fun _ => q, fun _ => by decide⟩
  · split
    · rename_i q0 q; exact ⟨fun q => absurd q (by decide), fun q' => absurd q' q0⟩
    · rename_i q0 q; exact ⟨fun q => absurd q (by decide), fun q' => absurd q' q0⟩
theorem cmpL_eq (x y : Int64) : (XT.cmpL x y).toInt = 0 ↔ x.toInt = y.toInt := by
  unfold XT.cmpL
  rw [Int64.toInt_inj]
  split
  · rename_i q; exact ⟨fun q => absurd q (by decide), fun q' => absurd q (by rw [q']; exact Int64.lt_irrefl)⟩
  · split
    · rename_i q; exact ⟨fun _ => q, fun _ => by decide⟩
    · rename_i q0 q; exact ⟨fun q => absurd q (by decide), fun q' => absurd q' q⟩
theorem cmpV_of {r : Option Ordering} {i j : Int} (q : r = some (compare i j)) (o : CmpOp) : cmpValue r o = cmpI i j := by
  subst q
  unfold cmpI
  split
  · rename_i q; rw [(compare_gt_iff i j).mpr q]; rfl
  · split
    · rename_i q; rw [(compare_eq_iff i j).mpr q]; rfl
    · rename_i q1 q2; rw [(compare_lt_iff i j).mpr (by omega)]; rfl
theorem dcmp_cmpI {i j : Int} {a b : UInt64} (ha : DInt i a) (hb : DInt j b) (o : CmpOp) : cmpValue (FP.dcmp a b) o = cmpI i j := cmpV_of (dcmp_int ha hb) o
theorem dint_zero : DInt 0 FP.dconst0 := by
  unfold DInt
  rw [show val64 FP.dconst0 = _ from val64_dconst0]
  show signed false (0 * _) = 0 * _
  rw [Nat.zero_mul, Int.zero_mul]; rfl
end Dbl
end Jvm.OwnKit
namespace Jvm.OwnKit
open Sem ClassFile Op Lib Jvm.Stand Jvm.Free Jvm.LawKit Jvm.RoadKit
section More
variable {p : Program} {l : Launch} {e : Env} {R : Room} {s : State} {m : MethodId} {args : Array Value} {below : List Frame} {meth : Method} {c : Code} {T : State} {locs : List Loc} {cells slots : Nat} {Z : State} {a0 : Array Value} {h : Heap} {G : Outcome → State → Prop}
variable {x0 : MethodName} {code : ByteArray} {maxL : Nat} {ret : Option FieldType}
theorem g_newPE (C : Cx p l s m meth c Z x0 code maxL ret) (X : Stand p l e R s m args below meth c T locs cells slots) {aty : ArrayType} {ad : String} (had : "[" ++ (newarray.typeOf aty).toString = ad) (w : (Cond.arrayClass (newarray.typeOf aty)).before a0 Z = true) (eT : T.heap = h)
    {pc pc' : Nat} {Ls : Array Slot} {st : List Value} {z : Int32} (hd : decode code pc = .ok (.newarray aty, 2)) (hz : ¬ z < 0) (cap : Nat) (hcap : z.toNatClampNeg ≤ cap) (hb : cap * 8 ≤ 536870912) (hc : cells + 1 ≤ R.cells) (hl : slots + cap ≤ R.slots) (hp : pc + 2 = pc')
    (K : ∀ T' h' a k, a = h.size → Stand p l e R s m args below meth c T' locs (cells + 1) (slots + cap) → T'.heap = h' → Ext h h' → Arv Z h' a k (newarray.typeOf aty) z [] (defaultValue (newarray.typeOf aty)) → Exa Z h' a ad → Go p.tables e below G T' (mkF m pc' Ls (.ref a :: st))) :
    Go p.tables e below G T (mkF m pc Ls (.int z :: st)) := by
  subst hp
  obtain ⟨T1, h1, cA, X1, e1, E1, A1, B1, st1⟩ := newPE X C.exec C.warm w eT (g := mkF m pc Ls (.int z :: st)) rfl (C.at hd) rfl hz hcap hb hc hl had
  exact Go.step st1 (K T1 h1 h.size cA rfl X1 e1 E1 (Arv.new A1 hz) B1)
theorem g_clone (C : Cx p l s m meth c Z x0 code maxL ret) (X : Stand p l e R s m args below meth c T locs cells slots) {index : Nat} {ad : String} {ty : FieldType} (w1 : (Cond.methodLink x0.cls index ⟨ad, "clone", "()Ljava/lang/Object;"⟩).before a0 Z = true) (w2 : (Cond.sameMethod ad "java/lang/Object" "clone" "()Ljava/lang/Object;").before a0 Z = true) (w3 : (Cond.native ⟨"java/lang/Object", "clone", "()Ljava/lang/Object;"⟩).before a0 Z = true)
    (w4 : (Cond.instanceMethod ⟨"java/lang/Object", "clone", "()Ljava/lang/Object;"⟩).before a0 Z = true) (w5 : (Cond.selects ad ⟨ad, "clone", "()Ljava/lang/Object;"⟩ ⟨"java/lang/Object", "clone", "()Ljava/lang/Object;"⟩).before a0 Z = true) (w6 : (Cond.castable ad "java/lang/Cloneable").before a0 Z = true) (eT : T.heap = h)
    {a : Addr} {k : ClassId} {z : Int32} {vs : List Value} {d : Value} (A : Arv Z h a k ty z vs d) (E : Exa Z h a ad) {pc pc' : Nat} {Ls : Array Slot} {rest : List Value} (hd : decode code pc = .ok (.invokevirtual index, 3)) (hsz : Ls.size = maxL) (W : Nat) (hW : (rest.map fun v => v.category).sum = W) (hfr : 1 ≤ R.frames) (hlo : W + 14 ≤ R.locals)
    (cap : Nat) (hcap : z.toNatClampNeg ≤ cap) (hc : cells + 1 ≤ R.cells) (hl : slots + cap ≤ R.slots) (hp : pc + 3 = pc')
    (K : ∀ T' h' a', a' = h.size → Stand p l e R s m args below meth c T' locs (cells + 1) (slots + cap) → T'.heap = h' → Ext h h' → Arv Z h' a' k ty z vs d → Exa Z h' a' ad → Go p.tables e below G T' (mkF m pc' Ls (.ref a' :: rest))) :
    Go p.tables e below G T (mkF m pc Ls (.ref a :: rest)) := by
  subst hp
  obtain ⟨T1, h1, X1, e1, E1, A1, B1, st1⟩ := cloneH X C.exec C.warm C.own w1 w2 w3 w4 w5 w6 eT A.arh E (g := mkF m pc Ls (.ref a :: rest)) rfl (by rw [C.maxl]; exact hsz) rfl (C.at hd) hfr (W := W) (by show 2 * 0 + _ ≤ _; rw [hW]; omega) hlo hcap hc hl
  exact Go.step st1 (K T1 h1 h.size rfl X1 e1 E1 A1 B1)
theorem g_cast (C : Cx p l s m meth c Z x0 code maxL ret) (X : Stand p l e R s m args below meth c T locs cells slots) {cls : String} {index : Nat} (w : (Cond.classLink x0.cls index cls).before a0 Z = true) (eT : T.heap = h) {a : Addr} (F : Ins Z h a cls true) {pc pc' : Nat} {Ls : Array Slot} {rest : List Value} (hd : decode code pc = .ok (.checkcast index, 3)) (hp : pc + 3 = pc')
    (K : ∀ T', Stand p l e R s m args below meth c T' locs cells slots → T'.heap = h → Go p.tables e below G T' (mkF m pc' Ls (.ref a :: rest))) : Go p.tables e below G T (mkF m pc Ls (.ref a :: rest)) := by
  subst hp
  obtain ⟨T1, X1, e1, st1⟩ := castY X C.exec C.warm C.own w eT F (g := mkF m pc Ls (.ref a :: rest)) rfl rfl (C.at hd)
  exact Go.step st1 (K T1 X1 e1)
theorem g_acmpY (C : Cx p l s m meth c Z x0 code maxL ret) (X : Stand p l e R s m args below meth c T locs cells slots) {pc pc' : Nat} {Ls : Array Slot} {st : List Value} {cd : ClassFile.ACond} {v w : Value} {o : Int} (hd : decode code pc = .ok (.if_acmp cd o, 3)) (hv : v.isRef = true) (hw : w.isRef = true) (hc : XT.acmp cd v w = true) (ho : 0 ≤ (pc : Int) + o) (hp : ((pc : Int) + o).toNat = pc')
    (K : Go p.tables e below G T (mkF m pc' Ls st)) : Go p.tables e below G T (mkF m pc Ls (w :: v :: st)) :=
  Go.step (fun _ k => XT.acmpYes X.here C.exec rfl rfl (C.at hd) rfl hv hw hc ho hp k) K
theorem g_acmpN (C : Cx p l s m meth c Z x0 code maxL ret) (X : Stand p l e R s m args below meth c T locs cells slots) {pc pc' : Nat} {Ls : Array Slot} {st : List Value} {cd : ClassFile.ACond} {v w : Value} {o : Int} (hd : decode code pc = .ok (.if_acmp cd o, 3)) (hv : v.isRef = true) (hw : w.isRef = true) (hc : XT.acmp cd v w = false) (hp : pc + 3 = pc')
    (K : Go p.tables e below G T (mkF m pc' Ls st)) : Go p.tables e below G T (mkF m pc Ls (w :: v :: st)) := by
  subst hp
  exact Go.step (fun _ k => XT.acmpNo X.here C.exec rfl (C.at hd) rfl hv hw hc k) K
theorem ac_same (v : Value) : XT.acmp .eq v v = true ∧ XT.acmp .ne v v = false := by simp [XT.acmp]
theorem ac_diff {v w : Value} (q : v ≠ w) : XT.acmp .eq v w = false ∧ XT.acmp .ne v w = true := by simp [XT.acmp, q]
theorem ref_ne {a b : Addr} (q : a ≠ b) : Value.ref a ≠ Value.ref b := fun z => q (Value.ref.inj z)
theorem g_ifnullY (C : Cx p l s m meth c Z x0 code maxL ret) (X : Stand p l e R s m args below meth c T locs cells slots) {pc pc' : Nat} {Ls : Array Slot} {st : List Value} {o : Int} (hd : decode code pc = .ok (.ifnull o, 3)) (ho : 0 ≤ (pc : Int) + o) (hp : ((pc : Int) + o).toNat = pc')
    (K : Go p.tables e below G T (mkF m pc' Ls st)) : Go p.tables e below G T (mkF m pc Ls (.null :: st)) :=
  Go.step (fun _ k => XS.ifnullYes X.here C.exec rfl rfl (C.at hd) rfl ho hp k) K
theorem g_ifnullN (C : Cx p l s m meth c Z x0 code maxL ret) (X : Stand p l e R s m args below meth c T locs cells slots) {pc pc' : Nat} {Ls : Array Slot} {st : List Value} {a : Addr} {o : Int} (hd : decode code pc = .ok (.ifnull o, 3)) (hp : pc + 3 = pc')
    (K : Go p.tables e below G T (mkF m pc' Ls st)) : Go p.tables e below G T (mkF m pc Ls (.ref a :: st)) := by
  subst hp
  exact Go.step (fun _ k => XS.ifnullNo X.here C.exec rfl (C.at hd) rfl k) K
theorem g_ifnonnullN (C : Cx p l s m meth c Z x0 code maxL ret) (X : Stand p l e R s m args below meth c T locs cells slots) {pc pc' : Nat} {Ls : Array Slot} {st : List Value} {o : Int} (hd : decode code pc = .ok (.ifnonnull o, 3)) (hp : pc + 3 = pc')
    (K : Go p.tables e below G T (mkF m pc' Ls st)) : Go p.tables e below G T (mkF m pc Ls (.null :: st)) := by
  subst hp
  exact Go.step (fun _ k => XT.ifnonnullNo X.here C.exec rfl (C.at hd) rfl k) K
theorem g_ifnonnullY (C : Cx p l s m meth c Z x0 code maxL ret) (X : Stand p l e R s m args below meth c T locs cells slots) {pc pc' : Nat} {Ls : Array Slot} {st : List Value} {a : Addr} {o : Int} (hd : decode code pc = .ok (.ifnonnull o, 3)) (ho : 0 ≤ (pc : Int) + o) (hp : ((pc : Int) + o).toNat = pc')
    (K : Go p.tables e below G T (mkF m pc' Ls st)) : Go p.tables e below G T (mkF m pc Ls (.ref a :: st)) :=
  Go.step (fun _ k => XT.ifnonnullYes X.here C.exec rfl rfl (C.at hd) rfl ho hp k) K
theorem g_getS (C : Cx p l s m meth c Z x0 code maxL ret) (X : Stand p l e R s m args below meth c T locs cells slots) {R0 O n d : String} {index : Nat} (w : (Cond.fieldLink x0.cls index R0 n d).before a0 Z = true) (via : Via Z R0 O n d) (eT : T.heap = h) {v : Value} (F : Sta Z h O n d v)
    {pc pc' : Nat} {Ls : Array Slot} {st : List Value} (hd : decode code pc = .ok (.getstatic index, 3)) (hp : pc + 3 = pc')
    (K : ∀ T', Stand p l e R s m args below meth c T' locs cells slots → T'.heap = h → Go p.tables e below G T' (mkF m pc' Ls (v :: st))) : Go p.tables e below G T (mkF m pc Ls st) := by
  subst hp
  obtain ⟨T1, X1, e1, st1⟩ := getS (host := "") X C.exec C.warm C.own w via eT F (g := mkF m pc Ls st) rfl (C.at hd)
  exact Go.step st1 (K T1 X1 e1)
theorem g_lshl (C : Cx p l s m meth c Z x0 code maxL ret) (X : Stand p l e R s m args below meth c T locs cells slots) {pc pc' : Nat} {Ls : Array Slot} {st : List Value} {x : Int64} {y : Int32} (hd : decode code pc = .ok (.lshl, 1)) (hp : pc + 1 = pc')
    (K : Go p.tables e below G T (mkF m pc' Ls (.long (x <<< (y.toInt64 &&& 63)) :: st))) : Go p.tables e below G T (mkF m pc Ls (.int y :: .long x :: st)) := by
  subst hp; exact Go.step (fun _ k => XT.lshl X.here C.exec rfl (C.at hd) rfl k) K
end More
end Jvm.OwnKit
namespace Jvm.OwnKit
section Dbl
open Jvm.FP.Core Jvm.Free.Fl
theorem i2d_D (x : Int32) : DInt x.toInt (FP.i2d x) := i2d_int x
theorem l2d_D {x : Int64} (h : x.toInt.natAbs ≤ 2 ^ 53) : DInt x.toInt (FP.l2d x) := l2d_int h
theorem dadd_D {i j : Int} {a b : UInt64} (ha : DInt i a) (hb : DInt j b) (h : (i + j).natAbs ≤ 2 ^ 53) : DInt (i + j) (FP.dadd a b) := dadd_int ha hb h
theorem dsub_D {i j : Int} {a b : UInt64} (ha : DInt i a) (hb : DInt j b) (h : (i - j).natAbs ≤ 2 ^ 53) : DInt (i - j) (FP.dsub a b) := dsub_int ha hb h
theorem dmul_D {i j : Int} {a b : UInt64} (ha : DInt i a) (hb : DInt j b) (h : (i * j).natAbs ≤ 2 ^ 53) : DInt (i * j) (FP.dmul a b) := dmul_int ha hb h
theorem dint_one' : DInt 1 FP.dconst1 := dint_one
theorem dneg_int' {i : Int} {a : UInt64} (ha : DInt i a) : DInt (-i) (FP.dneg a) := by
  unfold DInt
  rw [FP.val64_dneg]
  exact whole_negate ha
theorem own_pow_cancel {c k d q1 q2 r1 r2 : Nat} {q r : Int} (hq : (q1 : Int) - q2 = q) (hr : (r1 : Int) - r2 = r) (h : c * 2 ^ (q1 + r2) = k * d * 2 ^ (q2 + r1)) : c * 2 ^ (q - r).toNat = k * d * 2 ^ (r - q).toNat := by
  obtain ⟨n, hn⟩ : ∃ n : Nat, n = min (q1 + r2) (q2 + r1) := ⟨_, rfl⟩
  have e1 : q1 + r2 = (q - r).toNat + n := by omega
  have e2 : q2 + r1 = (r - q).toNat + n := by omega
  rw [e1, e2, Nat.pow_add, Nat.pow_add, ← Nat.mul_assoc, ← Nat.mul_assoc] at h
  exact Nat.eq_of_mul_eq_mul_right (Nat.two_pow_pos n) h
theorem ddiv_int {i j k : Int} {a b : UInt64} (ha : DInt i a) (hb : DInt j b) (hj : j ≠ 0) (hk : i = k * j) (h : k.natAbs ≤ 2 ^ 53) : DInt k (FP.ddiv a b) := by
  unfold DInt at *
  show Whole k (val64 (ddiv a b))
  rw [val64_ddiv]
  cases hva : val64 a with
  | nan => rw [hva] at ha; exact ha.elim
  | inf => rw [hva] at ha; exact ha.elim
  | fin s c q =>
    cases hvb : val64 b with
    | nan => rw [hvb] at hb; exact hb.elim
    | inf => rw [hvb] at hb; exact hb.elim
    | fin t d r =>
      rw [hva] at ha
      rw [hvb] at hb
      have hd : d ≠ 0 := fun q => hj ((whole_zero hb).mp q)
      have h1 := whole_natAbs ha
      have h2 := whole_natAbs hb
      have e1 : quotient b64 (.fin s c q) (.fin t d r) = round b64 (.fin (s != t) k.natAbs 0) := by
        show (if d = 0 then _ else roundRatio b64 (s != t) c d (q - r)) = roundRatio b64 (s != t) k.natAbs 1 0
        rw [if_neg hd]
        refine roundRatio_congr (by omega) (by decide) ?_
        have e2 : c * 2 ^ (q.toNat + (-r).toNat) = k.natAbs * d * 2 ^ ((-q).toNat + r.toNat) := by
          rw [Nat.pow_add, Nat.pow_add, ← Nat.mul_assoc, h1, hk, Int.natAbs_mul]
          calc k.natAbs * j.natAbs * 2 ^ (-q).toNat * 2 ^ (-r).toNat = k.natAbs * 2 ^ (-q).toNat * (j.natAbs * 2 ^ (-r).toNat) := by ac_rfl
            _ = k.natAbs * 2 ^ (-q).toNat * (d * 2 ^ r.toNat) := by rw [h2]
            _ = k.natAbs * d * (2 ^ (-q).toNat * 2 ^ r.toNat) := by ac_rfl
        have e3 := own_pow_cancel (q := q) (r := r) (by omega) (by omega) e2
        rw [Nat.mul_one, show (q - r - 0).toNat = (q - r).toNat by omega, show (0 - (q - r)).toNat = (r - q).toNat by omega]
        exact e3
      rw [e1]
      refine whole_round good_b64 wide_b64 h ?_
      show signed (s != t) (k.natAbs * 2 ^ 0) = k * ((2 ^ 0 : Nat) : Int)
      rw [Nat.pow_zero, Nat.mul_one]
      by_cases hk0 : k = 0
      · subst hk0; exact signed_zero _
      · have hi : i ≠ 0 := by rw [hk]; exact Int.mul_ne_zero hk0 hj
        rw [whole_sign ha hi, whole_sign hb hj]
        unfold signed
        rcases Int.lt_or_gt_of_ne hj with q1 | q1 <;> rcases Int.lt_or_gt_of_ne hk0 with q2 | q2
        · have q3 := Int.mul_pos_of_neg_of_neg q2 q1
          rw [← hk] at q3
          simp [q1, show ¬ i < 0 by omega]; omega
        · have q3 := Int.mul_neg_of_pos_of_neg q2 q1
          rw [← hk] at q3
          simp [q1, q3]; omega
        · have q3 := Int.mul_neg_of_neg_of_pos q2 q1
          rw [← hk] at q3
          simp [show ¬ j < 0 by omega, q3]; omega
        · have q3 := Int.mul_pos q2 q1
          rw [← hk] at q3
          simp [show ¬ j < 0 by omega, show ¬ i < 0 by omega]; omega
end Dbl
end Jvm.OwnKit
namespace Jvm.OwnKit
section Num
open Jvm.RoadKit
theorem own_m {x y X Y : Int} (h1 : -X ≤ x) (h2 : x ≤ X) (h3 : -Y ≤ y) (h4 : y ≤ Y) : -(X * Y) ≤ x * y ∧ x * y ≤ X * Y := by
  have q := mc h1 h2 h3 h4
  have q1 := Int.mul_le_mul_of_nonneg_left h4 (show 0 ≤ X + x by omega)
  have q2 := Int.mul_le_mul_of_nonneg_left h4 (show 0 ≤ X - x by omega)
  have q3 := Int.mul_le_mul_of_nonneg_left h3 (show 0 ≤ X + x by omega)
  have q4 := Int.mul_le_mul_of_nonneg_left h3 (show 0 ≤ X - x by omega)
  simp only [Int.add_mul, Int.sub_mul, Int.mul_neg] at q1 q2 q3 q4
  omega
theorem own_add {x y : Int64} (h1 : -9223372036854775808 ≤ x.toInt + y.toInt) (h2 : x.toInt + y.toInt < 9223372036854775808) : (x + y).toInt = x.toInt + y.toInt := FP.Core.int64_add h1 h2
theorem own_sub {x y : Int64} (h1 : -9223372036854775808 ≤ x.toInt - y.toInt) (h2 : x.toInt - y.toInt < 9223372036854775808) : (x - y).toInt = x.toInt - y.toInt := FP.Core.int64_sub h1 h2
theorem own_mul {x y : Int64} (h1 : -9223372036854775808 ≤ x.toInt * y.toInt) (h2 : x.toInt * y.toInt < 9223372036854775808) : (x * y).toInt = x.toInt * y.toInt := FP.Core.int64_mul h1 h2
theorem own_neg {x : Int64} (h1 : -9223372036854775808 < x.toInt) : (-x).toInt = -x.toInt := FP.Core.int64_neg h1
theorem own_iadd {x y : Int32} (h1 : -2147483648 ≤ x.toInt + y.toInt) (h2 : x.toInt + y.toInt < 2147483648) : (x + y).toInt = x.toInt + y.toInt := by
  have := c_iadd x y; have := rng32 (x + y); omega
theorem own_isub {x y : Int32} (h1 : -2147483648 ≤ x.toInt - y.toInt) (h2 : x.toInt - y.toInt < 2147483648) : (x - y).toInt = x.toInt - y.toInt := by
  have := c_isub x y; have := rng32 (x - y); omega
theorem own_imul {x y : Int32} (h1 : -2147483648 ≤ x.toInt * y.toInt) (h2 : x.toInt * y.toInt < 2147483648) : (x * y).toInt = x.toInt * y.toInt := by
  have := c_imul x y; have := rng32 (x * y); omega
theorem own_ineg {x : Int32} (h1 : -2147483648 < x.toInt) : (-x).toInt = -x.toInt := by
  have := c_ineg x; have := rng32 (-x); have := rng32 x; omega
end Num
end Jvm.OwnKit
namespace Jvm.Pilot.@@N@@
open Jvm Jvm.ClassFile Sem Op Lib Jvm.Free Jvm.Stand Jvm.LawKit Jvm.RoadKit Jvm.OwnKit Bundle Jvm.Pilot.@@N@@.Jvm.D
theorem d1_0 : decode prog_5_method_8_code 0 = .ok (.iconst 0, 1) := by decide +kernel
theorem d1_1 : decode prog_5_method_8_code 1 = .ok (.istore_n 3, 1) := by decide +kernel
theorem d1_2 : decode prog_5_method_8_code 2 = .ok (.iload_n 3, 1) := by decide +kernel
theorem d1_3 : decode prog_5_method_8_code 3 = .ok (.iload_n 1, 1) := by decide +kernel
theorem d1_4 : decode prog_5_method_8_code 4 = .ok (.if_icmp .ge 63, 3) := by decide +kernel
theorem d1_7 : decode prog_5_method_8_code 7 = .ok (.iload_n 3, 1) := by decide +kernel
theorem d1_8 : decode prog_5_method_8_code 8 = .ok (.iload_n 1, 1) := by decide +kernel
theorem d1_9 : decode prog_5_method_8_code 9 = .ok (.imul, 1) := by decide +kernel
theorem d1_10 : decode prog_5_method_8_code 10 = .ok (.istore 4, 2) := by decide +kernel
theorem d1_12 : decode prog_5_method_8_code 12 = .ok (.aload_n 2, 1) := by decide +kernel
theorem d1_13 : decode prog_5_method_8_code 13 = .ok (.iload_n 3, 1) := by decide +kernel
theorem d1_14 : decode prog_5_method_8_code 14 = .ok (.daload, 1) := by decide +kernel
theorem d1_15 : decode prog_5_method_8_code 15 = .ok (.dstore 5, 2) := by decide +kernel
theorem d1_17 : decode prog_5_method_8_code 17 = .ok (.iconst 0, 1) := by decide +kernel
theorem d1_18 : decode prog_5_method_8_code 18 = .ok (.istore 7, 2) := by decide +kernel
theorem d1_20 : decode prog_5_method_8_code 20 = .ok (.iload 7, 2) := by decide +kernel
theorem d1_22 : decode prog_5_method_8_code 22 = .ok (.iload_n 3, 1) := by decide +kernel
theorem d1_23 : decode prog_5_method_8_code 23 = .ok (.if_icmp .ge 26, 3) := by decide +kernel
theorem d1_26 : decode prog_5_method_8_code 26 = .ok (.dload 5, 2) := by decide +kernel
theorem d1_28 : decode prog_5_method_8_code 28 = .ok (.aload_n 0, 1) := by decide +kernel
theorem d1_29 : decode prog_5_method_8_code 29 = .ok (.iload 4, 2) := by decide +kernel
theorem d1_31 : decode prog_5_method_8_code 31 = .ok (.iload 7, 2) := by decide +kernel
theorem d1_33 : decode prog_5_method_8_code 33 = .ok (.iadd, 1) := by decide +kernel
theorem d1_34 : decode prog_5_method_8_code 34 = .ok (.daload, 1) := by decide +kernel
theorem d1_35 : decode prog_5_method_8_code 35 = .ok (.aload_n 2, 1) := by decide +kernel
theorem d1_36 : decode prog_5_method_8_code 36 = .ok (.iload 7, 2) := by decide +kernel
theorem d1_38 : decode prog_5_method_8_code 38 = .ok (.daload, 1) := by decide +kernel
theorem d1_39 : decode prog_5_method_8_code 39 = .ok (.dmul, 1) := by decide +kernel
theorem d1_40 : decode prog_5_method_8_code 40 = .ok (.dsub, 1) := by decide +kernel
theorem d1_41 : decode prog_5_method_8_code 41 = .ok (.dstore 5, 2) := by decide +kernel
theorem d1_43 : decode prog_5_method_8_code 43 = .ok (.iinc 7 1, 3) := by decide +kernel
theorem d1_46 : decode prog_5_method_8_code 46 = .ok (.goto (-26), 3) := by decide +kernel
theorem d1_49 : decode prog_5_method_8_code 49 = .ok (.aload_n 2, 1) := by decide +kernel
theorem d1_50 : decode prog_5_method_8_code 50 = .ok (.iload_n 3, 1) := by decide +kernel
theorem d1_51 : decode prog_5_method_8_code 51 = .ok (.dload 5, 2) := by decide +kernel
theorem d1_53 : decode prog_5_method_8_code 53 = .ok (.aload_n 0, 1) := by decide +kernel
theorem d1_54 : decode prog_5_method_8_code 54 = .ok (.iload 4, 2) := by decide +kernel
theorem d1_56 : decode prog_5_method_8_code 56 = .ok (.iload_n 3, 1) := by decide +kernel
theorem d1_57 : decode prog_5_method_8_code 57 = .ok (.iadd, 1) := by decide +kernel
theorem d1_58 : decode prog_5_method_8_code 58 = .ok (.daload, 1) := by decide +kernel
theorem d1_59 : decode prog_5_method_8_code 59 = .ok (.ddiv, 1) := by decide +kernel
theorem d1_60 : decode prog_5_method_8_code 60 = .ok (.dastore, 1) := by decide +kernel
theorem d1_61 : decode prog_5_method_8_code 61 = .ok (.iinc 3 1, 3) := by decide +kernel
theorem d1_64 : decode prog_5_method_8_code 64 = .ok (.goto (-62), 3) := by decide +kernel
theorem d1_67 : decode prog_5_method_8_code 67 = .ok (.iload_n 1, 1) := by decide +kernel
theorem d1_68 : decode prog_5_method_8_code 68 = .ok (.iconst 1, 1) := by decide +kernel
theorem d1_69 : decode prog_5_method_8_code 69 = .ok (.isub, 1) := by decide +kernel
theorem d1_70 : decode prog_5_method_8_code 70 = .ok (.istore_n 3, 1) := by decide +kernel
theorem d1_71 : decode prog_5_method_8_code 71 = .ok (.iload_n 3, 1) := by decide +kernel
theorem d1_72 : decode prog_5_method_8_code 72 = .ok (.ifCond .lt 63, 3) := by decide +kernel
theorem d1_75 : decode prog_5_method_8_code 75 = .ok (.iload_n 3, 1) := by decide +kernel
theorem d1_76 : decode prog_5_method_8_code 76 = .ok (.iload_n 1, 1) := by decide +kernel
theorem d1_77 : decode prog_5_method_8_code 77 = .ok (.imul, 1) := by decide +kernel
theorem d1_78 : decode prog_5_method_8_code 78 = .ok (.istore 4, 2) := by decide +kernel
theorem d1_80 : decode prog_5_method_8_code 80 = .ok (.aload_n 2, 1) := by decide +kernel
theorem d1_81 : decode prog_5_method_8_code 81 = .ok (.iload_n 3, 1) := by decide +kernel
theorem d1_82 : decode prog_5_method_8_code 82 = .ok (.daload, 1) := by decide +kernel
theorem d1_83 : decode prog_5_method_8_code 83 = .ok (.aload_n 0, 1) := by decide +kernel
theorem d1_84 : decode prog_5_method_8_code 84 = .ok (.iload 4, 2) := by decide +kernel
theorem d1_86 : decode prog_5_method_8_code 86 = .ok (.iload_n 3, 1) := by decide +kernel
theorem d1_87 : decode prog_5_method_8_code 87 = .ok (.iadd, 1) := by decide +kernel
theorem d1_88 : decode prog_5_method_8_code 88 = .ok (.daload, 1) := by decide +kernel
theorem d1_89 : decode prog_5_method_8_code 89 = .ok (.ddiv, 1) := by decide +kernel
theorem d1_90 : decode prog_5_method_8_code 90 = .ok (.dstore 5, 2) := by decide +kernel
theorem d1_92 : decode prog_5_method_8_code 92 = .ok (.aload_n 2, 1) := by decide +kernel
theorem d1_93 : decode prog_5_method_8_code 93 = .ok (.iload_n 3, 1) := by decide +kernel
theorem d1_94 : decode prog_5_method_8_code 94 = .ok (.dload 5, 2) := by decide +kernel
theorem d1_96 : decode prog_5_method_8_code 96 = .ok (.dastore, 1) := by decide +kernel
theorem d1_97 : decode prog_5_method_8_code 97 = .ok (.iconst 0, 1) := by decide +kernel
theorem d1_98 : decode prog_5_method_8_code 98 = .ok (.istore 7, 2) := by decide +kernel
theorem d1_100 : decode prog_5_method_8_code 100 = .ok (.iload 7, 2) := by decide +kernel
theorem d1_102 : decode prog_5_method_8_code 102 = .ok (.iload_n 3, 1) := by decide +kernel
theorem d1_103 : decode prog_5_method_8_code 103 = .ok (.if_icmp .ge 26, 3) := by decide +kernel
theorem d1_106 : decode prog_5_method_8_code 106 = .ok (.aload_n 2, 1) := by decide +kernel
theorem d1_107 : decode prog_5_method_8_code 107 = .ok (.iload 7, 2) := by decide +kernel
theorem d1_109 : decode prog_5_method_8_code 109 = .ok (.dup2, 1) := by decide +kernel
theorem d1_110 : decode prog_5_method_8_code 110 = .ok (.daload, 1) := by decide +kernel
theorem d1_111 : decode prog_5_method_8_code 111 = .ok (.aload_n 0, 1) := by decide +kernel
theorem d1_112 : decode prog_5_method_8_code 112 = .ok (.iload 4, 2) := by decide +kernel
theorem d1_114 : decode prog_5_method_8_code 114 = .ok (.iload 7, 2) := by decide +kernel
theorem d1_116 : decode prog_5_method_8_code 116 = .ok (.iadd, 1) := by decide +kernel
theorem d1_117 : decode prog_5_method_8_code 117 = .ok (.daload, 1) := by decide +kernel
theorem d1_118 : decode prog_5_method_8_code 118 = .ok (.dload 5, 2) := by decide +kernel
theorem d1_120 : decode prog_5_method_8_code 120 = .ok (.dmul, 1) := by decide +kernel
theorem d1_121 : decode prog_5_method_8_code 121 = .ok (.dsub, 1) := by decide +kernel
theorem d1_122 : decode prog_5_method_8_code 122 = .ok (.dastore, 1) := by decide +kernel
theorem d1_123 : decode prog_5_method_8_code 123 = .ok (.iinc 7 1, 3) := by decide +kernel
theorem d1_126 : decode prog_5_method_8_code 126 = .ok (.goto (-26), 3) := by decide +kernel
theorem d1_129 : decode prog_5_method_8_code 129 = .ok (.iinc 3 (-1), 3) := by decide +kernel
theorem d1_132 : decode prog_5_method_8_code 132 = .ok (.goto (-61), 3) := by decide +kernel
theorem d1_135 : decode prog_5_method_8_code 135 = .ok (.return_, 1) := by decide +kernel
theorem pn0 : plainName x.cls = true := by first | (simp [x, plainName, overriddenIn]; done) | decide +kernel
theorem pnS : plainName "com/example/fleetloom/fleetloom/DenseCholesky" = true := by first | (simp [plainName, overriddenIn]; done) | decide +kernel
theorem pdS : parseMethodDescriptor "([DI[D)V" = some ⟨[.array .double, .int, .array .double], none⟩ := by decide +kernel
theorem efS (m : MethodId) (a : Addr) (i : Int32) (b : Addr) : entryFrame m #[(.ref a), (.int i), (.ref b)] 8 = mkF m 0 #[.val (.ref a), .val (.int i), .val (.ref b), .unset, .unset, .unset, .unset, .unset] [] := by first | (simp [entryFrame, mkF, argsToLocals, Value.category, maxLocals]; done) | rfl
theorem ef0 (m : MethodId) (x0 x1 x2 x3 x4 x5 : Int32) : entryFrame m #[(.int x0), (.int x1), (.int x2), (.int x3), (.int x4), (.int x5)] maxLocals = mkF m 0 #[.val (.int x0), .val (.int x1), .val (.int x2), .val (.int x3), .val (.int x4), .val (.int x5), .unset, .unset, .unset, .unset, .unset, .unset, .unset, .unset, .unset, .unset, .unset, .unset, .unset, .unset, .unset, .unset, .unset, .unset, .unset, .unset, .unset, .unset, .unset, .unset, .unset, .unset, .unset, .unset, .unset, .unset, .unset, .unset, .unset, .unset, .unset, .unset] [] := by first | (simp [entryFrame, mkF, argsToLocals, Value.category, maxLocals]; done) | rfl
set_option maxRecDepth 65536 in
set_option maxHeartbeats 40000000 in
theorem c_solve1 (l : Launch) (Z : State) (h : Heap) (n0 : Nat) (Z0 : n0 ≤ h.size) (a b : Addr) (ka kb : ClassId) (hab : a ≠ b) (z_b : n0 ≤ b) (f00 v0 : UInt64) (D0 R0 Y0 U0 : Int) (hf00 : FP.Core.DInt D0 f00) (hv0 : FP.Core.DInt R0 v0) (d0n : D0 ≠ 0) (q0 : R0 = Y0 * D0) (q1 : Y0 = U0 * D0) (b0 : -1000000000000000 ≤ R0 ∧ R0 ≤ 1000000000000000) (b1 : -1000000000000000 ≤ Y0 ∧ Y0 ≤ 1000000000000000) (b2 : -1000000000000000 ≤ U0 ∧ U0 ≤ 1000000000000000) (A : Arv Z h a ka .double (1 : Int32) [.double f00] (.double (0 : UInt64))) (B : Arv Z h b kb .double (1 : Int32) [.double v0] (.double (0 : UInt64))) :
    Con l Z (⟨"com/example/fleetloom/fleetloom/DenseCholesky", "solve", "([DI[D)V"⟩ : MethodName) prog_5_method_8_code 8 none ⟨0, 0, 0, 0⟩ #[.ref a, .int (1 : Int32), .ref b] h (fun v h' L => v = none ∧ Fr n0 L ∧ Keep h h' [b] ∧ ∃ u0 : UInt64, FP.Core.DInt U0 u0 ∧ Arv Z h' b kb .double (1 : Int32) [.double u0] (.double (0 : UInt64))) := by
  refine con_of_go pnS (fun m => efS m a _ b) ?_
  intro p e s m below meth c T0 C X0 e0
  refine g_iconst C X0 (pc' := 1) d1_0 (v := (0 : Int32)) (by decide) rfl ?_
  refine g_istoreN C X0 (pc' := 2) d1_1 (x := (0 : Int32)) rfl (l' := #[.val (.ref a), .val (.int (1 : Int32)), .val (.ref b), .val (.int (0 : Int32)), .unset, .unset, .unset, .unset]) rfl rfl ?_
  refine g_iloadN C X0 (pc' := 3) d1_2 rfl rfl ?_
  refine g_iloadN C X0 (pc' := 4) d1_3 rfl rfl ?_
  refine g_icmpN C X0 d1_4 (by decide) rfl ?_
  refine g_iloadN C X0 (pc' := 8) d1_7 rfl rfl ?_
  refine g_iloadN C X0 (pc' := 9) d1_8 rfl rfl ?_
  refine g_imul C X0 (pc' := 10) d1_9 rfl ?_
  refine g_istore C X0 (pc' := 12) d1_10 (x := (0 : Int32)) (by decide) (l' := #[.val (.ref a), .val (.int (1 : Int32)), .val (.ref b), .val (.int (0 : Int32)), .val (.int (0 : Int32)), .unset, .unset, .unset]) rfl rfl ?_
  refine g_aloadN C X0 (pc' := 13) d1_12 rfl rfl rfl ?_
  refine g_iloadN C X0 (pc' := 14) d1_13 rfl rfl ?_
  refine g_daload C X0 (pc' := 15) e0 B (by decide) (by decide) 0 (by decide) rfl d1_14 rfl ?_
  refine g_dstore C X0 (pc' := 17) d1_15 (x := v0) rfl (l' := #[.val (.ref a), .val (.int (1 : Int32)), .val (.ref b), .val (.int (0 : Int32)), .val (.int (0 : Int32)), .val (.double v0), .second, .unset]) rfl rfl ?_
  refine g_iconst C X0 (pc' := 18) d1_17 (v := (0 : Int32)) (by decide) rfl ?_
  refine g_istore C X0 (pc' := 20) d1_18 (x := (0 : Int32)) rfl (l' := #[.val (.ref a), .val (.int (1 : Int32)), .val (.ref b), .val (.int (0 : Int32)), .val (.int (0 : Int32)), .val (.double v0), .second, .val (.int (0 : Int32))]) rfl rfl ?_
  refine g_iload C X0 (pc' := 22) d1_20 rfl rfl ?_
  refine g_iloadN C X0 (pc' := 23) d1_22 rfl rfl ?_
  refine g_icmpY C X0 d1_23 (pc' := 49) (by decide) (by decide) (by decide) ?_
  refine g_aloadN C X0 (pc' := 50) d1_49 rfl rfl rfl ?_
  refine g_iloadN C X0 (pc' := 51) d1_50 rfl rfl ?_
  refine g_dload C X0 (pc' := 53) d1_51 rfl rfl ?_
  refine g_aloadN C X0 (pc' := 54) d1_53 rfl rfl rfl ?_
  refine g_iload C X0 (pc' := 56) d1_54 rfl rfl ?_
  refine g_iloadN C X0 (pc' := 57) d1_56 rfl rfl ?_
  refine g_iadd C X0 (pc' := 58) d1_57 rfl ?_
  refine g_daload C X0 (pc' := 59) e0 A (by decide) (by decide) 0 (by decide) rfl d1_58 rfl ?_
  have D101 : FP.Core.DInt Y0 (FP.ddiv v0 f00) := ddiv_int hv0 hf00 d0n (by omega) (by show _ ≤ 9007199254740992; omega)
  refine g_ddiv C X0 (pc' := 60) d1_59 (nn_of_int D101) rfl ?_
  refine g_dastore C X0 (pc' := 61) e0 B (by decide) (by decide) 0 0 (by decide) (of_decide_eq_true rfl) d1_60 rfl ?_
  intro T1 h1 X1 e1 W1 Aq
  have A := A.other W1 hab
  have Z1 : n0 ≤ h1.size := by rw [W1.size]; exact Z0
  have N1 := Fr.snoc X1 (Fr.nil n0) z_b
  have P1 := (Keep.refl h [b]).wr W1 (Or.inl (List.mem_of_getElem? (i := 0) rfl))
  have B : Arv Z h1 b kb .double (1 : Int32) [(.double (FP.ddiv v0 f00))] (.double (0 : UInt64)) := Aq
  refine g_iinc C X1 (pc' := 64) d1_61 rfl (z := (1 : Int32)) (by decide) (l' := #[.val (.ref a), .val (.int (1 : Int32)), .val (.ref b), .val (.int (1 : Int32)), .val (.int (0 : Int32)), .val (.double v0), .second, .val (.int (0 : Int32))]) rfl rfl ?_
  refine g_goto C X1 d1_64 (pc' := 2) (by decide) (by decide) ?_
  refine g_iloadN C X1 (pc' := 3) d1_2 rfl rfl ?_
  refine g_iloadN C X1 (pc' := 4) d1_3 rfl rfl ?_
  refine g_icmpY C X1 d1_4 (pc' := 67) (by decide) (by decide) (by decide) ?_
  refine g_iloadN C X1 (pc' := 68) d1_67 rfl rfl ?_
  refine g_iconst C X1 (pc' := 69) d1_68 (v := (1 : Int32)) (by decide) rfl ?_
  refine g_isub C X1 (pc' := 70) d1_69 rfl ?_
  refine g_istoreN C X1 (pc' := 71) d1_70 (x := (0 : Int32)) (by decide) (l' := #[.val (.ref a), .val (.int (1 : Int32)), .val (.ref b), .val (.int (0 : Int32)), .val (.int (0 : Int32)), .val (.double v0), .second, .val (.int (0 : Int32))]) rfl rfl ?_
  refine g_iloadN C X1 (pc' := 72) d1_71 rfl rfl ?_
  refine g_ifN C X1 d1_72 (by decide) rfl ?_
  refine g_iloadN C X1 (pc' := 76) d1_75 rfl rfl ?_
  refine g_iloadN C X1 (pc' := 77) d1_76 rfl rfl ?_
  refine g_imul C X1 (pc' := 78) d1_77 rfl ?_
  refine g_istore C X1 (pc' := 80) d1_78 (x := (0 : Int32)) (by decide) (l' := #[.val (.ref a), .val (.int (1 : Int32)), .val (.ref b), .val (.int (0 : Int32)), .val (.int (0 : Int32)), .val (.double v0), .second, .val (.int (0 : Int32))]) rfl rfl ?_
  refine g_aloadN C X1 (pc' := 81) d1_80 rfl rfl rfl ?_
  refine g_iloadN C X1 (pc' := 82) d1_81 rfl rfl ?_
  refine g_daload C X1 (pc' := 83) e1 B (by decide) (by decide) 0 (by decide) rfl d1_82 rfl ?_
  refine g_aloadN C X1 (pc' := 84) d1_83 rfl rfl rfl ?_
  refine g_iload C X1 (pc' := 86) d1_84 rfl rfl ?_
  refine g_iloadN C X1 (pc' := 87) d1_86 rfl rfl ?_
  refine g_iadd C X1 (pc' := 88) d1_87 rfl ?_
  refine g_daload C X1 (pc' := 89) e1 A (by decide) (by decide) 0 (by decide) rfl d1_88 rfl ?_
  have D102 : FP.Core.DInt U0 (FP.ddiv (FP.ddiv v0 f00) f00) := ddiv_int D101 hf00 d0n (by omega) (by show _ ≤ 9007199254740992; omega)
  refine g_ddiv C X1 (pc' := 90) d1_89 (nn_of_int D102) rfl ?_
  obtain ⟨d103, e_d103⟩ : ∃ z : UInt64, z = FP.ddiv (FP.ddiv v0 f00) f00 := ⟨_, rfl⟩
  have D_d103 : FP.Core.DInt U0 d103 := e_d103 ▸ D102
  refine g_dstore C X1 (pc' := 92) d1_90 (x := d103) e_d103 (l' := #[.val (.ref a), .val (.int (1 : Int32)), .val (.ref b), .val (.int (0 : Int32)), .val (.int (0 : Int32)), .val (.double d103), .second, .val (.int (0 : Int32))]) rfl rfl ?_
  refine g_aloadN C X1 (pc' := 93) d1_92 rfl rfl rfl ?_
  refine g_iloadN C X1 (pc' := 94) d1_93 rfl rfl ?_
  refine g_dload C X1 (pc' := 96) d1_94 rfl rfl ?_
  refine g_dastore C X1 (pc' := 97) e1 B (by decide) (by decide) 0 0 (by decide) (of_decide_eq_true rfl) d1_96 rfl ?_
  intro T2 h2 X2 e2 W2 Aq
  have A := A.other W2 hab
  have Z2 : n0 ≤ h2.size := by rw [W2.size]; exact Z1
  have N2 := Fr.snoc X2 N1 z_b
  have P2 := P1.wr W2 (Or.inl (List.mem_of_getElem? (i := 0) rfl))
  have B : Arv Z h2 b kb .double (1 : Int32) [(.double d103)] (.double (0 : UInt64)) := Aq
  refine g_iconst C X2 (pc' := 98) d1_97 (v := (0 : Int32)) (by decide) rfl ?_
  refine g_istore C X2 (pc' := 100) d1_98 (x := (0 : Int32)) rfl (l' := #[.val (.ref a), .val (.int (1 : Int32)), .val (.ref b), .val (.int (0 : Int32)), .val (.int (0 : Int32)), .val (.double d103), .second, .val (.int (0 : Int32))]) rfl rfl ?_
  refine g_iload C X2 (pc' := 102) d1_100 rfl rfl ?_
  refine g_iloadN C X2 (pc' := 103) d1_102 rfl rfl ?_
  refine g_icmpY C X2 d1_103 (pc' := 129) (by decide) (by decide) (by decide) ?_
  refine g_iinc C X2 (pc' := 132) d1_129 rfl (z := (-1 : Int32)) (by decide) (l' := #[.val (.ref a), .val (.int (1 : Int32)), .val (.ref b), .val (.int (-1 : Int32)), .val (.int (0 : Int32)), .val (.double d103), .second, .val (.int (0 : Int32))]) rfl rfl ?_
  refine g_goto C X2 d1_132 (pc' := 71) (by decide) (by decide) ?_
  refine g_iloadN C X2 (pc' := 72) d1_71 rfl rfl ?_
  refine g_ifY C X2 d1_72 (pc' := 135) (by decide) (by decide) (by decide) ?_
  exact g_return C X2 d1_135 ⟨rfl, N2, by rw [e2]; exact P2, d103, D_d103, by rw [e2]; exact B⟩ (by decide) (by decide)
set_option maxRecDepth 65536 in
set_option maxHeartbeats 40000000 in
theorem c_solve2 (l : Launch) (Z : State) (h : Heap) (n0 : Nat) (Z0 : n0 ≤ h.size) (a b : Addr) (ka kb : ClassId) (hab : a ≠ b) (z_b : n0 ≤ b) (f00 f01 f10 f11 v0 v1 : UInt64) (D0 D1 L10 R0 R1 Y0 Y1 U0 U1 : Int) (hf00 : FP.Core.DInt D0 f00) (hf10 : FP.Core.DInt L10 f10) (hf11 : FP.Core.DInt D1 f11) (hv0 : FP.Core.DInt R0 v0) (hv1 : FP.Core.DInt R1 v1) (d0n : D0 ≠ 0) (d1n : D1 ≠ 0) (q0 : R0 = Y0 * D0) (q1 : R1 - L10 * Y0 = Y1 * D1) (q2 : Y1 = U1 * D1) (q3 : Y0 - L10 * U1 = U0 * D0) (b0 : -1000000000000000 ≤ R0 ∧ R0 ≤ 1000000000000000) (b1 : -1000000000000000 ≤ R1 ∧ R1 ≤ 1000000000000000) (b2 : -1000000000000000 ≤ Y0 ∧ Y0 ≤ 1000000000000000) (b3 : -1000000000000000 ≤ Y1 ∧ Y1 ≤ 1000000000000000) (b4 : -1000000000000000 ≤ U0 ∧ U0 ≤ 1000000000000000) (b5 : -1000000000000000 ≤ U1 ∧ U1 ≤ 1000000000000000) (b6 : -1000000000000000 ≤ L10 * Y0 ∧ L10 * Y0 ≤ 1000000000000000) (b7 : -1000000000000000 ≤ L10 * U1 ∧ L10 * U1 ≤ 1000000000000000) (A : Arv Z h a ka .double (4 : Int32) [.double f00, .double f01, .double f10, .double f11] (.double (0 : UInt64))) (B : Arv Z h b kb .double (2 : Int32) [.double v0, .double v1] (.double (0 : UInt64))) :
    Con l Z (⟨"com/example/fleetloom/fleetloom/DenseCholesky", "solve", "([DI[D)V"⟩ : MethodName) prog_5_method_8_code 8 none ⟨0, 0, 0, 0⟩ #[.ref a, .int (2 : Int32), .ref b] h (fun v h' L => v = none ∧ Fr n0 L ∧ Keep h h' [b] ∧ ∃ u0 u1 : UInt64, FP.Core.DInt U0 u0 ∧ FP.Core.DInt U1 u1 ∧ Arv Z h' b kb .double (2 : Int32) [.double u0, .double u1] (.double (0 : UInt64))) := by
  refine con_of_go pnS (fun m => efS m a _ b) ?_
  intro p e s m below meth c T0 C X0 e0
  refine g_iconst C X0 (pc' := 1) d1_0 (v := (0 : Int32)) (by decide) rfl ?_
  refine g_istoreN C X0 (pc' := 2) d1_1 (x := (0 : Int32)) rfl (l' := #[.val (.ref a), .val (.int (2 : Int32)), .val (.ref b), .val (.int (0 : Int32)), .unset, .unset, .unset, .unset]) rfl rfl ?_
  refine g_iloadN C X0 (pc' := 3) d1_2 rfl rfl ?_
  refine g_iloadN C X0 (pc' := 4) d1_3 rfl rfl ?_
  refine g_icmpN C X0 d1_4 (by decide) rfl ?_
  refine g_iloadN C X0 (pc' := 8) d1_7 rfl rfl ?_
  refine g_iloadN C X0 (pc' := 9) d1_8 rfl rfl ?_
  refine g_imul C X0 (pc' := 10) d1_9 rfl ?_
  refine g_istore C X0 (pc' := 12) d1_10 (x := (0 : Int32)) (by decide) (l' := #[.val (.ref a), .val (.int (2 : Int32)), .val (.ref b), .val (.int (0 : Int32)), .val (.int (0 : Int32)), .unset, .unset, .unset]) rfl rfl ?_
  refine g_aloadN C X0 (pc' := 13) d1_12 rfl rfl rfl ?_
  refine g_iloadN C X0 (pc' := 14) d1_13 rfl rfl ?_
  refine g_daload C X0 (pc' := 15) e0 B (by decide) (by decide) 0 (by decide) rfl d1_14 rfl ?_
  refine g_dstore C X0 (pc' := 17) d1_15 (x := v0) rfl (l' := #[.val (.ref a), .val (.int (2 : Int32)), .val (.ref b), .val (.int (0 : Int32)), .val (.int (0 : Int32)), .val (.double v0), .second, .unset]) rfl rfl ?_
  refine g_iconst C X0 (pc' := 18) d1_17 (v := (0 : Int32)) (by decide) rfl ?_
  refine g_istore C X0 (pc' := 20) d1_18 (x := (0 : Int32)) rfl (l' := #[.val (.ref a), .val (.int (2 : Int32)), .val (.ref b), .val (.int (0 : Int32)), .val (.int (0 : Int32)), .val (.double v0), .second, .val (.int (0 : Int32))]) rfl rfl ?_
  refine g_iload C X0 (pc' := 22) d1_20 rfl rfl ?_
  refine g_iloadN C X0 (pc' := 23) d1_22 rfl rfl ?_
  refine g_icmpY C X0 d1_23 (pc' := 49) (by decide) (by decide) (by decide) ?_
  refine g_aloadN C X0 (pc' := 50) d1_49 rfl rfl rfl ?_
  refine g_iloadN C X0 (pc' := 51) d1_50 rfl rfl ?_
  refine g_dload C X0 (pc' := 53) d1_51 rfl rfl ?_
  refine g_aloadN C X0 (pc' := 54) d1_53 rfl rfl rfl ?_
  refine g_iload C X0 (pc' := 56) d1_54 rfl rfl ?_
  refine g_iloadN C X0 (pc' := 57) d1_56 rfl rfl ?_
  refine g_iadd C X0 (pc' := 58) d1_57 rfl ?_
  refine g_daload C X0 (pc' := 59) e0 A (by decide) (by decide) 0 (by decide) rfl d1_58 rfl ?_
  have D101 : FP.Core.DInt Y0 (FP.ddiv v0 f00) := ddiv_int hv0 hf00 d0n (by omega) (by show _ ≤ 9007199254740992; omega)
  refine g_ddiv C X0 (pc' := 60) d1_59 (nn_of_int D101) rfl ?_
  refine g_dastore C X0 (pc' := 61) e0 B (by decide) (by decide) 0 0 (by decide) (of_decide_eq_true rfl) d1_60 rfl ?_
  intro T1 h1 X1 e1 W1 Aq
  have A := A.other W1 hab
  have Z1 : n0 ≤ h1.size := by rw [W1.size]; exact Z0
  have N1 := Fr.snoc X1 (Fr.nil n0) z_b
  have P1 := (Keep.refl h [b]).wr W1 (Or.inl (List.mem_of_getElem? (i := 0) rfl))
  have B : Arv Z h1 b kb .double (2 : Int32) [(.double (FP.ddiv v0 f00)), (.double v1)] (.double (0 : UInt64)) := Aq
  refine g_iinc C X1 (pc' := 64) d1_61 rfl (z := (1 : Int32)) (by decide) (l' := #[.val (.ref a), .val (.int (2 : Int32)), .val (.ref b), .val (.int (1 : Int32)), .val (.int (0 : Int32)), .val (.double v0), .second, .val (.int (0 : Int32))]) rfl rfl ?_
  refine g_goto C X1 d1_64 (pc' := 2) (by decide) (by decide) ?_
  refine g_iloadN C X1 (pc' := 3) d1_2 rfl rfl ?_
  refine g_iloadN C X1 (pc' := 4) d1_3 rfl rfl ?_
  refine g_icmpN C X1 d1_4 (by decide) rfl ?_
  refine g_iloadN C X1 (pc' := 8) d1_7 rfl rfl ?_
  refine g_iloadN C X1 (pc' := 9) d1_8 rfl rfl ?_
  refine g_imul C X1 (pc' := 10) d1_9 rfl ?_
  refine g_istore C X1 (pc' := 12) d1_10 (x := (2 : Int32)) (by decide) (l' := #[.val (.ref a), .val (.int (2 : Int32)), .val (.ref b), .val (.int (1 : Int32)), .val (.int (2 : Int32)), .val (.double v0), .second, .val (.int (0 : Int32))]) rfl rfl ?_
  refine g_aloadN C X1 (pc' := 13) d1_12 rfl rfl rfl ?_
  refine g_iloadN C X1 (pc' := 14) d1_13 rfl rfl ?_
  refine g_daload C X1 (pc' := 15) e1 B (by decide) (by decide) 1 (by decide) rfl d1_14 rfl ?_
  refine g_dstore C X1 (pc' := 17) d1_15 (x := v1) rfl (l' := #[.val (.ref a), .val (.int (2 : Int32)), .val (.ref b), .val (.int (1 : Int32)), .val (.int (2 : Int32)), .val (.double v1), .second, .val (.int (0 : Int32))]) rfl rfl ?_
  refine g_iconst C X1 (pc' := 18) d1_17 (v := (0 : Int32)) (by decide) rfl ?_
  refine g_istore C X1 (pc' := 20) d1_18 (x := (0 : Int32)) rfl (l' := #[.val (.ref a), .val (.int (2 : Int32)), .val (.ref b), .val (.int (1 : Int32)), .val (.int (2 : Int32)), .val (.double v1), .second, .val (.int (0 : Int32))]) rfl rfl ?_
  refine g_iload C X1 (pc' := 22) d1_20 rfl rfl ?_
  refine g_iloadN C X1 (pc' := 23) d1_22 rfl rfl ?_
  refine g_icmpN C X1 d1_23 (by decide) rfl ?_
  refine g_dload C X1 (pc' := 28) d1_26 rfl rfl ?_
  refine g_aloadN C X1 (pc' := 29) d1_28 rfl rfl rfl ?_
  refine g_iload C X1 (pc' := 31) d1_29 rfl rfl ?_
  refine g_iload C X1 (pc' := 33) d1_31 rfl rfl ?_
  refine g_iadd C X1 (pc' := 34) d1_33 rfl ?_
  refine g_daload C X1 (pc' := 35) e1 A (by decide) (by decide) 2 (by decide) rfl d1_34 rfl ?_
  refine g_aloadN C X1 (pc' := 36) d1_35 rfl rfl rfl ?_
  refine g_iload C X1 (pc' := 38) d1_36 rfl rfl ?_
  refine g_daload C X1 (pc' := 39) e1 B (by decide) (by decide) 0 (by decide) rfl d1_38 rfl ?_
  have D102 : FP.Core.DInt (L10 * Y0) (FP.dmul f10 (FP.ddiv v0 f00)) := dmul_D hf10 D101 (by show _ ≤ 9007199254740992; omega)
  refine g_dmul C X1 (pc' := 40) d1_39 (nn_of_int D102) rfl ?_
  have D103 : FP.Core.DInt (R1 - (L10 * Y0)) (FP.dsub v1 (FP.dmul f10 (FP.ddiv v0 f00))) := dsub_D hv1 D102 (by show _ ≤ 9007199254740992; omega)
  refine g_dsub C X1 (pc' := 41) d1_40 (nn_of_int D103) rfl ?_
  obtain ⟨d104, e_d104⟩ : ∃ z : UInt64, z = FP.dsub v1 (FP.dmul f10 (FP.ddiv v0 f00)) := ⟨_, rfl⟩
  have D_d104 : FP.Core.DInt (R1 - (L10 * Y0)) d104 := e_d104 ▸ D103
  refine g_dstore C X1 (pc' := 43) d1_41 (x := d104) e_d104 (l' := #[.val (.ref a), .val (.int (2 : Int32)), .val (.ref b), .val (.int (1 : Int32)), .val (.int (2 : Int32)), .val (.double d104), .second, .val (.int (0 : Int32))]) rfl rfl ?_
  refine g_iinc C X1 (pc' := 46) d1_43 rfl (z := (1 : Int32)) (by decide) (l' := #[.val (.ref a), .val (.int (2 : Int32)), .val (.ref b), .val (.int (1 : Int32)), .val (.int (2 : Int32)), .val (.double d104), .second, .val (.int (1 : Int32))]) rfl rfl ?_
  refine g_goto C X1 d1_46 (pc' := 20) (by decide) (by decide) ?_
  refine g_iload C X1 (pc' := 22) d1_20 rfl rfl ?_
  refine g_iloadN C X1 (pc' := 23) d1_22 rfl rfl ?_
  refine g_icmpY C X1 d1_23 (pc' := 49) (by decide) (by decide) (by decide) ?_
  refine g_aloadN C X1 (pc' := 50) d1_49 rfl rfl rfl ?_
  refine g_iloadN C X1 (pc' := 51) d1_50 rfl rfl ?_
  refine g_dload C X1 (pc' := 53) d1_51 rfl rfl ?_
  refine g_aloadN C X1 (pc' := 54) d1_53 rfl rfl rfl ?_
  refine g_iload C X1 (pc' := 56) d1_54 rfl rfl ?_
  refine g_iloadN C X1 (pc' := 57) d1_56 rfl rfl ?_
  refine g_iadd C X1 (pc' := 58) d1_57 rfl ?_
  refine g_daload C X1 (pc' := 59) e1 A (by decide) (by decide) 3 (by decide) rfl d1_58 rfl ?_
  have D105 : FP.Core.DInt Y1 (FP.ddiv d104 f11) := ddiv_int D_d104 hf11 d1n (by omega) (by show _ ≤ 9007199254740992; omega)
  refine g_ddiv C X1 (pc' := 60) d1_59 (nn_of_int D105) rfl ?_
  refine g_dastore C X1 (pc' := 61) e1 B (by decide) (by decide) 1 0 (by decide) (of_decide_eq_true rfl) d1_60 rfl ?_
  intro T2 h2 X2 e2 W2 Aq
  have A := A.other W2 hab
  have Z2 : n0 ≤ h2.size := by rw [W2.size]; exact Z1
  have N2 := Fr.snoc X2 N1 z_b
  have P2 := P1.wr W2 (Or.inl (List.mem_of_getElem? (i := 0) rfl))
  have B : Arv Z h2 b kb .double (2 : Int32) [(.double (FP.ddiv v0 f00)), (.double (FP.ddiv d104 f11))] (.double (0 : UInt64)) := Aq
  refine g_iinc C X2 (pc' := 64) d1_61 rfl (z := (2 : Int32)) (by decide) (l' := #[.val (.ref a), .val (.int (2 : Int32)), .val (.ref b), .val (.int (2 : Int32)), .val (.int (2 : Int32)), .val (.double d104), .second, .val (.int (1 : Int32))]) rfl rfl ?_
  refine g_goto C X2 d1_64 (pc' := 2) (by decide) (by decide) ?_
  refine g_iloadN C X2 (pc' := 3) d1_2 rfl rfl ?_
  refine g_iloadN C X2 (pc' := 4) d1_3 rfl rfl ?_
  refine g_icmpY C X2 d1_4 (pc' := 67) (by decide) (by decide) (by decide) ?_
  refine g_iloadN C X2 (pc' := 68) d1_67 rfl rfl ?_
  refine g_iconst C X2 (pc' := 69) d1_68 (v := (1 : Int32)) (by decide) rfl ?_
  refine g_isub C X2 (pc' := 70) d1_69 rfl ?_
  refine g_istoreN C X2 (pc' := 71) d1_70 (x := (1 : Int32)) (by decide) (l' := #[.val (.ref a), .val (.int (2 : Int32)), .val (.ref b), .val (.int (1 : Int32)), .val (.int (2 : Int32)), .val (.double d104), .second, .val (.int (1 : Int32))]) rfl rfl ?_
  refine g_iloadN C X2 (pc' := 72) d1_71 rfl rfl ?_
  refine g_ifN C X2 d1_72 (by decide) rfl ?_
  refine g_iloadN C X2 (pc' := 76) d1_75 rfl rfl ?_
  refine g_iloadN C X2 (pc' := 77) d1_76 rfl rfl ?_
  refine g_imul C X2 (pc' := 78) d1_77 rfl ?_
  refine g_istore C X2 (pc' := 80) d1_78 (x := (2 : Int32)) (by decide) (l' := #[.val (.ref a), .val (.int (2 : Int32)), .val (.ref b), .val (.int (1 : Int32)), .val (.int (2 : Int32)), .val (.double d104), .second, .val (.int (1 : Int32))]) rfl rfl ?_
  refine g_aloadN C X2 (pc' := 81) d1_80 rfl rfl rfl ?_
  refine g_iloadN C X2 (pc' := 82) d1_81 rfl rfl ?_
  refine g_daload C X2 (pc' := 83) e2 B (by decide) (by decide) 1 (by decide) rfl d1_82 rfl ?_
  refine g_aloadN C X2 (pc' := 84) d1_83 rfl rfl rfl ?_
  refine g_iload C X2 (pc' := 86) d1_84 rfl rfl ?_
  refine g_iloadN C X2 (pc' := 87) d1_86 rfl rfl ?_
  refine g_iadd C X2 (pc' := 88) d1_87 rfl ?_
  refine g_daload C X2 (pc' := 89) e2 A (by decide) (by decide) 3 (by decide) rfl d1_88 rfl ?_
  have D106 : FP.Core.DInt U1 (FP.ddiv (FP.ddiv d104 f11) f11) := ddiv_int D105 hf11 d1n (by omega) (by show _ ≤ 9007199254740992; omega)
  refine g_ddiv C X2 (pc' := 90) d1_89 (nn_of_int D106) rfl ?_
  obtain ⟨d107, e_d107⟩ : ∃ z : UInt64, z = FP.ddiv (FP.ddiv d104 f11) f11 := ⟨_, rfl⟩
  have D_d107 : FP.Core.DInt U1 d107 := e_d107 ▸ D106
  refine g_dstore C X2 (pc' := 92) d1_90 (x := d107) e_d107 (l' := #[.val (.ref a), .val (.int (2 : Int32)), .val (.ref b), .val (.int (1 : Int32)), .val (.int (2 : Int32)), .val (.double d107), .second, .val (.int (1 : Int32))]) rfl rfl ?_
  refine g_aloadN C X2 (pc' := 93) d1_92 rfl rfl rfl ?_
  refine g_iloadN C X2 (pc' := 94) d1_93 rfl rfl ?_
  refine g_dload C X2 (pc' := 96) d1_94 rfl rfl ?_
  refine g_dastore C X2 (pc' := 97) e2 B (by decide) (by decide) 1 0 (by decide) (of_decide_eq_true rfl) d1_96 rfl ?_
  intro T3 h3 X3 e3 W3 Aq
  have A := A.other W3 hab
  have Z3 : n0 ≤ h3.size := by rw [W3.size]; exact Z2
  have N3 := Fr.snoc X3 N2 z_b
  have P3 := P2.wr W3 (Or.inl (List.mem_of_getElem? (i := 0) rfl))
  have B : Arv Z h3 b kb .double (2 : Int32) [(.double (FP.ddiv v0 f00)), (.double d107)] (.double (0 : UInt64)) := Aq
  refine g_iconst C X3 (pc' := 98) d1_97 (v := (0 : Int32)) (by decide) rfl ?_
  refine g_istore C X3 (pc' := 100) d1_98 (x := (0 : Int32)) rfl (l' := #[.val (.ref a), .val (.int (2 : Int32)), .val (.ref b), .val (.int (1 : Int32)), .val (.int (2 : Int32)), .val (.double d107), .second, .val (.int (0 : Int32))]) rfl rfl ?_
  refine g_iload C X3 (pc' := 102) d1_100 rfl rfl ?_
  refine g_iloadN C X3 (pc' := 103) d1_102 rfl rfl ?_
  refine g_icmpN C X3 d1_103 (by decide) rfl ?_
  refine g_aloadN C X3 (pc' := 107) d1_106 rfl rfl rfl ?_
  refine g_iload C X3 (pc' := 109) d1_107 rfl rfl ?_
  refine g_dup2 C X3 (pc' := 110) d1_109 rfl rfl rfl ?_
  refine g_daload C X3 (pc' := 111) e3 B (by decide) (by decide) 0 (by decide) rfl d1_110 rfl ?_
  refine g_aloadN C X3 (pc' := 112) d1_111 rfl rfl rfl ?_
  refine g_iload C X3 (pc' := 114) d1_112 rfl rfl ?_
  refine g_iload C X3 (pc' := 116) d1_114 rfl rfl ?_
  refine g_iadd C X3 (pc' := 117) d1_116 rfl ?_
  refine g_daload C X3 (pc' := 118) e3 A (by decide) (by decide) 2 (by decide) rfl d1_117 rfl ?_
  refine g_dload C X3 (pc' := 120) d1_118 rfl rfl ?_
  have D108 : FP.Core.DInt (L10 * U1) (FP.dmul f10 d107) := dmul_D hf10 D_d107 (by show _ ≤ 9007199254740992; omega)
  refine g_dmul C X3 (pc' := 121) d1_120 (nn_of_int D108) rfl ?_
  have D109 : FP.Core.DInt (Y0 - (L10 * U1)) (FP.dsub (FP.ddiv v0 f00) (FP.dmul f10 d107)) := dsub_D D101 D108 (by show _ ≤ 9007199254740992; omega)
  refine g_dsub C X3 (pc' := 122) d1_121 (nn_of_int D109) rfl ?_
  obtain ⟨d110, e_d110⟩ : ∃ z : UInt64, z = FP.dsub (FP.ddiv v0 f00) (FP.dmul f10 d107) := ⟨_, rfl⟩
  have D_d110 : FP.Core.DInt (Y0 - (L10 * U1)) d110 := e_d110 ▸ D109
  rw [← e_d110]
  refine g_dastore C X3 (pc' := 123) e3 B (by decide) (by decide) 0 0 (by decide) (of_decide_eq_true rfl) d1_122 rfl ?_
  intro T4 h4 X4 e4 W4 Aq
  have A := A.other W4 hab
  have Z4 : n0 ≤ h4.size := by rw [W4.size]; exact Z3
  have N4 := Fr.snoc X4 N3 z_b
  have P4 := P3.wr W4 (Or.inl (List.mem_of_getElem? (i := 0) rfl))
  have B : Arv Z h4 b kb .double (2 : Int32) [(.double d110), (.double d107)] (.double (0 : UInt64)) := Aq
  refine g_iinc C X4 (pc' := 126) d1_123 rfl (z := (1 : Int32)) (by decide) (l' := #[.val (.ref a), .val (.int (2 : Int32)), .val (.ref b), .val (.int (1 : Int32)), .val (.int (2 : Int32)), .val (.double d107), .second, .val (.int (1 : Int32))]) rfl rfl ?_
  refine g_goto C X4 d1_126 (pc' := 100) (by decide) (by decide) ?_
  refine g_iload C X4 (pc' := 102) d1_100 rfl rfl ?_
  refine g_iloadN C X4 (pc' := 103) d1_102 rfl rfl ?_
  refine g_icmpY C X4 d1_103 (pc' := 129) (by decide) (by decide) (by decide) ?_
  refine g_iinc C X4 (pc' := 132) d1_129 rfl (z := (0 : Int32)) (by decide) (l' := #[.val (.ref a), .val (.int (2 : Int32)), .val (.ref b), .val (.int (0 : Int32)), .val (.int (2 : Int32)), .val (.double d107), .second, .val (.int (1 : Int32))]) rfl rfl ?_
  refine g_goto C X4 d1_132 (pc' := 71) (by decide) (by decide) ?_
  refine g_iloadN C X4 (pc' := 72) d1_71 rfl rfl ?_
  refine g_ifN C X4 d1_72 (by decide) rfl ?_
  refine g_iloadN C X4 (pc' := 76) d1_75 rfl rfl ?_
  refine g_iloadN C X4 (pc' := 77) d1_76 rfl rfl ?_
  refine g_imul C X4 (pc' := 78) d1_77 rfl ?_
  refine g_istore C X4 (pc' := 80) d1_78 (x := (0 : Int32)) (by decide) (l' := #[.val (.ref a), .val (.int (2 : Int32)), .val (.ref b), .val (.int (0 : Int32)), .val (.int (0 : Int32)), .val (.double d107), .second, .val (.int (1 : Int32))]) rfl rfl ?_
  refine g_aloadN C X4 (pc' := 81) d1_80 rfl rfl rfl ?_
  refine g_iloadN C X4 (pc' := 82) d1_81 rfl rfl ?_
  refine g_daload C X4 (pc' := 83) e4 B (by decide) (by decide) 0 (by decide) rfl d1_82 rfl ?_
  refine g_aloadN C X4 (pc' := 84) d1_83 rfl rfl rfl ?_
  refine g_iload C X4 (pc' := 86) d1_84 rfl rfl ?_
  refine g_iloadN C X4 (pc' := 87) d1_86 rfl rfl ?_
  refine g_iadd C X4 (pc' := 88) d1_87 rfl ?_
  refine g_daload C X4 (pc' := 89) e4 A (by decide) (by decide) 0 (by decide) rfl d1_88 rfl ?_
  have D111 : FP.Core.DInt U0 (FP.ddiv d110 f00) := ddiv_int D_d110 hf00 d0n (by omega) (by show _ ≤ 9007199254740992; omega)
  refine g_ddiv C X4 (pc' := 90) d1_89 (nn_of_int D111) rfl ?_
  obtain ⟨d112, e_d112⟩ : ∃ z : UInt64, z = FP.ddiv d110 f00 := ⟨_, rfl⟩
  have D_d112 : FP.Core.DInt U0 d112 := e_d112 ▸ D111
  refine g_dstore C X4 (pc' := 92) d1_90 (x := d112) e_d112 (l' := #[.val (.ref a), .val (.int (2 : Int32)), .val (.ref b), .val (.int (0 : Int32)), .val (.int (0 : Int32)), .val (.double d112), .second, .val (.int (1 : Int32))]) rfl rfl ?_
  refine g_aloadN C X4 (pc' := 93) d1_92 rfl rfl rfl ?_
  refine g_iloadN C X4 (pc' := 94) d1_93 rfl rfl ?_
  refine g_dload C X4 (pc' := 96) d1_94 rfl rfl ?_
  refine g_dastore C X4 (pc' := 97) e4 B (by decide) (by decide) 0 0 (by decide) (of_decide_eq_true rfl) d1_96 rfl ?_
  intro T5 h5 X5 e5 W5 Aq
  have A := A.other W5 hab
  have Z5 : n0 ≤ h5.size := by rw [W5.size]; exact Z4
  have N5 := Fr.snoc X5 N4 z_b
  have P5 := P4.wr W5 (Or.inl (List.mem_of_getElem? (i := 0) rfl))
  have B : Arv Z h5 b kb .double (2 : Int32) [(.double d112), (.double d107)] (.double (0 : UInt64)) := Aq
  refine g_iconst C X5 (pc' := 98) d1_97 (v := (0 : Int32)) (by decide) rfl ?_
  refine g_istore C X5 (pc' := 100) d1_98 (x := (0 : Int32)) rfl (l' := #[.val (.ref a), .val (.int (2 : Int32)), .val (.ref b), .val (.int (0 : Int32)), .val (.int (0 : Int32)), .val (.double d112), .second, .val (.int (0 : Int32))]) rfl rfl ?_
  refine g_iload C X5 (pc' := 102) d1_100 rfl rfl ?_
  refine g_iloadN C X5 (pc' := 103) d1_102 rfl rfl ?_
  refine g_icmpY C X5 d1_103 (pc' := 129) (by decide) (by decide) (by decide) ?_
  refine g_iinc C X5 (pc' := 132) d1_129 rfl (z := (-1 : Int32)) (by decide) (l' := #[.val (.ref a), .val (.int (2 : Int32)), .val (.ref b), .val (.int (-1 : Int32)), .val (.int (0 : Int32)), .val (.double d112), .second, .val (.int (0 : Int32))]) rfl rfl ?_
  refine g_goto C X5 d1_132 (pc' := 71) (by decide) (by decide) ?_
  refine g_iloadN C X5 (pc' := 72) d1_71 rfl rfl ?_
  refine g_ifY C X5 d1_72 (pc' := 135) (by decide) (by decide) (by decide) ?_
  exact g_return C X5 d1_135 ⟨rfl, N5, by rw [e5]; exact P5, d112, d107, D_d112, D_d107, by rw [e5]; exact B⟩ (by decide) (by decide)
set_option maxRecDepth 65536 in
set_option maxHeartbeats 40000000 in
theorem c_solve3 (l : Launch) (Z : State) (h : Heap) (n0 : Nat) (Z0 : n0 ≤ h.size) (a b : Addr) (ka kb : ClassId) (hab : a ≠ b) (z_b : n0 ≤ b) (f00 f01 f02 f10 f11 f12 f20 f21 f22 v0 v1 v2 : UInt64) (D0 D1 D2 L10 L20 L21 R0 R1 R2 Y0 Y1 Y2 U0 U1 U2 : Int) (hf00 : FP.Core.DInt D0 f00) (hf10 : FP.Core.DInt L10 f10) (hf11 : FP.Core.DInt D1 f11) (hf20 : FP.Core.DInt L20 f20) (hf21 : FP.Core.DInt L21 f21) (hf22 : FP.Core.DInt D2 f22) (hv0 : FP.Core.DInt R0 v0) (hv1 : FP.Core.DInt R1 v1) (hv2 : FP.Core.DInt R2 v2) (d0n : D0 ≠ 0) (d1n : D1 ≠ 0) (d2n : D2 ≠ 0) (q0 : R0 = Y0 * D0) (q1 : R1 - L10 * Y0 = Y1 * D1) (q2 : R2 - L20 * Y0 - L21 * Y1 = Y2 * D2) (q3 : Y2 = U2 * D2) (q4 : Y1 - L21 * U2 = U1 * D1) (q5 : Y0 - L20 * U2 - L10 * U1 = U0 * D0) (b0 : -1000000000000000 ≤ R0 ∧ R0 ≤ 1000000000000000) (b1 : -1000000000000000 ≤ R1 ∧ R1 ≤ 1000000000000000) (b2 : -1000000000000000 ≤ R2 ∧ R2 ≤ 1000000000000000) (b3 : -1000000000000000 ≤ Y0 ∧ Y0 ≤ 1000000000000000) (b4 : -1000000000000000 ≤ Y1 ∧ Y1 ≤ 1000000000000000) (b5 : -1000000000000000 ≤ Y2 ∧ Y2 ≤ 1000000000000000) (b6 : -1000000000000000 ≤ U0 ∧ U0 ≤ 1000000000000000) (b7 : -1000000000000000 ≤ U1 ∧ U1 ≤ 1000000000000000) (b8 : -1000000000000000 ≤ U2 ∧ U2 ≤ 1000000000000000) (b9 : -1000000000000000 ≤ L10 * Y0 ∧ L10 * Y0 ≤ 1000000000000000) (b10 : -1000000000000000 ≤ L20 * Y0 ∧ L20 * Y0 ≤ 1000000000000000) (b11 : -1000000000000000 ≤ L21 * Y1 ∧ L21 * Y1 ≤ 1000000000000000) (b12 : -1000000000000000 ≤ L20 * U2 ∧ L20 * U2 ≤ 1000000000000000) (b13 : -1000000000000000 ≤ L21 * U2 ∧ L21 * U2 ≤ 1000000000000000) (b14 : -1000000000000000 ≤ L10 * U1 ∧ L10 * U1 ≤ 1000000000000000) (A : Arv Z h a ka .double (9 : Int32) [.double f00, .double f01, .double f02, .double f10, .double f11, .double f12, .double f20, .double f21, .double f22] (.double (0 : UInt64))) (B : Arv Z h b kb .double (3 : Int32) [.double v0, .double v1, .double v2] (.double (0 : UInt64))) :
    Con l Z (⟨"com/example/fleetloom/fleetloom/DenseCholesky", "solve", "([DI[D)V"⟩ : MethodName) prog_5_method_8_code 8 none ⟨0, 0, 0, 0⟩ #[.ref a, .int (3 : Int32), .ref b] h (fun v h' L => v = none ∧ Fr n0 L ∧ Keep h h' [b] ∧ ∃ u0 u1 u2 : UInt64, FP.Core.DInt U0 u0 ∧ FP.Core.DInt U1 u1 ∧ FP.Core.DInt U2 u2 ∧ Arv Z h' b kb .double (3 : Int32) [.double u0, .double u1, .double u2] (.double (0 : UInt64))) := by
  refine con_of_go pnS (fun m => efS m a _ b) ?_
  intro p e s m below meth c T0 C X0 e0
  refine g_iconst C X0 (pc' := 1) d1_0 (v := (0 : Int32)) (by decide) rfl ?_
  refine g_istoreN C X0 (pc' := 2) d1_1 (x := (0 : Int32)) rfl (l' := #[.val (.ref a), .val (.int (3 : Int32)), .val (.ref b), .val (.int (0 : Int32)), .unset, .unset, .unset, .unset]) rfl rfl ?_
  refine g_iloadN C X0 (pc' := 3) d1_2 rfl rfl ?_
  refine g_iloadN C X0 (pc' := 4) d1_3 rfl rfl ?_
  refine g_icmpN C X0 d1_4 (by decide) rfl ?_
  refine g_iloadN C X0 (pc' := 8) d1_7 rfl rfl ?_
  refine g_iloadN C X0 (pc' := 9) d1_8 rfl rfl ?_
  refine g_imul C X0 (pc' := 10) d1_9 rfl ?_
  refine g_istore C X0 (pc' := 12) d1_10 (x := (0 : Int32)) (by decide) (l' := #[.val (.ref a), .val (.int (3 : Int32)), .val (.ref b), .val (.int (0 : Int32)), .val (.int (0 : Int32)), .unset, .unset, .unset]) rfl rfl ?_
  refine g_aloadN C X0 (pc' := 13) d1_12 rfl rfl rfl ?_
  refine g_iloadN C X0 (pc' := 14) d1_13 rfl rfl ?_
  refine g_daload C X0 (pc' := 15) e0 B (by decide) (by decide) 0 (by decide) rfl d1_14 rfl ?_
  refine g_dstore C X0 (pc' := 17) d1_15 (x := v0) rfl (l' := #[.val (.ref a), .val (.int (3 : Int32)), .val (.ref b), .val (.int (0 : Int32)), .val (.int (0 : Int32)), .val (.double v0), .second, .unset]) rfl rfl ?_
  refine g_iconst C X0 (pc' := 18) d1_17 (v := (0 : Int32)) (by decide) rfl ?_
  refine g_istore C X0 (pc' := 20) d1_18 (x := (0 : Int32)) rfl (l' := #[.val (.ref a), .val (.int (3 : Int32)), .val (.ref b), .val (.int (0 : Int32)), .val (.int (0 : Int32)), .val (.double v0), .second, .val (.int (0 : Int32))]) rfl rfl ?_
  refine g_iload C X0 (pc' := 22) d1_20 rfl rfl ?_
  refine g_iloadN C X0 (pc' := 23) d1_22 rfl rfl ?_
  refine g_icmpY C X0 d1_23 (pc' := 49) (by decide) (by decide) (by decide) ?_
  refine g_aloadN C X0 (pc' := 50) d1_49 rfl rfl rfl ?_
  refine g_iloadN C X0 (pc' := 51) d1_50 rfl rfl ?_
  refine g_dload C X0 (pc' := 53) d1_51 rfl rfl ?_
  refine g_aloadN C X0 (pc' := 54) d1_53 rfl rfl rfl ?_
  refine g_iload C X0 (pc' := 56) d1_54 rfl rfl ?_
  refine g_iloadN C X0 (pc' := 57) d1_56 rfl rfl ?_
  refine g_iadd C X0 (pc' := 58) d1_57 rfl ?_
  refine g_daload C X0 (pc' := 59) e0 A (by decide) (by decide) 0 (by decide) rfl d1_58 rfl ?_
  have D101 : FP.Core.DInt Y0 (FP.ddiv v0 f00) := ddiv_int hv0 hf00 d0n (by omega) (by show _ ≤ 9007199254740992; omega)
  refine g_ddiv C X0 (pc' := 60) d1_59 (nn_of_int D101) rfl ?_
  refine g_dastore C X0 (pc' := 61) e0 B (by decide) (by decide) 0 0 (by decide) (of_decide_eq_true rfl) d1_60 rfl ?_
  intro T1 h1 X1 e1 W1 Aq
  have A := A.other W1 hab
  have Z1 : n0 ≤ h1.size := by rw [W1.size]; exact Z0
  have N1 := Fr.snoc X1 (Fr.nil n0) z_b
  have P1 := (Keep.refl h [b]).wr W1 (Or.inl (List.mem_of_getElem? (i := 0) rfl))
  have B : Arv Z h1 b kb .double (3 : Int32) [(.double (FP.ddiv v0 f00)), (.double v1), (.double v2)] (.double (0 : UInt64)) := Aq
  refine g_iinc C X1 (pc' := 64) d1_61 rfl (z := (1 : Int32)) (by decide) (l' := #[.val (.ref a), .val (.int (3 : Int32)), .val (.ref b), .val (.int (1 : Int32)), .val (.int (0 : Int32)), .val (.double v0), .second, .val (.int (0 : Int32))]) rfl rfl ?_
  refine g_goto C X1 d1_64 (pc' := 2) (by decide) (by decide) ?_
  refine g_iloadN C X1 (pc' := 3) d1_2 rfl rfl ?_
  refine g_iloadN C X1 (pc' := 4) d1_3 rfl rfl ?_
  refine g_icmpN C X1 d1_4 (by decide) rfl ?_
  refine g_iloadN C X1 (pc' := 8) d1_7 rfl rfl ?_
  refine g_iloadN C X1 (pc' := 9) d1_8 rfl rfl ?_
  refine g_imul C X1 (pc' := 10) d1_9 rfl ?_
  refine g_istore C X1 (pc' := 12) d1_10 (x := (3 : Int32)) (by decide) (l' := #[.val (.ref a), .val (.int (3 : Int32)), .val (.ref b), .val (.int (1 : Int32)), .val (.int (3 : Int32)), .val (.double v0), .second, .val (.int (0 : Int32))]) rfl rfl ?_
  refine g_aloadN C X1 (pc' := 13) d1_12 rfl rfl rfl ?_
  refine g_iloadN C X1 (pc' := 14) d1_13 rfl rfl ?_
  refine g_daload C X1 (pc' := 15) e1 B (by decide) (by decide) 1 (by decide) rfl d1_14 rfl ?_
  refine g_dstore C X1 (pc' := 17) d1_15 (x := v1) rfl (l' := #[.val (.ref a), .val (.int (3 : Int32)), .val (.ref b), .val (.int (1 : Int32)), .val (.int (3 : Int32)), .val (.double v1), .second, .val (.int (0 : Int32))]) rfl rfl ?_
  refine g_iconst C X1 (pc' := 18) d1_17 (v := (0 : Int32)) (by decide) rfl ?_
  refine g_istore C X1 (pc' := 20) d1_18 (x := (0 : Int32)) rfl (l' := #[.val (.ref a), .val (.int (3 : Int32)), .val (.ref b), .val (.int (1 : Int32)), .val (.int (3 : Int32)), .val (.double v1), .second, .val (.int (0 : Int32))]) rfl rfl ?_
  refine g_iload C X1 (pc' := 22) d1_20 rfl rfl ?_
  refine g_iloadN C X1 (pc' := 23) d1_22 rfl rfl ?_
  refine g_icmpN C X1 d1_23 (by decide) rfl ?_
  refine g_dload C X1 (pc' := 28) d1_26 rfl rfl ?_
  refine g_aloadN C X1 (pc' := 29) d1_28 rfl rfl rfl ?_
  refine g_iload C X1 (pc' := 31) d1_29 rfl rfl ?_
  refine g_iload C X1 (pc' := 33) d1_31 rfl rfl ?_
  refine g_iadd C X1 (pc' := 34) d1_33 rfl ?_
  refine g_daload C X1 (pc' := 35) e1 A (by decide) (by decide) 3 (by decide) rfl d1_34 rfl ?_
  refine g_aloadN C X1 (pc' := 36) d1_35 rfl rfl rfl ?_
  refine g_iload C X1 (pc' := 38) d1_36 rfl rfl ?_
  refine g_daload C X1 (pc' := 39) e1 B (by decide) (by decide) 0 (by decide) rfl d1_38 rfl ?_
  have D102 : FP.Core.DInt (L10 * Y0) (FP.dmul f10 (FP.ddiv v0 f00)) := dmul_D hf10 D101 (by show _ ≤ 9007199254740992; omega)
  refine g_dmul C X1 (pc' := 40) d1_39 (nn_of_int D102) rfl ?_
  have D103 : FP.Core.DInt (R1 - (L10 * Y0)) (FP.dsub v1 (FP.dmul f10 (FP.ddiv v0 f00))) := dsub_D hv1 D102 (by show _ ≤ 9007199254740992; omega)
  refine g_dsub C X1 (pc' := 41) d1_40 (nn_of_int D103) rfl ?_
  obtain ⟨d104, e_d104⟩ : ∃ z : UInt64, z = FP.dsub v1 (FP.dmul f10 (FP.ddiv v0 f00)) := ⟨_, rfl⟩
  have D_d104 : FP.Core.DInt (R1 - (L10 * Y0)) d104 := e_d104 ▸ D103
  refine g_dstore C X1 (pc' := 43) d1_41 (x := d104) e_d104 (l' := #[.val (.ref a), .val (.int (3 : Int32)), .val (.ref b), .val (.int (1 : Int32)), .val (.int (3 : Int32)), .val (.double d104), .second, .val (.int (0 : Int32))]) rfl rfl ?_
  refine g_iinc C X1 (pc' := 46) d1_43 rfl (z := (1 : Int32)) (by decide) (l' := #[.val (.ref a), .val (.int (3 : Int32)), .val (.ref b), .val (.int (1 : Int32)), .val (.int (3 : Int32)), .val (.double d104), .second, .val (.int (1 : Int32))]) rfl rfl ?_
  refine g_goto C X1 d1_46 (pc' := 20) (by decide) (by decide) ?_
  refine g_iload C X1 (pc' := 22) d1_20 rfl rfl ?_
  refine g_iloadN C X1 (pc' := 23) d1_22 rfl rfl ?_
  refine g_icmpY C X1 d1_23 (pc' := 49) (by decide) (by decide) (by decide) ?_
  refine g_aloadN C X1 (pc' := 50) d1_49 rfl rfl rfl ?_
  refine g_iloadN C X1 (pc' := 51) d1_50 rfl rfl ?_
  refine g_dload C X1 (pc' := 53) d1_51 rfl rfl ?_
  refine g_aloadN C X1 (pc' := 54) d1_53 rfl rfl rfl ?_
  refine g_iload C X1 (pc' := 56) d1_54 rfl rfl ?_
  refine g_iloadN C X1 (pc' := 57) d1_56 rfl rfl ?_
  refine g_iadd C X1 (pc' := 58) d1_57 rfl ?_
  refine g_daload C X1 (pc' := 59) e1 A (by decide) (by decide) 4 (by decide) rfl d1_58 rfl ?_
  have D105 : FP.Core.DInt Y1 (FP.ddiv d104 f11) := ddiv_int D_d104 hf11 d1n (by omega) (by show _ ≤ 9007199254740992; omega)
  refine g_ddiv C X1 (pc' := 60) d1_59 (nn_of_int D105) rfl ?_
  refine g_dastore C X1 (pc' := 61) e1 B (by decide) (by decide) 1 0 (by decide) (of_decide_eq_true rfl) d1_60 rfl ?_
  intro T2 h2 X2 e2 W2 Aq
  have A := A.other W2 hab
  have Z2 : n0 ≤ h2.size := by rw [W2.size]; exact Z1
  have N2 := Fr.snoc X2 N1 z_b
  have P2 := P1.wr W2 (Or.inl (List.mem_of_getElem? (i := 0) rfl))
  have B : Arv Z h2 b kb .double (3 : Int32) [(.double (FP.ddiv v0 f00)), (.double (FP.ddiv d104 f11)), (.double v2)] (.double (0 : UInt64)) := Aq
  refine g_iinc C X2 (pc' := 64) d1_61 rfl (z := (2 : Int32)) (by decide) (l' := #[.val (.ref a), .val (.int (3 : Int32)), .val (.ref b), .val (.int (2 : Int32)), .val (.int (3 : Int32)), .val (.double d104), .second, .val (.int (1 : Int32))]) rfl rfl ?_
  refine g_goto C X2 d1_64 (pc' := 2) (by decide) (by decide) ?_
  refine g_iloadN C X2 (pc' := 3) d1_2 rfl rfl ?_
  refine g_iloadN C X2 (pc' := 4) d1_3 rfl rfl ?_
  refine g_icmpN C X2 d1_4 (by decide) rfl ?_
  refine g_iloadN C X2 (pc' := 8) d1_7 rfl rfl ?_
  refine g_iloadN C X2 (pc' := 9) d1_8 rfl rfl ?_
  refine g_imul C X2 (pc' := 10) d1_9 rfl ?_
  refine g_istore C X2 (pc' := 12) d1_10 (x := (6 : Int32)) (by decide) (l' := #[.val (.ref a), .val (.int (3 : Int32)), .val (.ref b), .val (.int (2 : Int32)), .val (.int (6 : Int32)), .val (.double d104), .second, .val (.int (1 : Int32))]) rfl rfl ?_
  refine g_aloadN C X2 (pc' := 13) d1_12 rfl rfl rfl ?_
  refine g_iloadN C X2 (pc' := 14) d1_13 rfl rfl ?_
  refine g_daload C X2 (pc' := 15) e2 B (by decide) (by decide) 2 (by decide) rfl d1_14 rfl ?_
  refine g_dstore C X2 (pc' := 17) d1_15 (x := v2) rfl (l' := #[.val (.ref a), .val (.int (3 : Int32)), .val (.ref b), .val (.int (2 : Int32)), .val (.int (6 : Int32)), .val (.double v2), .second, .val (.int (1 : Int32))]) rfl rfl ?_
  refine g_iconst C X2 (pc' := 18) d1_17 (v := (0 : Int32)) (by decide) rfl ?_
  refine g_istore C X2 (pc' := 20) d1_18 (x := (0 : Int32)) rfl (l' := #[.val (.ref a), .val (.int (3 : Int32)), .val (.ref b), .val (.int (2 : Int32)), .val (.int (6 : Int32)), .val (.double v2), .second, .val (.int (0 : Int32))]) rfl rfl ?_
  refine g_iload C X2 (pc' := 22) d1_20 rfl rfl ?_
  refine g_iloadN C X2 (pc' := 23) d1_22 rfl rfl ?_
  refine g_icmpN C X2 d1_23 (by decide) rfl ?_
  refine g_dload C X2 (pc' := 28) d1_26 rfl rfl ?_
  refine g_aloadN C X2 (pc' := 29) d1_28 rfl rfl rfl ?_
  refine g_iload C X2 (pc' := 31) d1_29 rfl rfl ?_
  refine g_iload C X2 (pc' := 33) d1_31 rfl rfl ?_
  refine g_iadd C X2 (pc' := 34) d1_33 rfl ?_
  refine g_daload C X2 (pc' := 35) e2 A (by decide) (by decide) 6 (by decide) rfl d1_34 rfl ?_
  refine g_aloadN C X2 (pc' := 36) d1_35 rfl rfl rfl ?_
  refine g_iload C X2 (pc' := 38) d1_36 rfl rfl ?_
  refine g_daload C X2 (pc' := 39) e2 B (by decide) (by decide) 0 (by decide) rfl d1_38 rfl ?_
  have D106 : FP.Core.DInt (L20 * Y0) (FP.dmul f20 (FP.ddiv v0 f00)) := dmul_D hf20 D101 (by show _ ≤ 9007199254740992; omega)
  refine g_dmul C X2 (pc' := 40) d1_39 (nn_of_int D106) rfl ?_
  have D107 : FP.Core.DInt (R2 - (L20 * Y0)) (FP.dsub v2 (FP.dmul f20 (FP.ddiv v0 f00))) := dsub_D hv2 D106 (by show _ ≤ 9007199254740992; omega)
  refine g_dsub C X2 (pc' := 41) d1_40 (nn_of_int D107) rfl ?_
  obtain ⟨d108, e_d108⟩ : ∃ z : UInt64, z = FP.dsub v2 (FP.dmul f20 (FP.ddiv v0 f00)) := ⟨_, rfl⟩
  have D_d108 : FP.Core.DInt (R2 - (L20 * Y0)) d108 := e_d108 ▸ D107
  refine g_dstore C X2 (pc' := 43) d1_41 (x := d108) e_d108 (l' := #[.val (.ref a), .val (.int (3 : Int32)), .val (.ref b), .val (.int (2 : Int32)), .val (.int (6 : Int32)), .val (.double d108), .second, .val (.int (0 : Int32))]) rfl rfl ?_
  refine g_iinc C X2 (pc' := 46) d1_43 rfl (z := (1 : Int32)) (by decide) (l' := #[.val (.ref a), .val (.int (3 : Int32)), .val (.ref b), .val (.int (2 : Int32)), .val (.int (6 : Int32)), .val (.double d108), .second, .val (.int (1 : Int32))]) rfl rfl ?_
  refine g_goto C X2 d1_46 (pc' := 20) (by decide) (by decide) ?_
  refine g_iload C X2 (pc' := 22) d1_20 rfl rfl ?_
  refine g_iloadN C X2 (pc' := 23) d1_22 rfl rfl ?_
  refine g_icmpN C X2 d1_23 (by decide) rfl ?_
  refine g_dload C X2 (pc' := 28) d1_26 rfl rfl ?_
  refine g_aloadN C X2 (pc' := 29) d1_28 rfl rfl rfl ?_
  refine g_iload C X2 (pc' := 31) d1_29 rfl rfl ?_
  refine g_iload C X2 (pc' := 33) d1_31 rfl rfl ?_
  refine g_iadd C X2 (pc' := 34) d1_33 rfl ?_
  refine g_daload C X2 (pc' := 35) e2 A (by decide) (by decide) 7 (by decide) rfl d1_34 rfl ?_
  refine g_aloadN C X2 (pc' := 36) d1_35 rfl rfl rfl ?_
  refine g_iload C X2 (pc' := 38) d1_36 rfl rfl ?_
  refine g_daload C X2 (pc' := 39) e2 B (by decide) (by decide) 1 (by decide) rfl d1_38 rfl ?_
  have D109 : FP.Core.DInt (L21 * Y1) (FP.dmul f21 (FP.ddiv d104 f11)) := dmul_D hf21 D105 (by show _ ≤ 9007199254740992; omega)
  refine g_dmul C X2 (pc' := 40) d1_39 (nn_of_int D109) rfl ?_
  have D110 : FP.Core.DInt ((R2 - (L20 * Y0)) - (L21 * Y1)) (FP.dsub d108 (FP.dmul f21 (FP.ddiv d104 f11))) := dsub_D D_d108 D109 (by show _ ≤ 9007199254740992; omega)
  refine g_dsub C X2 (pc' := 41) d1_40 (nn_of_int D110) rfl ?_
  obtain ⟨d111, e_d111⟩ : ∃ z : UInt64, z = FP.dsub d108 (FP.dmul f21 (FP.ddiv d104 f11)) := ⟨_, rfl⟩
  have D_d111 : FP.Core.DInt ((R2 - (L20 * Y0)) - (L21 * Y1)) d111 := e_d111 ▸ D110
  refine g_dstore C X2 (pc' := 43) d1_41 (x := d111) e_d111 (l' := #[.val (.ref a), .val (.int (3 : Int32)), .val (.ref b), .val (.int (2 : Int32)), .val (.int (6 : Int32)), .val (.double d111), .second, .val (.int (1 : Int32))]) rfl rfl ?_
  refine g_iinc C X2 (pc' := 46) d1_43 rfl (z := (2 : Int32)) (by decide) (l' := #[.val (.ref a), .val (.int (3 : Int32)), .val (.ref b), .val (.int (2 : Int32)), .val (.int (6 : Int32)), .val (.double d111), .second, .val (.int (2 : Int32))]) rfl rfl ?_
  refine g_goto C X2 d1_46 (pc' := 20) (by decide) (by decide) ?_
  refine g_iload C X2 (pc' := 22) d1_20 rfl rfl ?_
  refine g_iloadN C X2 (pc' := 23) d1_22 rfl rfl ?_
  refine g_icmpY C X2 d1_23 (pc' := 49) (by decide) (by decide) (by decide) ?_
  refine g_aloadN C X2 (pc' := 50) d1_49 rfl rfl rfl ?_
  refine g_iloadN C X2 (pc' := 51) d1_50 rfl rfl ?_
  refine g_dload C X2 (pc' := 53) d1_51 rfl rfl ?_
  refine g_aloadN C X2 (pc' := 54) d1_53 rfl rfl rfl ?_
  refine g_iload C X2 (pc' := 56) d1_54 rfl rfl ?_
  refine g_iloadN C X2 (pc' := 57) d1_56 rfl rfl ?_
  refine g_iadd C X2 (pc' := 58) d1_57 rfl ?_
  refine g_daload C X2 (pc' := 59) e2 A (by decide) (by decide) 8 (by decide) rfl d1_58 rfl ?_
  have D112 : FP.Core.DInt Y2 (FP.ddiv d111 f22) := ddiv_int D_d111 hf22 d2n (by omega) (by show _ ≤ 9007199254740992; omega)
  refine g_ddiv C X2 (pc' := 60) d1_59 (nn_of_int D112) rfl ?_
  refine g_dastore C X2 (pc' := 61) e2 B (by decide) (by decide) 2 0 (by decide) (of_decide_eq_true rfl) d1_60 rfl ?_
  intro T3 h3 X3 e3 W3 Aq
  have A := A.other W3 hab
  have Z3 : n0 ≤ h3.size := by rw [W3.size]; exact Z2
  have N3 := Fr.snoc X3 N2 z_b
  have P3 := P2.wr W3 (Or.inl (List.mem_of_getElem? (i := 0) rfl))
  have B : Arv Z h3 b kb .double (3 : Int32) [(.double (FP.ddiv v0 f00)), (.double (FP.ddiv d104 f11)), (.double (FP.ddiv d111 f22))] (.double (0 : UInt64)) := Aq
  refine g_iinc C X3 (pc' := 64) d1_61 rfl (z := (3 : Int32)) (by decide) (l' := #[.val (.ref a), .val (.int (3 : Int32)), .val (.ref b), .val (.int (3 : Int32)), .val (.int (6 : Int32)), .val (.double d111), .second, .val (.int (2 : Int32))]) rfl rfl ?_
  refine g_goto C X3 d1_64 (pc' := 2) (by decide) (by decide) ?_
  refine g_iloadN C X3 (pc' := 3) d1_2 rfl rfl ?_
  refine g_iloadN C X3 (pc' := 4) d1_3 rfl rfl ?_
  refine g_icmpY C X3 d1_4 (pc' := 67) (by decide) (by decide) (by decide) ?_
  refine g_iloadN C X3 (pc' := 68) d1_67 rfl rfl ?_
  refine g_iconst C X3 (pc' := 69) d1_68 (v := (1 : Int32)) (by decide) rfl ?_
  refine g_isub C X3 (pc' := 70) d1_69 rfl ?_
  refine g_istoreN C X3 (pc' := 71) d1_70 (x := (2 : Int32)) (by decide) (l' := #[.val (.ref a), .val (.int (3 : Int32)), .val (.ref b), .val (.int (2 : Int32)), .val (.int (6 : Int32)), .val (.double d111), .second, .val (.int (2 : Int32))]) rfl rfl ?_
  refine g_iloadN C X3 (pc' := 72) d1_71 rfl rfl ?_
  refine g_ifN C X3 d1_72 (by decide) rfl ?_
  refine g_iloadN C X3 (pc' := 76) d1_75 rfl rfl ?_
  refine g_iloadN C X3 (pc' := 77) d1_76 rfl rfl ?_
  refine g_imul C X3 (pc' := 78) d1_77 rfl ?_
  refine g_istore C X3 (pc' := 80) d1_78 (x := (6 : Int32)) (by decide) (l' := #[.val (.ref a), .val (.int (3 : Int32)), .val (.ref b), .val (.int (2 : Int32)), .val (.int (6 : Int32)), .val (.double d111), .second, .val (.int (2 : Int32))]) rfl rfl ?_
  refine g_aloadN C X3 (pc' := 81) d1_80 rfl rfl rfl ?_
  refine g_iloadN C X3 (pc' := 82) d1_81 rfl rfl ?_
  refine g_daload C X3 (pc' := 83) e3 B (by decide) (by decide) 2 (by decide) rfl d1_82 rfl ?_
  refine g_aloadN C X3 (pc' := 84) d1_83 rfl rfl rfl ?_
  refine g_iload C X3 (pc' := 86) d1_84 rfl rfl ?_
  refine g_iloadN C X3 (pc' := 87) d1_86 rfl rfl ?_
  refine g_iadd C X3 (pc' := 88) d1_87 rfl ?_
  refine g_daload C X3 (pc' := 89) e3 A (by decide) (by decide) 8 (by decide) rfl d1_88 rfl ?_
  have D113 : FP.Core.DInt U2 (FP.ddiv (FP.ddiv d111 f22) f22) := ddiv_int D112 hf22 d2n (by omega) (by show _ ≤ 9007199254740992; omega)
  refine g_ddiv C X3 (pc' := 90) d1_89 (nn_of_int D113) rfl ?_
  obtain ⟨d114, e_d114⟩ : ∃ z : UInt64, z = FP.ddiv (FP.ddiv d111 f22) f22 := ⟨_, rfl⟩
  have D_d114 : FP.Core.DInt U2 d114 := e_d114 ▸ D113
  refine g_dstore C X3 (pc' := 92) d1_90 (x := d114) e_d114 (l' := #[.val (.ref a), .val (.int (3 : Int32)), .val (.ref b), .val (.int (2 : Int32)), .val (.int (6 : Int32)), .val (.double d114), .second, .val (.int (2 : Int32))]) rfl rfl ?_
  refine g_aloadN C X3 (pc' := 93) d1_92 rfl rfl rfl ?_
  refine g_iloadN C X3 (pc' := 94) d1_93 rfl rfl ?_
  refine g_dload C X3 (pc' := 96) d1_94 rfl rfl ?_
  refine g_dastore C X3 (pc' := 97) e3 B (by decide) (by decide) 2 0 (by decide) (of_decide_eq_true rfl) d1_96 rfl ?_
  intro T4 h4 X4 e4 W4 Aq
  have A := A.other W4 hab
  have Z4 : n0 ≤ h4.size := by rw [W4.size]; exact Z3
  have N4 := Fr.snoc X4 N3 z_b
  have P4 := P3.wr W4 (Or.inl (List.mem_of_getElem? (i := 0) rfl))
  have B : Arv Z h4 b kb .double (3 : Int32) [(.double (FP.ddiv v0 f00)), (.double (FP.ddiv d104 f11)), (.double d114)] (.double (0 : UInt64)) := Aq
  refine g_iconst C X4 (pc' := 98) d1_97 (v := (0 : Int32)) (by decide) rfl ?_
  refine g_istore C X4 (pc' := 100) d1_98 (x := (0 : Int32)) rfl (l' := #[.val (.ref a), .val (.int (3 : Int32)), .val (.ref b), .val (.int (2 : Int32)), .val (.int (6 : Int32)), .val (.double d114), .second, .val (.int (0 : Int32))]) rfl rfl ?_
  refine g_iload C X4 (pc' := 102) d1_100 rfl rfl ?_
  refine g_iloadN C X4 (pc' := 103) d1_102 rfl rfl ?_
  refine g_icmpN C X4 d1_103 (by decide) rfl ?_
  refine g_aloadN C X4 (pc' := 107) d1_106 rfl rfl rfl ?_
  refine g_iload C X4 (pc' := 109) d1_107 rfl rfl ?_
  refine g_dup2 C X4 (pc' := 110) d1_109 rfl rfl rfl ?_
  refine g_daload C X4 (pc' := 111) e4 B (by decide) (by decide) 0 (by decide) rfl d1_110 rfl ?_
  refine g_aloadN C X4 (pc' := 112) d1_111 rfl rfl rfl ?_
  refine g_iload C X4 (pc' := 114) d1_112 rfl rfl ?_
  refine g_iload C X4 (pc' := 116) d1_114 rfl rfl ?_
  refine g_iadd C X4 (pc' := 117) d1_116 rfl ?_
  refine g_daload C X4 (pc' := 118) e4 A (by decide) (by decide) 6 (by decide) rfl d1_117 rfl ?_
  refine g_dload C X4 (pc' := 120) d1_118 rfl rfl ?_
  have D115 : FP.Core.DInt (L20 * U2) (FP.dmul f20 d114) := dmul_D hf20 D_d114 (by show _ ≤ 9007199254740992; omega)
  refine g_dmul C X4 (pc' := 121) d1_120 (nn_of_int D115) rfl ?_
  have D116 : FP.Core.DInt (Y0 - (L20 * U2)) (FP.dsub (FP.ddiv v0 f00) (FP.dmul f20 d114)) := dsub_D D101 D115 (by show _ ≤ 9007199254740992; omega)
  refine g_dsub C X4 (pc' := 122) d1_121 (nn_of_int D116) rfl ?_
  obtain ⟨d117, e_d117⟩ : ∃ z : UInt64, z = FP.dsub (FP.ddiv v0 f00) (FP.dmul f20 d114) := ⟨_, rfl⟩
  have D_d117 : FP.Core.DInt (Y0 - (L20 * U2)) d117 := e_d117 ▸ D116
  rw [← e_d117]
  refine g_dastore C X4 (pc' := 123) e4 B (by decide) (by decide) 0 0 (by decide) (of_decide_eq_true rfl) d1_122 rfl ?_
  intro T5 h5 X5 e5 W5 Aq
  have A := A.other W5 hab
  have Z5 : n0 ≤ h5.size := by rw [W5.size]; exact Z4
  have N5 := Fr.snoc X5 N4 z_b
  have P5 := P4.wr W5 (Or.inl (List.mem_of_getElem? (i := 0) rfl))
  have B : Arv Z h5 b kb .double (3 : Int32) [(.double d117), (.double (FP.ddiv d104 f11)), (.double d114)] (.double (0 : UInt64)) := Aq
  refine g_iinc C X5 (pc' := 126) d1_123 rfl (z := (1 : Int32)) (by decide) (l' := #[.val (.ref a), .val (.int (3 : Int32)), .val (.ref b), .val (.int (2 : Int32)), .val (.int (6 : Int32)), .val (.double d114), .second, .val (.int (1 : Int32))]) rfl rfl ?_
  refine g_goto C X5 d1_126 (pc' := 100) (by decide) (by decide) ?_
  refine g_iload C X5 (pc' := 102) d1_100 rfl rfl ?_
  refine g_iloadN C X5 (pc' := 103) d1_102 rfl rfl ?_
  refine g_icmpN C X5 d1_103 (by decide) rfl ?_
  refine g_aloadN C X5 (pc' := 107) d1_106 rfl rfl rfl ?_
  refine g_iload C X5 (pc' := 109) d1_107 rfl rfl ?_
  refine g_dup2 C X5 (pc' := 110) d1_109 rfl rfl rfl ?_
  refine g_daload C X5 (pc' := 111) e5 B (by decide) (by decide) 1 (by decide) rfl d1_110 rfl ?_
  refine g_aloadN C X5 (pc' := 112) d1_111 rfl rfl rfl ?_
  refine g_iload C X5 (pc' := 114) d1_112 rfl rfl ?_
  refine g_iload C X5 (pc' := 116) d1_114 rfl rfl ?_
  refine g_iadd C X5 (pc' := 117) d1_116 rfl ?_
  refine g_daload C X5 (pc' := 118) e5 A (by decide) (by decide) 7 (by decide) rfl d1_117 rfl ?_
  refine g_dload C X5 (pc' := 120) d1_118 rfl rfl ?_
  have D118 : FP.Core.DInt (L21 * U2) (FP.dmul f21 d114) := dmul_D hf21 D_d114 (by show _ ≤ 9007199254740992; omega)
  refine g_dmul C X5 (pc' := 121) d1_120 (nn_of_int D118) rfl ?_
  have D119 : FP.Core.DInt (Y1 - (L21 * U2)) (FP.dsub (FP.ddiv d104 f11) (FP.dmul f21 d114)) := dsub_D D105 D118 (by show _ ≤ 9007199254740992; omega)
  refine g_dsub C X5 (pc' := 122) d1_121 (nn_of_int D119) rfl ?_
  obtain ⟨d120, e_d120⟩ : ∃ z : UInt64, z = FP.dsub (FP.ddiv d104 f11) (FP.dmul f21 d114) := ⟨_, rfl⟩
  have D_d120 : FP.Core.DInt (Y1 - (L21 * U2)) d120 := e_d120 ▸ D119
  rw [← e_d120]
  refine g_dastore C X5 (pc' := 123) e5 B (by decide) (by decide) 1 0 (by decide) (of_decide_eq_true rfl) d1_122 rfl ?_
  intro T6 h6 X6 e6 W6 Aq
  have A := A.other W6 hab
  have Z6 : n0 ≤ h6.size := by rw [W6.size]; exact Z5
  have N6 := Fr.snoc X6 N5 z_b
  have P6 := P5.wr W6 (Or.inl (List.mem_of_getElem? (i := 0) rfl))
  have B : Arv Z h6 b kb .double (3 : Int32) [(.double d117), (.double d120), (.double d114)] (.double (0 : UInt64)) := Aq
  refine g_iinc C X6 (pc' := 126) d1_123 rfl (z := (2 : Int32)) (by decide) (l' := #[.val (.ref a), .val (.int (3 : Int32)), .val (.ref b), .val (.int (2 : Int32)), .val (.int (6 : Int32)), .val (.double d114), .second, .val (.int (2 : Int32))]) rfl rfl ?_
  refine g_goto C X6 d1_126 (pc' := 100) (by decide) (by decide) ?_
  refine g_iload C X6 (pc' := 102) d1_100 rfl rfl ?_
  refine g_iloadN C X6 (pc' := 103) d1_102 rfl rfl ?_
  refine g_icmpY C X6 d1_103 (pc' := 129) (by decide) (by decide) (by decide) ?_
  refine g_iinc C X6 (pc' := 132) d1_129 rfl (z := (1 : Int32)) (by decide) (l' := #[.val (.ref a), .val (.int (3 : Int32)), .val (.ref b), .val (.int (1 : Int32)), .val (.int (6 : Int32)), .val (.double d114), .second, .val (.int (2 : Int32))]) rfl rfl ?_
  refine g_goto C X6 d1_132 (pc' := 71) (by decide) (by decide) ?_
  refine g_iloadN C X6 (pc' := 72) d1_71 rfl rfl ?_
  refine g_ifN C X6 d1_72 (by decide) rfl ?_
  refine g_iloadN C X6 (pc' := 76) d1_75 rfl rfl ?_
  refine g_iloadN C X6 (pc' := 77) d1_76 rfl rfl ?_
  refine g_imul C X6 (pc' := 78) d1_77 rfl ?_
  refine g_istore C X6 (pc' := 80) d1_78 (x := (3 : Int32)) (by decide) (l' := #[.val (.ref a), .val (.int (3 : Int32)), .val (.ref b), .val (.int (1 : Int32)), .val (.int (3 : Int32)), .val (.double d114), .second, .val (.int (2 : Int32))]) rfl rfl ?_
  refine g_aloadN C X6 (pc' := 81) d1_80 rfl rfl rfl ?_
  refine g_iloadN C X6 (pc' := 82) d1_81 rfl rfl ?_
  refine g_daload C X6 (pc' := 83) e6 B (by decide) (by decide) 1 (by decide) rfl d1_82 rfl ?_
  refine g_aloadN C X6 (pc' := 84) d1_83 rfl rfl rfl ?_
  refine g_iload C X6 (pc' := 86) d1_84 rfl rfl ?_
  refine g_iloadN C X6 (pc' := 87) d1_86 rfl rfl ?_
  refine g_iadd C X6 (pc' := 88) d1_87 rfl ?_
  refine g_daload C X6 (pc' := 89) e6 A (by decide) (by decide) 4 (by decide) rfl d1_88 rfl ?_
  have D121 : FP.Core.DInt U1 (FP.ddiv d120 f11) := ddiv_int D_d120 hf11 d1n (by omega) (by show _ ≤ 9007199254740992; omega)
  refine g_ddiv C X6 (pc' := 90) d1_89 (nn_of_int D121) rfl ?_
  obtain ⟨d122, e_d122⟩ : ∃ z : UInt64, z = FP.ddiv d120 f11 := ⟨_, rfl⟩
  have D_d122 : FP.Core.DInt U1 d122 := e_d122 ▸ D121
  refine g_dstore C X6 (pc' := 92) d1_90 (x := d122) e_d122 (l' := #[.val (.ref a), .val (.int (3 : Int32)), .val (.ref b), .val (.int (1 : Int32)), .val (.int (3 : Int32)), .val (.double d122), .second, .val (.int (2 : Int32))]) rfl rfl ?_
  refine g_aloadN C X6 (pc' := 93) d1_92 rfl rfl rfl ?_
  refine g_iloadN C X6 (pc' := 94) d1_93 rfl rfl ?_
  refine g_dload C X6 (pc' := 96) d1_94 rfl rfl ?_
  refine g_dastore C X6 (pc' := 97) e6 B (by decide) (by decide) 1 0 (by decide) (of_decide_eq_true rfl) d1_96 rfl ?_
  intro T7 h7 X7 e7 W7 Aq
  have A := A.other W7 hab
  have Z7 : n0 ≤ h7.size := by rw [W7.size]; exact Z6
  have N7 := Fr.snoc X7 N6 z_b
  have P7 := P6.wr W7 (Or.inl (List.mem_of_getElem? (i := 0) rfl))
  have B : Arv Z h7 b kb .double (3 : Int32) [(.double d117), (.double d122), (.double d114)] (.double (0 : UInt64)) := Aq
  refine g_iconst C X7 (pc' := 98) d1_97 (v := (0 : Int32)) (by decide) rfl ?_
  refine g_istore C X7 (pc' := 100) d1_98 (x := (0 : Int32)) rfl (l' := #[.val (.ref a), .val (.int (3 : Int32)), .val (.ref b), .val (.int (1 : Int32)), .val (.int (3 : Int32)), .val (.double d122), .second, .val (.int (0 : Int32))]) rfl rfl ?_
  refine g_iload C X7 (pc' := 102) d1_100 rfl rfl ?_
  refine g_iloadN C X7 (pc' := 103) d1_102 rfl rfl ?_
  refine g_icmpN C X7 d1_103 (by decide) rfl ?_
  refine g_aloadN C X7 (pc' := 107) d1_106 rfl rfl rfl ?_
  refine g_iload C X7 (pc' := 109) d1_107 rfl rfl ?_
  refine g_dup2 C X7 (pc' := 110) d1_109 rfl rfl rfl ?_
  refine g_daload C X7 (pc' := 111) e7 B (by decide) (by decide) 0 (by decide) rfl d1_110 rfl ?_
  refine g_aloadN C X7 (pc' := 112) d1_111 rfl rfl rfl ?_
  refine g_iload C X7 (pc' := 114) d1_112 rfl rfl ?_
  refine g_iload C X7 (pc' := 116) d1_114 rfl rfl ?_
  refine g_iadd C X7 (pc' := 117) d1_116 rfl ?_
  refine g_daload C X7 (pc' := 118) e7 A (by decide) (by decide) 3 (by decide) rfl d1_117 rfl ?_
  refine g_dload C X7 (pc' := 120) d1_118 rfl rfl ?_
  have D123 : FP.Core.DInt (L10 * U1) (FP.dmul f10 d122) := dmul_D hf10 D_d122 (by show _ ≤ 9007199254740992; omega)
  refine g_dmul C X7 (pc' := 121) d1_120 (nn_of_int D123) rfl ?_
  have D124 : FP.Core.DInt ((Y0 - (L20 * U2)) - (L10 * U1)) (FP.dsub d117 (FP.dmul f10 d122)) := dsub_D D_d117 D123 (by show _ ≤ 9007199254740992; omega)
  refine g_dsub C X7 (pc' := 122) d1_121 (nn_of_int D124) rfl ?_
  refine g_dastore C X7 (pc' := 123) e7 B (by decide) (by decide) 0 0 (by decide) (of_decide_eq_true rfl) d1_122 rfl ?_
  intro T8 h8 X8 e8 W8 Aq
  have A := A.other W8 hab
  have Z8 : n0 ≤ h8.size := by rw [W8.size]; exact Z7
  have N8 := Fr.snoc X8 N7 z_b
  have P8 := P7.wr W8 (Or.inl (List.mem_of_getElem? (i := 0) rfl))
  have B : Arv Z h8 b kb .double (3 : Int32) [(.double (FP.dsub d117 (FP.dmul f10 d122))), (.double d122), (.double d114)] (.double (0 : UInt64)) := Aq
  refine g_iinc C X8 (pc' := 126) d1_123 rfl (z := (1 : Int32)) (by decide) (l' := #[.val (.ref a), .val (.int (3 : Int32)), .val (.ref b), .val (.int (1 : Int32)), .val (.int (3 : Int32)), .val (.double d122), .second, .val (.int (1 : Int32))]) rfl rfl ?_
  refine g_goto C X8 d1_126 (pc' := 100) (by decide) (by decide) ?_
  refine g_iload C X8 (pc' := 102) d1_100 rfl rfl ?_
  refine g_iloadN C X8 (pc' := 103) d1_102 rfl rfl ?_
  refine g_icmpY C X8 d1_103 (pc' := 129) (by decide) (by decide) (by decide) ?_
  refine g_iinc C X8 (pc' := 132) d1_129 rfl (z := (0 : Int32)) (by decide) (l' := #[.val (.ref a), .val (.int (3 : Int32)), .val (.ref b), .val (.int (0 : Int32)), .val (.int (3 : Int32)), .val (.double d122), .second, .val (.int (1 : Int32))]) rfl rfl ?_
  refine g_goto C X8 d1_132 (pc' := 71) (by decide) (by decide) ?_
  refine g_iloadN C X8 (pc' := 72) d1_71 rfl rfl ?_
  refine g_ifN C X8 d1_72 (by decide) rfl ?_
  refine g_iloadN C X8 (pc' := 76) d1_75 rfl rfl ?_
  refine g_iloadN C X8 (pc' := 77) d1_76 rfl rfl ?_
  refine g_imul C X8 (pc' := 78) d1_77 rfl ?_
  refine g_istore C X8 (pc' := 80) d1_78 (x := (0 : Int32)) (by decide) (l' := #[.val (.ref a), .val (.int (3 : Int32)), .val (.ref b), .val (.int (0 : Int32)), .val (.int (0 : Int32)), .val (.double d122), .second, .val (.int (1 : Int32))]) rfl rfl ?_
  refine g_aloadN C X8 (pc' := 81) d1_80 rfl rfl rfl ?_
  refine g_iloadN C X8 (pc' := 82) d1_81 rfl rfl ?_
  refine g_daload C X8 (pc' := 83) e8 B (by decide) (by decide) 0 (by decide) rfl d1_82 rfl ?_
  refine g_aloadN C X8 (pc' := 84) d1_83 rfl rfl rfl ?_
  refine g_iload C X8 (pc' := 86) d1_84 rfl rfl ?_
  refine g_iloadN C X8 (pc' := 87) d1_86 rfl rfl ?_
  refine g_iadd C X8 (pc' := 88) d1_87 rfl ?_
  refine g_daload C X8 (pc' := 89) e8 A (by decide) (by decide) 0 (by decide) rfl d1_88 rfl ?_
  have D125 : FP.Core.DInt U0 (FP.ddiv (FP.dsub d117 (FP.dmul f10 d122)) f00) := ddiv_int D124 hf00 d0n (by omega) (by show _ ≤ 9007199254740992; omega)
  refine g_ddiv C X8 (pc' := 90) d1_89 (nn_of_int D125) rfl ?_
  obtain ⟨d126, e_d126⟩ : ∃ z : UInt64, z = FP.ddiv (FP.dsub d117 (FP.dmul f10 d122)) f00 := ⟨_, rfl⟩
  have D_d126 : FP.Core.DInt U0 d126 := e_d126 ▸ D125
  refine g_dstore C X8 (pc' := 92) d1_90 (x := d126) e_d126 (l' := #[.val (.ref a), .val (.int (3 : Int32)), .val (.ref b), .val (.int (0 : Int32)), .val (.int (0 : Int32)), .val (.double d126), .second, .val (.int (1 : Int32))]) rfl rfl ?_
  refine g_aloadN C X8 (pc' := 93) d1_92 rfl rfl rfl ?_
  refine g_iloadN C X8 (pc' := 94) d1_93 rfl rfl ?_
  refine g_dload C X8 (pc' := 96) d1_94 rfl rfl ?_
  refine g_dastore C X8 (pc' := 97) e8 B (by decide) (by decide) 0 0 (by decide) (of_decide_eq_true rfl) d1_96 rfl ?_
  intro T9 h9 X9 e9 W9 Aq
  have A := A.other W9 hab
  have Z9 : n0 ≤ h9.size := by rw [W9.size]; exact Z8
  have N9 := Fr.snoc X9 N8 z_b
  have P9 := P8.wr W9 (Or.inl (List.mem_of_getElem? (i := 0) rfl))
  have B : Arv Z h9 b kb .double (3 : Int32) [(.double d126), (.double d122), (.double d114)] (.double (0 : UInt64)) := Aq
  refine g_iconst C X9 (pc' := 98) d1_97 (v := (0 : Int32)) (by decide) rfl ?_
  refine g_istore C X9 (pc' := 100) d1_98 (x := (0 : Int32)) rfl (l' := #[.val (.ref a), .val (.int (3 : Int32)), .val (.ref b), .val (.int (0 : Int32)), .val (.int (0 : Int32)), .val (.double d126), .second, .val (.int (0 : Int32))]) rfl rfl ?_
  refine g_iload C X9 (pc' := 102) d1_100 rfl rfl ?_
  refine g_iloadN C X9 (pc' := 103) d1_102 rfl rfl ?_
  refine g_icmpY C X9 d1_103 (pc' := 129) (by decide) (by decide) (by decide) ?_
  refine g_iinc C X9 (pc' := 132) d1_129 rfl (z := (-1 : Int32)) (by decide) (l' := #[.val (.ref a), .val (.int (3 : Int32)), .val (.ref b), .val (.int (-1 : Int32)), .val (.int (0 : Int32)), .val (.double d126), .second, .val (.int (0 : Int32))]) rfl rfl ?_
  refine g_goto C X9 d1_132 (pc' := 71) (by decide) (by decide) ?_
  refine g_iloadN C X9 (pc' := 72) d1_71 rfl rfl ?_
  refine g_ifY C X9 d1_72 (pc' := 135) (by decide) (by decide) (by decide) ?_
  exact g_return C X9 d1_135 ⟨rfl, N9, by rw [e9]; exact P9, d126, d122, d114, D_d126, D_d122, D_d114, by rw [e9]; exact B⟩ (by decide) (by decide)
theorem own_n (x : Int32) : 1 + (x &&& 2147483647) % 3 = 1 ∨ 1 + (x &&& 2147483647) % 3 = 2 ∨ 1 + (x &&& 2147483647) % 3 = 3 := by
  have h1 := c_and x 2147483647 (by decide)
  have h2 := (c_irem (x &&& 2147483647) 3 3 (by decide)).1 h1.1
  have e1 : (1 : Int32).toInt = 1 := by decide
  have e2 : (2 : Int32).toInt = 2 := by decide
  have e3 : (3 : Int32).toInt = 3 := by decide
  have h3 := c_iadd 1 ((x &&& 2147483647) % 3)
  have h4 := rng32 (1 + (x &&& 2147483647) % 3)
  simp only [← Int32.toInt_inj]
  omega
theorem own_d (x : Int32) : 1 ≤ ((1 : Int32) + (x &&& 127)).toInt64.toInt ∧ ((1 : Int32) + (x &&& 127)).toInt64.toInt ≤ 128 := by
  have h1 := c_and x 127 (by decide)
  have h2 := c_iadd 1 (x &&& 127)
  have h3 := rng32 (1 + (x &&& 127))
  have h4 : (127 : Int32).toInt = 127 := by decide
  have h5 : (1 : Int32).toInt = 1 := by decide
  rw [c_i2l]
  omega
theorem own_b (x : Int32) : -128 ≤ x.toInt8.toInt32.toInt64.toInt ∧ x.toInt8.toInt32.toInt64.toInt ≤ 128 := by
  have := c_i2b x
  rw [c_i2l]; omega
theorem own_u (x : Int32) : -2147483648 ≤ x.toInt64.toInt ∧ x.toInt64.toInt ≤ 2147483648 := by
  have := rng32 x
  rw [c_i2l]; omega
theorem own_mm (a b c : Int) : a * b = b * a := Int.mul_comm a b
theorem own_a1 (d z : Int) : d * z = z * d := Int.mul_comm d z
theorem own_a2 (l z d y : Int) : l * z + d * y - l * z = y * d := by rw [Int.mul_comm d y]; omega
theorem own_a3 (l z m y d w : Int) : l * z + m * y + d * w - l * z - m * y = w * d := by rw [Int.mul_comm d w]; omega
set_option maxRecDepth 65536 in
set_option maxHeartbeats 40000000 in
theorem law (l : Launch) (Z : State) (a0 : Array Value) (hw : ∀ d ∈ tables_1, d.before a0 Z = true) (p0 p1 p2 p3 p4 p5 : Int32) (h : Heap) (n0 : Nat) (Z0 : n0 ≤ h.size) :
    Con l Z x code maxLocals ret room_1 #[.int p0, .int p1, .int p2, .int p3, .int p4, .int p5] h (fun v _ L => v = some (.int 1) ∧ Fr n0 L) := by
  refine con_of_go pn0 (fun m => ef0 m p0 p1 p2 p3 p4 p5) ?_
  intro p e s m below meth c T0 C X0 e0
  refine g_iconst C X0 (pc' := 1) at_0 (v := (1 : Int32)) (by decide) rfl ?_
  refine g_iload C X0 (pc' := 3) at_1 rfl rfl ?_
  refine g_ldcI C X0 (pc' := 5) (hw _ (List.mem_of_getElem? (i := 0) rfl)) at_3 rfl ?_
  refine g_iand C X0 (pc' := 6) at_5 rfl ?_
  refine g_iconst C X0 (pc' := 7) at_6 (v := (3 : Int32)) (by decide) rfl ?_
  refine g_irem C X0 (pc' := 8) at_7 (by decide) rfl ?_
  refine g_iadd C X0 (pc' := 9) at_8 rfl ?_
  obtain ⟨i1, e_i1⟩ : ∃ z : Int32, z = (1 : Int32) + ((p5 &&& (2147483647 : Int32)) % (3 : Int32)) := ⟨_, rfl⟩
  refine g_istore C X0 (pc' := 11) at_9 (x := i1) e_i1 (l' := #[.val (.int p0), .val (.int p1), .val (.int p2), .val (.int p3), .val (.int p4), .val (.int p5), .val (.int i1), .unset, .unset, .unset, .unset, .unset, .unset, .unset, .unset, .unset, .unset, .unset, .unset, .unset, .unset, .unset, .unset, .unset, .unset, .unset, .unset, .unset, .unset, .unset, .unset, .unset, .unset, .unset, .unset, .unset, .unset, .unset, .unset, .unset, .unset, .unset]) rfl rfl ?_
  have nn := own_n p5
  rw [← e_i1] at nn
  clear e_i1
  rcases nn with rfl | rfl | rfl
  · show Go p.tables e below _ T0 (mkF m 11 #[.val (.int p0), .val (.int p1), .val (.int p2), .val (.int p3), .val (.int p4), .val (.int p5), .val (.int (1 : Int32)), .unset, .unset, .unset, .unset, .unset, .unset, .unset, .unset, .unset, .unset, .unset, .unset, .unset, .unset, .unset, .unset, .unset, .unset, .unset, .unset, .unset, .unset, .unset, .unset, .unset, .unset, .unset, .unset, .unset, .unset, .unset, .unset, .unset, .unset, .unset] [])
    refine g_iconst C X0 (pc' := 12) at_11 (v := (1 : Int32)) (by decide) rfl ?_
    refine g_iloadN C X0 (pc' := 13) at_12 rfl rfl ?_
    refine g_bipush C X0 (pc' := 15) at_13 (v := (127 : Int32)) (by decide) rfl ?_
    refine g_iand C X0 (pc' := 16) at_15 rfl ?_
    refine g_iadd C X0 (pc' := 17) at_16 rfl ?_
    refine g_i2l C X0 (pc' := 18) at_17 rfl ?_
    obtain ⟨j2, e_j2⟩ : ∃ z : Int64, z = ((1 : Int32) + (p0 &&& (127 : Int32))).toInt64 := ⟨_, rfl⟩
    refine g_lstore C X0 (pc' := 20) at_18 (x := j2) e_j2 (l' := #[.val (.int p0), .val (.int p1), .val (.int p2), .val (.int p3), .val (.int p4), .val (.int p5), .val (.int (1 : Int32)), .val (.long j2), .second, .unset, .unset, .unset, .unset, .unset, .unset, .unset, .unset, .unset, .unset, .unset, .unset, .unset, .unset, .unset, .unset, .unset, .unset, .unset, .unset, .unset, .unset, .unset, .unset, .unset, .unset, .unset, .unset, .unset, .unset, .unset, .unset, .unset]) rfl rfl ?_
    have bd0 := own_d p0
    rw [← e_j2] at bd0
    refine g_iconst C X0 (pc' := 21) at_20 (v := (1 : Int32)) (by decide) rfl ?_
    refine g_iloadN C X0 (pc' := 22) at_21 rfl rfl ?_
    refine g_bipush C X0 (pc' := 24) at_22 (v := (8 : Int32)) (by decide) rfl ?_
    refine g_ishr C X0 (pc' := 25) at_24 rfl ?_
    refine g_bipush C X0 (pc' := 27) at_25 (v := (127 : Int32)) (by decide) rfl ?_
    refine g_iand C X0 (pc' := 28) at_27 rfl ?_
    refine g_iadd C X0 (pc' := 29) at_28 rfl ?_
    refine g_i2l C X0 (pc' := 30) at_29 rfl ?_
    obtain ⟨j3, e_j3⟩ : ∃ z : Int64, z = ((1 : Int32) + ((p0 >>> ((8 : Int32) &&& 31)) &&& (127 : Int32))).toInt64 := ⟨_, rfl⟩
    refine g_lstore C X0 (pc' := 32) at_30 (x := j3) e_j3 (l' := #[.val (.int p0), .val (.int p1), .val (.int p2), .val (.int p3), .val (.int p4), .val (.int p5), .val (.int (1 : Int32)), .val (.long j2), .second, .val (.long j3), .second, .unset, .unset, .unset, .unset, .unset, .unset, .unset, .unset, .unset, .unset, .unset, .unset, .unset, .unset, .unset, .unset, .unset, .unset, .unset, .unset, .unset, .unset, .unset, .unset, .unset, .unset, .unset, .unset, .unset, .unset, .unset]) rfl rfl ?_
    have bd1 := own_d (p0 >>> ((8 : Int32) &&& 31))
    rw [← e_j3] at bd1
    refine g_iconst C X0 (pc' := 33) at_32 (v := (1 : Int32)) (by decide) rfl ?_
    refine g_iloadN C X0 (pc' := 34) at_33 rfl rfl ?_
    refine g_bipush C X0 (pc' := 36) at_34 (v := (16 : Int32)) (by decide) rfl ?_
    refine g_ishr C X0 (pc' := 37) at_36 rfl ?_
    refine g_bipush C X0 (pc' := 39) at_37 (v := (127 : Int32)) (by decide) rfl ?_
    refine g_iand C X0 (pc' := 40) at_39 rfl ?_
    refine g_iadd C X0 (pc' := 41) at_40 rfl ?_
    refine g_i2l C X0 (pc' := 42) at_41 rfl ?_
    obtain ⟨j4, e_j4⟩ : ∃ z : Int64, z = ((1 : Int32) + ((p0 >>> ((16 : Int32) &&& 31)) &&& (127 : Int32))).toInt64 := ⟨_, rfl⟩
    refine g_lstore C X0 (pc' := 44) at_42 (x := j4) e_j4 (l' := #[.val (.int p0), .val (.int p1), .val (.int p2), .val (.int p3), .val (.int p4), .val (.int p5), .val (.int (1 : Int32)), .val (.long j2), .second, .val (.long j3), .second, .val (.long j4), .second, .unset, .unset, .unset, .unset, .unset, .unset, .unset, .unset, .unset, .unset, .unset, .unset, .unset, .unset, .unset, .unset, .unset, .unset, .unset, .unset, .unset, .unset, .unset, .unset, .unset, .unset, .unset, .unset, .unset]) rfl rfl ?_
    have bd2 := own_d (p0 >>> ((16 : Int32) &&& 31))
    rw [← e_j4] at bd2
    refine g_iloadN C X0 (pc' := 45) at_44 rfl rfl ?_
    refine g_i2b C X0 (pc' := 46) at_45 rfl ?_
    refine g_i2l C X0 (pc' := 47) at_46 rfl ?_
    obtain ⟨j5, e_j5⟩ : ∃ z : Int64, z = p1.toInt8.toInt32.toInt64 := ⟨_, rfl⟩
    refine g_lstore C X0 (pc' := 49) at_47 (x := j5) e_j5 (l' := #[.val (.int p0), .val (.int p1), .val (.int p2), .val (.int p3), .val (.int p4), .val (.int p5), .val (.int (1 : Int32)), .val (.long j2), .second, .val (.long j3), .second, .val (.long j4), .second, .val (.long j5), .second, .unset, .unset, .unset, .unset, .unset, .unset, .unset, .unset, .unset, .unset, .unset, .unset, .unset, .unset, .unset, .unset, .unset, .unset, .unset, .unset, .unset, .unset, .unset, .unset, .unset, .unset, .unset]) rfl rfl ?_
    have bl10 := own_b p1
    rw [← e_j5] at bl10
    refine g_iloadN C X0 (pc' := 50) at_49 rfl rfl ?_
    refine g_bipush C X0 (pc' := 52) at_50 (v := (8 : Int32)) (by decide) rfl ?_
    refine g_ishr C X0 (pc' := 53) at_52 rfl ?_
    refine g_i2b C X0 (pc' := 54) at_53 rfl ?_
    refine g_i2l C X0 (pc' := 55) at_54 rfl ?_
    obtain ⟨j6, e_j6⟩ : ∃ z : Int64, z = ((p1 >>> ((8 : Int32) &&& 31)).toInt8.toInt32).toInt64 := ⟨_, rfl⟩
    refine g_lstore C X0 (pc' := 57) at_55 (x := j6) e_j6 (l' := #[.val (.int p0), .val (.int p1), .val (.int p2), .val (.int p3), .val (.int p4), .val (.int p5), .val (.int (1 : Int32)), .val (.long j2), .second, .val (.long j3), .second, .val (.long j4), .second, .val (.long j5), .second, .val (.long j6), .second, .unset, .unset, .unset, .unset, .unset, .unset, .unset, .unset, .unset, .unset, .unset, .unset, .unset, .unset, .unset, .unset, .unset, .unset, .unset, .unset, .unset, .unset, .unset, .unset, .unset]) rfl rfl ?_
    have bl20 := own_b (p1 >>> ((8 : Int32) &&& 31))
    rw [← e_j6] at bl20
    refine g_iloadN C X0 (pc' := 58) at_57 rfl rfl ?_
    refine g_bipush C X0 (pc' := 60) at_58 (v := (16 : Int32)) (by decide) rfl ?_
    refine g_ishr C X0 (pc' := 61) at_60 rfl ?_
    refine g_i2b C X0 (pc' := 62) at_61 rfl ?_
    refine g_i2l C X0 (pc' := 63) at_62 rfl ?_
    obtain ⟨j7, e_j7⟩ : ∃ z : Int64, z = ((p1 >>> ((16 : Int32) &&& 31)).toInt8.toInt32).toInt64 := ⟨_, rfl⟩
    refine g_lstore C X0 (pc' := 65) at_63 (x := j7) e_j7 (l' := #[.val (.int p0), .val (.int p1), .val (.int p2), .val (.int p3), .val (.int p4), .val (.int p5), .val (.int (1 : Int32)), .val (.long j2), .second, .val (.long j3), .second, .val (.long j4), .second, .val (.long j5), .second, .val (.long j6), .second, .val (.long j7), .second, .unset, .unset, .unset, .unset, .unset, .unset, .unset, .unset, .unset, .unset, .unset, .unset, .unset, .unset, .unset, .unset, .unset, .unset, .unset, .unset, .unset, .unset, .unset]) rfl rfl ?_
    have bl21 := own_b (p1 >>> ((16 : Int32) &&& 31))
    rw [← e_j7] at bl21
    refine g_iloadN C X0 (pc' := 66) at_65 rfl rfl ?_
    refine g_i2l C X0 (pc' := 67) at_66 rfl ?_
    obtain ⟨j8, e_j8⟩ : ∃ z : Int64, z = p2.toInt64 := ⟨_, rfl⟩
    refine g_lstore C X0 (pc' := 69) at_67 (x := j8) e_j8 (l' := #[.val (.int p0), .val (.int p1), .val (.int p2), .val (.int p3), .val (.int p4), .val (.int p5), .val (.int (1 : Int32)), .val (.long j2), .second, .val (.long j3), .second, .val (.long j4), .second, .val (.long j5), .second, .val (.long j6), .second, .val (.long j7), .second, .val (.long j8), .second, .unset, .unset, .unset, .unset, .unset, .unset, .unset, .unset, .unset, .unset, .unset, .unset, .unset, .unset, .unset, .unset, .unset, .unset, .unset, .unset, .unset]) rfl rfl ?_
    have bu0 := own_u p2
    rw [← e_j8] at bu0
    refine g_iload C X0 (pc' := 71) at_69 rfl rfl ?_
    refine g_iconst C X0 (pc' := 72) at_71 (v := (1 : Int32)) (by decide) rfl ?_
    refine g_icmpY C X0 at_72 (pc' := 80) (by decide) (by decide) (by decide) ?_
    refine g_lconst C X0 (pc' := 81) at_80 (v := (0 : Int64)) (by decide) rfl ?_
    refine g_lstore C X0 (pc' := 83) at_81 (x := (0 : Int64)) rfl (l' := #[.val (.int p0), .val (.int p1), .val (.int p2), .val (.int p3), .val (.int p4), .val (.int p5), .val (.int (1 : Int32)), .val (.long j2), .second, .val (.long j3), .second, .val (.long j4), .second, .val (.long j5), .second, .val (.long j6), .second, .val (.long j7), .second, .val (.long j8), .second, .val (.long (0 : Int64)), .second, .unset, .unset, .unset, .unset, .unset, .unset, .unset, .unset, .unset, .unset, .unset, .unset, .unset, .unset, .unset, .unset, .unset, .unset, .unset]) rfl rfl ?_
    refine g_iload C X0 (pc' := 85) at_83 rfl rfl ?_
    refine g_iconst C X0 (pc' := 86) at_85 (v := (2 : Int32)) (by decide) rfl ?_
    refine g_icmpY C X0 at_86 (pc' := 95) (by decide) (by decide) (by decide) ?_
    refine g_lconst C X0 (pc' := 96) at_95 (v := (0 : Int64)) (by decide) rfl ?_
    refine g_lstore C X0 (pc' := 98) at_96 (x := (0 : Int64)) rfl (l' := #[.val (.int p0), .val (.int p1), .val (.int p2), .val (.int p3), .val (.int p4), .val (.int p5), .val (.int (1 : Int32)), .val (.long j2), .second, .val (.long j3), .second, .val (.long j4), .second, .val (.long j5), .second, .val (.long j6), .second, .val (.long j7), .second, .val (.long j8), .second, .val (.long (0 : Int64)), .second, .val (.long (0 : Int64)), .second, .unset, .unset, .unset, .unset, .unset, .unset, .unset, .unset, .unset, .unset, .unset, .unset, .unset, .unset, .unset, .unset, .unset]) rfl rfl ?_
    refine g_lload C X0 (pc' := 100) at_98 rfl rfl ?_
    refine g_lload C X0 (pc' := 102) at_100 rfl rfl ?_
    refine g_lmul C X0 (pc' := 103) at_102 rfl ?_
    refine g_lload C X0 (pc' := 105) at_103 rfl rfl ?_
    refine g_lload C X0 (pc' := 107) at_105 rfl rfl ?_
    refine g_lmul C X0 (pc' := 108) at_107 rfl ?_
    refine g_ladd C X0 (pc' := 109) at_108 rfl ?_
    refine g_lload C X0 (pc' := 111) at_109 rfl rfl ?_
    refine g_lload C X0 (pc' := 113) at_111 rfl rfl ?_
    refine g_lmul C X0 (pc' := 114) at_113 rfl ?_
    refine g_ladd C X0 (pc' := 115) at_114 rfl ?_
    obtain ⟨j9, e_j9⟩ : ∃ z : Int64, z = ((j2 * j8) + (j5 * (0 : Int64))) + (j6 * (0 : Int64)) := ⟨_, rfl⟩
    refine g_lstore C X0 (pc' := 117) at_115 (x := j9) e_j9 (l' := #[.val (.int p0), .val (.int p1), .val (.int p2), .val (.int p3), .val (.int p4), .val (.int p5), .val (.int (1 : Int32)), .val (.long j2), .second, .val (.long j3), .second, .val (.long j4), .second, .val (.long j5), .second, .val (.long j6), .second, .val (.long j7), .second, .val (.long j8), .second, .val (.long (0 : Int64)), .second, .val (.long (0 : Int64)), .second, .val (.long j9), .second, .unset, .unset, .unset, .unset, .unset, .unset, .unset, .unset, .unset, .unset, .unset, .unset, .unset, .unset, .unset]) rfl rfl ?_
    refine g_lload C X0 (pc' := 119) at_117 rfl rfl ?_
    refine g_lload C X0 (pc' := 121) at_119 rfl rfl ?_
    refine g_lmul C X0 (pc' := 122) at_121 rfl ?_
    refine g_lload C X0 (pc' := 124) at_122 rfl rfl ?_
    refine g_lload C X0 (pc' := 126) at_124 rfl rfl ?_
    refine g_lmul C X0 (pc' := 127) at_126 rfl ?_
    refine g_ladd C X0 (pc' := 128) at_127 rfl ?_
    obtain ⟨j10, e_j10⟩ : ∃ z : Int64, z = (j3 * (0 : Int64)) + (j7 * (0 : Int64)) := ⟨_, rfl⟩
    refine g_lstore C X0 (pc' := 130) at_128 (x := j10) e_j10 (l' := #[.val (.int p0), .val (.int p1), .val (.int p2), .val (.int p3), .val (.int p4), .val (.int p5), .val (.int (1 : Int32)), .val (.long j2), .second, .val (.long j3), .second, .val (.long j4), .second, .val (.long j5), .second, .val (.long j6), .second, .val (.long j7), .second, .val (.long j8), .second, .val (.long (0 : Int64)), .second, .val (.long (0 : Int64)), .second, .val (.long j9), .second, .val (.long j10), .second, .unset, .unset, .unset, .unset, .unset, .unset, .unset, .unset, .unset, .unset, .unset, .unset, .unset]) rfl rfl ?_
    refine g_lload C X0 (pc' := 132) at_130 rfl rfl ?_
    refine g_lload C X0 (pc' := 134) at_132 rfl rfl ?_
    refine g_lmul C X0 (pc' := 135) at_134 rfl ?_
    obtain ⟨j11, e_j11⟩ : ∃ z : Int64, z = j4 * (0 : Int64) := ⟨_, rfl⟩
    refine g_lstore C X0 (pc' := 137) at_135 (x := j11) e_j11 (l' := #[.val (.int p0), .val (.int p1), .val (.int p2), .val (.int p3), .val (.int p4), .val (.int p5), .val (.int (1 : Int32)), .val (.long j2), .second, .val (.long j3), .second, .val (.long j4), .second, .val (.long j5), .second, .val (.long j6), .second, .val (.long j7), .second, .val (.long j8), .second, .val (.long (0 : Int64)), .second, .val (.long (0 : Int64)), .second, .val (.long j9), .second, .val (.long j10), .second, .val (.long j11), .second, .unset, .unset, .unset, .unset, .unset, .unset, .unset, .unset, .unset, .unset, .unset]) rfl rfl ?_
    refine g_lload C X0 (pc' := 139) at_137 rfl rfl ?_
    refine g_lload C X0 (pc' := 141) at_139 rfl rfl ?_
    refine g_lmul C X0 (pc' := 142) at_141 rfl ?_
    obtain ⟨j12, e_j12⟩ : ∃ z : Int64, z = j2 * j9 := ⟨_, rfl⟩
    refine g_lstore C X0 (pc' := 144) at_142 (x := j12) e_j12 (l' := #[.val (.int p0), .val (.int p1), .val (.int p2), .val (.int p3), .val (.int p4), .val (.int p5), .val (.int (1 : Int32)), .val (.long j2), .second, .val (.long j3), .second, .val (.long j4), .second, .val (.long j5), .second, .val (.long j6), .second, .val (.long j7), .second, .val (.long j8), .second, .val (.long (0 : Int64)), .second, .val (.long (0 : Int64)), .second, .val (.long j9), .second, .val (.long j10), .second, .val (.long j11), .second, .val (.long j12), .second, .unset, .unset, .unset, .unset, .unset, .unset, .unset, .unset, .unset]) rfl rfl ?_
    refine g_lload C X0 (pc' := 146) at_144 rfl rfl ?_
    refine g_lload C X0 (pc' := 148) at_146 rfl rfl ?_
    refine g_lmul C X0 (pc' := 149) at_148 rfl ?_
    refine g_lload C X0 (pc' := 151) at_149 rfl rfl ?_
    refine g_lload C X0 (pc' := 153) at_151 rfl rfl ?_
    refine g_lmul C X0 (pc' := 154) at_153 rfl ?_
    refine g_ladd C X0 (pc' := 155) at_154 rfl ?_
    obtain ⟨j13, e_j13⟩ : ∃ z : Int64, z = (j5 * j9) + (j3 * j10) := ⟨_, rfl⟩
    refine g_lstore C X0 (pc' := 157) at_155 (x := j13) e_j13 (l' := #[.val (.int p0), .val (.int p1), .val (.int p2), .val (.int p3), .val (.int p4), .val (.int p5), .val (.int (1 : Int32)), .val (.long j2), .second, .val (.long j3), .second, .val (.long j4), .second, .val (.long j5), .second, .val (.long j6), .second, .val (.long j7), .second, .val (.long j8), .second, .val (.long (0 : Int64)), .second, .val (.long (0 : Int64)), .second, .val (.long j9), .second, .val (.long j10), .second, .val (.long j11), .second, .val (.long j12), .second, .val (.long j13), .second, .unset, .unset, .unset, .unset, .unset, .unset, .unset]) rfl rfl ?_
    refine g_lload C X0 (pc' := 159) at_157 rfl rfl ?_
    refine g_lload C X0 (pc' := 161) at_159 rfl rfl ?_
    refine g_lmul C X0 (pc' := 162) at_161 rfl ?_
    refine g_lload C X0 (pc' := 164) at_162 rfl rfl ?_
    refine g_lload C X0 (pc' := 166) at_164 rfl rfl ?_
    refine g_lmul C X0 (pc' := 167) at_166 rfl ?_
    refine g_ladd C X0 (pc' := 168) at_167 rfl ?_
    refine g_lload C X0 (pc' := 170) at_168 rfl rfl ?_
    refine g_lload C X0 (pc' := 172) at_170 rfl rfl ?_
    refine g_lmul C X0 (pc' := 173) at_172 rfl ?_
    refine g_ladd C X0 (pc' := 174) at_173 rfl ?_
    obtain ⟨j14, e_j14⟩ : ∃ z : Int64, z = ((j6 * j9) + (j7 * j10)) + (j4 * j11) := ⟨_, rfl⟩
    refine g_lstore C X0 (pc' := 176) at_174 (x := j14) e_j14 (l' := #[.val (.int p0), .val (.int p1), .val (.int p2), .val (.int p3), .val (.int p4), .val (.int p5), .val (.int (1 : Int32)), .val (.long j2), .second, .val (.long j3), .second, .val (.long j4), .second, .val (.long j5), .second, .val (.long j6), .second, .val (.long j7), .second, .val (.long j8), .second, .val (.long (0 : Int64)), .second, .val (.long (0 : Int64)), .second, .val (.long j9), .second, .val (.long j10), .second, .val (.long j11), .second, .val (.long j12), .second, .val (.long j13), .second, .val (.long j14), .second, .unset, .unset, .unset, .unset, .unset]) rfl rfl ?_
    have rm17 : -274877906944 ≤ j2.toInt * j8.toInt ∧ j2.toInt * j8.toInt ≤ 274877906944 := own_m (X := 128) (Y := 2147483648) (by omega) (by omega) (by omega) (by omega)
    have em17 : (j2 * j8).toInt = j2.toInt * j8.toInt := by rw [own_mul (by rw [(rfl : j2.toInt = j2.toInt), (rfl : j8.toInt = j8.toInt)]; omega) (by rw [(rfl : j2.toInt = j2.toInt), (rfl : j8.toInt = j8.toInt)]; omega), (rfl : j2.toInt = j2.toInt), (rfl : j8.toInt = j8.toInt)]
    have ek19 : (0 : Int64).toInt = 0 := by decide
    have rk19 : 0 ≤ (0 : Int) ∧ (0 : Int) ≤ 0 := by decide
    have rm18 : 0 ≤ j5.toInt * 0 ∧ j5.toInt * 0 ≤ 0 := own_m (X := 128) (Y := 0) (by omega) (by omega) (by omega) (by omega)
    have em18 : (j5 * (0 : Int64)).toInt = j5.toInt * 0 := by rw [own_mul (by rw [(rfl : j5.toInt = j5.toInt), ek19]; omega) (by rw [(rfl : j5.toInt = j5.toInt), ek19]; omega), (rfl : j5.toInt = j5.toInt), ek19]
    have em16 : ((j2 * j8) + (j5 * (0 : Int64))).toInt = (j2.toInt * j8.toInt) + (j5.toInt * 0) := by rw [own_add (by rw [em17, em18]; omega) (by rw [em17, em18]; omega), em17, em18]
    have rm16 : -274877906944 ≤ (j2.toInt * j8.toInt) + (j5.toInt * 0) ∧ (j2.toInt * j8.toInt) + (j5.toInt * 0) ≤ 274877906944 := by omega
    have rm20 : 0 ≤ j6.toInt * 0 ∧ j6.toInt * 0 ≤ 0 := own_m (X := 128) (Y := 0) (by omega) (by omega) (by omega) (by omega)
    have em20 : (j6 * (0 : Int64)).toInt = j6.toInt * 0 := by rw [own_mul (by rw [(rfl : j6.toInt = j6.toInt), ek19]; omega) (by rw [(rfl : j6.toInt = j6.toInt), ek19]; omega), (rfl : j6.toInt = j6.toInt), ek19]
    have em15 : (((j2 * j8) + (j5 * (0 : Int64))) + (j6 * (0 : Int64))).toInt = ((j2.toInt * j8.toInt) + (j5.toInt * 0)) + (j6.toInt * 0) := by rw [own_add (by rw [em16, em20]; omega) (by rw [em16, em20]; omega), em16, em20]
    have rm15 : -274877906944 ≤ ((j2.toInt * j8.toInt) + (j5.toInt * 0)) + (j6.toInt * 0) ∧ ((j2.toInt * j8.toInt) + (j5.toInt * 0)) + (j6.toInt * 0) ≤ 274877906944 := by omega
    have ev_j9 : j9.toInt = ((j2.toInt * j8.toInt) + (j5.toInt * 0)) + (j6.toInt * 0) := by rw [e_j9]; exact em15
    have rm22 : 0 ≤ j3.toInt * 0 ∧ j3.toInt * 0 ≤ 0 := own_m (X := 128) (Y := 0) (by omega) (by omega) (by omega) (by omega)
    have em22 : (j3 * (0 : Int64)).toInt = j3.toInt * 0 := by rw [own_mul (by rw [(rfl : j3.toInt = j3.toInt), ek19]; omega) (by rw [(rfl : j3.toInt = j3.toInt), ek19]; omega), (rfl : j3.toInt = j3.toInt), ek19]
    have rm23 : 0 ≤ j7.toInt * 0 ∧ j7.toInt * 0 ≤ 0 := own_m (X := 128) (Y := 0) (by omega) (by omega) (by omega) (by omega)
    have em23 : (j7 * (0 : Int64)).toInt = j7.toInt * 0 := by rw [own_mul (by rw [(rfl : j7.toInt = j7.toInt), ek19]; omega) (by rw [(rfl : j7.toInt = j7.toInt), ek19]; omega), (rfl : j7.toInt = j7.toInt), ek19]
    have em21 : ((j3 * (0 : Int64)) + (j7 * (0 : Int64))).toInt = (j3.toInt * 0) + (j7.toInt * 0) := by rw [own_add (by rw [em22, em23]; omega) (by rw [em22, em23]; omega), em22, em23]
    have rm21 : 0 ≤ (j3.toInt * 0) + (j7.toInt * 0) ∧ (j3.toInt * 0) + (j7.toInt * 0) ≤ 0 := by omega
    have ev_j10 : j10.toInt = (j3.toInt * 0) + (j7.toInt * 0) := by rw [e_j10]; exact em21
    have rm24 : 0 ≤ j4.toInt * 0 ∧ j4.toInt * 0 ≤ 0 := own_m (X := 128) (Y := 0) (by omega) (by omega) (by omega) (by omega)
    have em24 : (j4 * (0 : Int64)).toInt = j4.toInt * 0 := by rw [own_mul (by rw [(rfl : j4.toInt = j4.toInt), ek19]; omega) (by rw [(rfl : j4.toInt = j4.toInt), ek19]; omega), (rfl : j4.toInt = j4.toInt), ek19]
    have ev_j11 : j11.toInt = j4.toInt * 0 := by rw [e_j11]; exact em24
    have rm25 : -35184372088832 ≤ j2.toInt * (((j2.toInt * j8.toInt) + (j5.toInt * 0)) + (j6.toInt * 0)) ∧ j2.toInt * (((j2.toInt * j8.toInt) + (j5.toInt * 0)) + (j6.toInt * 0)) ≤ 35184372088832 := own_m (X := 128) (Y := 274877906944) (by omega) (by omega) (by omega) (by omega)
    have em25 : (j2 * j9).toInt = j2.toInt * (((j2.toInt * j8.toInt) + (j5.toInt * 0)) + (j6.toInt * 0)) := by rw [own_mul (by rw [(rfl : j2.toInt = j2.toInt), ev_j9]; omega) (by rw [(rfl : j2.toInt = j2.toInt), ev_j9]; omega), (rfl : j2.toInt = j2.toInt), ev_j9]
    have ev_j12 : j12.toInt = j2.toInt * (((j2.toInt * j8.toInt) + (j5.toInt * 0)) + (j6.toInt * 0)) := by rw [e_j12]; exact em25
    have rm27 : -35184372088832 ≤ j5.toInt * (((j2.toInt * j8.toInt) + (j5.toInt * 0)) + (j6.toInt * 0)) ∧ j5.toInt * (((j2.toInt * j8.toInt) + (j5.toInt * 0)) + (j6.toInt * 0)) ≤ 35184372088832 := own_m (X := 128) (Y := 274877906944) (by omega) (by omega) (by omega) (by omega)
    have em27 : (j5 * j9).toInt = j5.toInt * (((j2.toInt * j8.toInt) + (j5.toInt * 0)) + (j6.toInt * 0)) := by rw [own_mul (by rw [(rfl : j5.toInt = j5.toInt), ev_j9]; omega) (by rw [(rfl : j5.toInt = j5.toInt), ev_j9]; omega), (rfl : j5.toInt = j5.toInt), ev_j9]
    have rm28 : 0 ≤ j3.toInt * ((j3.toInt * 0) + (j7.toInt * 0)) ∧ j3.toInt * ((j3.toInt * 0) + (j7.toInt * 0)) ≤ 0 := own_m (X := 128) (Y := 0) (by omega) (by omega) (by omega) (by omega)
    have em28 : (j3 * j10).toInt = j3.toInt * ((j3.toInt * 0) + (j7.toInt * 0)) := by rw [own_mul (by rw [(rfl : j3.toInt = j3.toInt), ev_j10]; omega) (by rw [(rfl : j3.toInt = j3.toInt), ev_j10]; omega), (rfl : j3.toInt = j3.toInt), ev_j10]
    have em26 : ((j5 * j9) + (j3 * j10)).toInt = (j5.toInt * (((j2.toInt * j8.toInt) + (j5.toInt * 0)) + (j6.toInt * 0))) + (j3.toInt * ((j3.toInt * 0) + (j7.toInt * 0))) := by rw [own_add (by rw [em27, em28]; omega) (by rw [em27, em28]; omega), em27, em28]
    have rm26 : -35184372088832 ≤ (j5.toInt * (((j2.toInt * j8.toInt) + (j5.toInt * 0)) + (j6.toInt * 0))) + (j3.toInt * ((j3.toInt * 0) + (j7.toInt * 0))) ∧ (j5.toInt * (((j2.toInt * j8.toInt) + (j5.toInt * 0)) + (j6.toInt * 0))) + (j3.toInt * ((j3.toInt * 0) + (j7.toInt * 0))) ≤ 35184372088832 := by omega
    have ev_j13 : j13.toInt = (j5.toInt * (((j2.toInt * j8.toInt) + (j5.toInt * 0)) + (j6.toInt * 0))) + (j3.toInt * ((j3.toInt * 0) + (j7.toInt * 0))) := by rw [e_j13]; exact em26
    have rm31 : -35184372088832 ≤ j6.toInt * (((j2.toInt * j8.toInt) + (j5.toInt * 0)) + (j6.toInt * 0)) ∧ j6.toInt * (((j2.toInt * j8.toInt) + (j5.toInt * 0)) + (j6.toInt * 0)) ≤ 35184372088832 := own_m (X := 128) (Y := 274877906944) (by omega) (by omega) (by omega) (by omega)
    have em31 : (j6 * j9).toInt = j6.toInt * (((j2.toInt * j8.toInt) + (j5.toInt * 0)) + (j6.toInt * 0)) := by rw [own_mul (by rw [(rfl : j6.toInt = j6.toInt), ev_j9]; omega) (by rw [(rfl : j6.toInt = j6.toInt), ev_j9]; omega), (rfl : j6.toInt = j6.toInt), ev_j9]
    have rm32 : 0 ≤ j7.toInt * ((j3.toInt * 0) + (j7.toInt * 0)) ∧ j7.toInt * ((j3.toInt * 0) + (j7.toInt * 0)) ≤ 0 := own_m (X := 128) (Y := 0) (by omega) (by omega) (by omega) (by omega)
    have em32 : (j7 * j10).toInt = j7.toInt * ((j3.toInt * 0) + (j7.toInt * 0)) := by rw [own_mul (by rw [(rfl : j7.toInt = j7.toInt), ev_j10]; omega) (by rw [(rfl : j7.toInt = j7.toInt), ev_j10]; omega), (rfl : j7.toInt = j7.toInt), ev_j10]
    have em30 : ((j6 * j9) + (j7 * j10)).toInt = (j6.toInt * (((j2.toInt * j8.toInt) + (j5.toInt * 0)) + (j6.toInt * 0))) + (j7.toInt * ((j3.toInt * 0) + (j7.toInt * 0))) := by rw [own_add (by rw [em31, em32]; omega) (by rw [em31, em32]; omega), em31, em32]
    have rm30 : -35184372088832 ≤ (j6.toInt * (((j2.toInt * j8.toInt) + (j5.toInt * 0)) + (j6.toInt * 0))) + (j7.toInt * ((j3.toInt * 0) + (j7.toInt * 0))) ∧ (j6.toInt * (((j2.toInt * j8.toInt) + (j5.toInt * 0)) + (j6.toInt * 0))) + (j7.toInt * ((j3.toInt * 0) + (j7.toInt * 0))) ≤ 35184372088832 := by omega
    have rm33 : 0 ≤ j4.toInt * (j4.toInt * 0) ∧ j4.toInt * (j4.toInt * 0) ≤ 0 := own_m (X := 128) (Y := 0) (by omega) (by omega) (by omega) (by omega)
    have em33 : (j4 * j11).toInt = j4.toInt * (j4.toInt * 0) := by rw [own_mul (by rw [(rfl : j4.toInt = j4.toInt), ev_j11]; omega) (by rw [(rfl : j4.toInt = j4.toInt), ev_j11]; omega), (rfl : j4.toInt = j4.toInt), ev_j11]
    have em29 : (((j6 * j9) + (j7 * j10)) + (j4 * j11)).toInt = ((j6.toInt * (((j2.toInt * j8.toInt) + (j5.toInt * 0)) + (j6.toInt * 0))) + (j7.toInt * ((j3.toInt * 0) + (j7.toInt * 0)))) + (j4.toInt * (j4.toInt * 0)) := by rw [own_add (by rw [em30, em33]; omega) (by rw [em30, em33]; omega), em30, em33]
    have rm29 : -35184372088832 ≤ ((j6.toInt * (((j2.toInt * j8.toInt) + (j5.toInt * 0)) + (j6.toInt * 0))) + (j7.toInt * ((j3.toInt * 0) + (j7.toInt * 0)))) + (j4.toInt * (j4.toInt * 0)) ∧ ((j6.toInt * (((j2.toInt * j8.toInt) + (j5.toInt * 0)) + (j6.toInt * 0))) + (j7.toInt * ((j3.toInt * 0) + (j7.toInt * 0)))) + (j4.toInt * (j4.toInt * 0)) ≤ 35184372088832 := by omega
    have ev_j14 : j14.toInt = ((j6.toInt * (((j2.toInt * j8.toInt) + (j5.toInt * 0)) + (j6.toInt * 0))) + (j7.toInt * ((j3.toInt * 0) + (j7.toInt * 0)))) + (j4.toInt * (j4.toInt * 0)) := by rw [e_j14]; exact em29
    refine g_iload C X0 (pc' := 178) at_176 rfl rfl ?_
    refine g_iconst C X0 (pc' := 179) at_178 (v := (2 : Int32)) (by decide) rfl ?_
    refine g_ishr C X0 (pc' := 180) at_179 rfl ?_
    refine g_i2d C X0 (pc' := 181) at_180 rfl ?_
    obtain ⟨d34, e_d34⟩ : ∃ z : UInt64, z = FP.i2d (p5 >>> ((2 : Int32) &&& 31)) := ⟨_, rfl⟩
    have D_d34 : FP.Core.DInt ((p5 >>> ((2 : Int32) &&& 31)).toInt) d34 := e_d34 ▸ (i2d_D (p5 >>> ((2 : Int32) &&& 31)))
    refine g_dstore C X0 (pc' := 183) at_181 (x := d34) e_d34 (l' := #[.val (.int p0), .val (.int p1), .val (.int p2), .val (.int p3), .val (.int p4), .val (.int p5), .val (.int (1 : Int32)), .val (.long j2), .second, .val (.long j3), .second, .val (.long j4), .second, .val (.long j5), .second, .val (.long j6), .second, .val (.long j7), .second, .val (.long j8), .second, .val (.long (0 : Int64)), .second, .val (.long (0 : Int64)), .second, .val (.long j9), .second, .val (.long j10), .second, .val (.long j11), .second, .val (.long j12), .second, .val (.long j13), .second, .val (.long j14), .second, .val (.double d34), .second, .unset, .unset, .unset]) rfl rfl ?_
    refine g_iload C X0 (pc' := 185) at_183 rfl rfl ?_
    refine g_iload C X0 (pc' := 187) at_185 rfl rfl ?_
    refine g_imul C X0 (pc' := 188) at_187 rfl ?_
    refine g_newP C X0 (aty := .double) (hw _ (List.mem_of_getElem? (i := 1) rfl)) e0 at_188 (by decide) 1 (by decide) (by decide) (by decide) (by decide) rfl ?_
    intro T1 h1 a1 k1 g1 X1 e1 E1 A1
    have z_a1 : n0 ≤ a1 := by rw [g1]; exact Z0
    have Z1 : n0 ≤ h1.size := Nat.le_trans Z0 E1.1
    have A1 : Arv Z h1 a1 k1 .double ((1 : Int32) * (1 : Int32)) [] (.double (0 : UInt64)) := A1
    refine g_astore C X1 (pc' := 192) at_190 rfl (l' := #[.val (.int p0), .val (.int p1), .val (.int p2), .val (.int p3), .val (.int p4), .val (.int p5), .val (.int (1 : Int32)), .val (.long j2), .second, .val (.long j3), .second, .val (.long j4), .second, .val (.long j5), .second, .val (.long j6), .second, .val (.long j7), .second, .val (.long j8), .second, .val (.long (0 : Int64)), .second, .val (.long (0 : Int64)), .second, .val (.long j9), .second, .val (.long j10), .second, .val (.long j11), .second, .val (.long j12), .second, .val (.long j13), .second, .val (.long j14), .second, .val (.double d34), .second, .val (.ref a1), .unset, .unset]) rfl rfl ?_
    refine g_iload C X1 (pc' := 194) at_192 rfl rfl ?_
    refine g_newP C X1 (aty := .double) (hw _ (List.mem_of_getElem? (i := 1) rfl)) e1 at_194 (by decide) 1 (by decide) (by decide) (by decide) (by decide) rfl ?_
    intro T2 h2 a2 k2 g2 X2 e2 E2 A2
    have ne_a1_a2 : a1 ≠ a2 := Nat.ne_of_lt (by rw [g2]; exact A1.lt)
    have z_a2 : n0 ≤ a2 := by rw [g2]; exact Z1
    have A1 := A1.ext E2
    have Z2 : n0 ≤ h2.size := Nat.le_trans Z1 E2.1
    have A2 : Arv Z h2 a2 k2 .double (1 : Int32) [] (.double (0 : UInt64)) := A2
    refine g_astore C X2 (pc' := 198) at_196 rfl (l' := #[.val (.int p0), .val (.int p1), .val (.int p2), .val (.int p3), .val (.int p4), .val (.int p5), .val (.int (1 : Int32)), .val (.long j2), .second, .val (.long j3), .second, .val (.long j4), .second, .val (.long j5), .second, .val (.long j6), .second, .val (.long j7), .second, .val (.long j8), .second, .val (.long (0 : Int64)), .second, .val (.long (0 : Int64)), .second, .val (.long j9), .second, .val (.long j10), .second, .val (.long j11), .second, .val (.long j12), .second, .val (.long j13), .second, .val (.long j14), .second, .val (.double d34), .second, .val (.ref a1), .val (.ref a2), .unset]) rfl rfl ?_
    refine g_aload C X2 (pc' := 200) at_198 rfl rfl rfl ?_
    refine g_iconst C X2 (pc' := 201) at_200 (v := (0 : Int32)) (by decide) rfl ?_
    refine g_lload C X2 (pc' := 203) at_201 rfl rfl ?_
    refine g_l2d C X2 (pc' := 204) at_203 rfl ?_
    refine g_dastore C X2 (pc' := 205) e2 A1 (by decide) (by decide) 0 1 (by decide) (of_decide_eq_true rfl) at_204 rfl ?_
    intro T3 h3 X3 e3 W3 Aq
    have A2 := A2.other W3 (Ne.symm ne_a1_a2)
    have Z3 : n0 ≤ h3.size := by rw [W3.size]; exact Z2
    have N3 := Fr.snoc X3 (Fr.nil n0) z_a1
    have A1 : Arv Z h3 a1 k1 .double ((1 : Int32) * (1 : Int32)) [(.double (FP.l2d j2))] (.double (0 : UInt64)) := Aq
    refine g_aload C X3 (pc' := 207) at_205 rfl rfl rfl ?_
    refine g_iconst C X3 (pc' := 208) at_207 (v := (0 : Int32)) (by decide) rfl ?_
    refine g_lload C X3 (pc' := 210) at_208 rfl rfl ?_
    refine g_l2d C X3 (pc' := 211) at_210 rfl ?_
    refine g_dastore C X3 (pc' := 212) e3 A2 (by decide) (by decide) 0 1 (by decide) (of_decide_eq_true rfl) at_211 rfl ?_
    intro T4 h4 X4 e4 W4 Aq
    have A1 := A1.other W4 ne_a1_a2
    have Z4 : n0 ≤ h4.size := by rw [W4.size]; exact Z3
    have N4 := Fr.snoc X4 N3 z_a2
    have A2 : Arv Z h4 a2 k2 .double (1 : Int32) [(.double (FP.l2d j12))] (.double (0 : UInt64)) := Aq
    refine g_iload C X4 (pc' := 214) at_212 rfl rfl ?_
    refine g_iconst C X4 (pc' := 215) at_214 (v := (2 : Int32)) (by decide) rfl ?_
    refine g_icmpY C X4 at_215 (pc' := 249) (by decide) (by decide) (by decide) ?_
    refine g_iload C X4 (pc' := 251) at_249 rfl rfl ?_
    refine g_iconst C X4 (pc' := 252) at_251 (v := (3 : Int32)) (by decide) rfl ?_
    refine g_icmpY C X4 at_252 (pc' := 298) (by decide) (by decide) (by decide) ?_
    refine g_aload C X4 (pc' := 300) at_298 rfl rfl rfl ?_
    refine g_iload C X4 (pc' := 302) at_300 rfl rfl ?_
    refine g_aload C X4 (pc' := 304) at_302 rfl rfl rfl ?_
    have ez0 := ev_j9
    have ez1 := ev_j10
    have ez2 := ev_j11
    have pd0 := own_m (X := 128) (Y := 274877906944) (x := j2.toInt) (y := j9.toInt) (by omega) (by omega) (by omega) (by omega)
    have er0 : j12.toInt = j2.toInt * j9.toInt := by rw [e_j12, own_mul (by omega) (by omega)]
    have g0 : j12.toInt = j9.toInt * j2.toInt := by rw [er0]; exact own_a1 _ _
    have g3 : j9.toInt = j8.toInt * j2.toInt := by rw [own_a1 j8.toInt j2.toInt]; omega
    refine g_callS C X4 (c_solve1 l Z h4 n0 Z4 a1 a2 k1 k2 ne_a1_a2 z_a2 (FP.l2d j2) (FP.l2d j12) j2.toInt j12.toInt j9.toInt j8.toInt (l2d_D (x := j2) (by show _ ≤ 9007199254740992; omega)) (l2d_D (x := j12) (by rw [ev_j12]; show _ ≤ 9007199254740992; omega)) (by omega) g0 g3 (by omega) (by omega) (by omega) A1 A2) (hw _ (List.mem_of_getElem? (i := 2) rfl)) (hw _ (List.mem_of_getElem? (i := 3) rfl)) (hw _ (List.mem_of_getElem? (i := 4) rfl)) (hw _ (List.mem_of_getElem? (i := 5) rfl)) (by decide) e4 at_304 rfl pdS [(.ref a1), (.int (1 : Int32)), (.ref a2)] [] rfl rfl rfl 0 rfl (by decide) (by decide) (by decide) (by decide) rfl ?_
    rintro _ T5 L5 X5 ⟨rfl, M5, K5, u5_0, Du5_0, V5⟩
    have A1 := A1.keep K5 (ninS ne_a1_a2 nin0)
    have Z5 : n0 ≤ T5.heap.size := Nat.le_trans Z4 K5.1
    have N5 := Fr.app N4 M5
    obtain ⟨h5, e5⟩ : ∃ z, T5.heap = z := ⟨_, rfl⟩
    rw [e5] at A1 V5 Z5
    show Go p.tables e below _ T5 (mkF m 307 #[.val (.int p0), .val (.int p1), .val (.int p2), .val (.int p3), .val (.int p4), .val (.int p5), .val (.int (1 : Int32)), .val (.long j2), .second, .val (.long j3), .second, .val (.long j4), .second, .val (.long j5), .second, .val (.long j6), .second, .val (.long j7), .second, .val (.long j8), .second, .val (.long (0 : Int64)), .second, .val (.long (0 : Int64)), .second, .val (.long j9), .second, .val (.long j10), .second, .val (.long j11), .second, .val (.long j12), .second, .val (.long j13), .second, .val (.long j14), .second, .val (.double d34), .second, .val (.ref a1), .val (.ref a2), .unset] [])
    refine g_aload C X5 (pc' := 309) at_307 rfl rfl rfl ?_
    refine g_iconst C X5 (pc' := 310) at_309 (v := (0 : Int32)) (by decide) rfl ?_
    refine g_daload C X5 (pc' := 311) e5 V5 (by decide) (by decide) 0 (by decide) rfl at_310 rfl ?_
    refine g_lload C X5 (pc' := 313) at_311 rfl rfl ?_
    refine g_l2d C X5 (pc' := 314) at_313 rfl ?_
    refine g_dcmpV C X5 at_314 (v := (0 : Int32)) ((dcmp_cmpI Du5_0 (l2d_D (x := j8) (by show _ ≤ 9007199254740992; omega)) _).trans (cmpI_self _)) rfl ?_
    refine g_ifN C X5 at_315 (by decide) rfl ?_
    refine g_iconst C X5 (pc' := 319) at_318 (v := (1 : Int32)) (by decide) rfl ?_
    refine g_goto C X5 at_319 (pc' := 323) (by decide) (by decide) ?_
    refine g_istore C X5 (pc' := 325) at_323 (x := (1 : Int32)) rfl (l' := #[.val (.int p0), .val (.int p1), .val (.int p2), .val (.int p3), .val (.int p4), .val (.int p5), .val (.int (1 : Int32)), .val (.long j2), .second, .val (.long j3), .second, .val (.long j4), .second, .val (.long j5), .second, .val (.long j6), .second, .val (.long j7), .second, .val (.long j8), .second, .val (.long (0 : Int64)), .second, .val (.long (0 : Int64)), .second, .val (.long j9), .second, .val (.long j10), .second, .val (.long j11), .second, .val (.long j12), .second, .val (.long j13), .second, .val (.long j14), .second, .val (.double d34), .second, .val (.ref a1), .val (.ref a2), .val (.int (1 : Int32))]) rfl rfl ?_
    refine g_iload C X5 (pc' := 327) at_325 rfl rfl ?_
    refine g_iconst C X5 (pc' := 328) at_327 (v := (2 : Int32)) (by decide) rfl ?_
    refine g_icmpY C X5 at_328 (pc' := 354) (by decide) (by decide) (by decide) ?_
    refine g_iload C X5 (pc' := 356) at_354 rfl rfl ?_
    refine g_iconst C X5 (pc' := 357) at_356 (v := (3 : Int32)) (by decide) rfl ?_
    refine g_icmpY C X5 at_357 (pc' := 383) (by decide) (by decide) (by decide) ?_
    refine g_iload C X5 (pc' := 385) at_383 rfl rfl ?_
    exact g_zreturn C X5 at_385 (w := 1) (by decide) ⟨rfl, N5⟩ (by decide) (by decide)
  · show Go p.tables e below _ T0 (mkF m 11 #[.val (.int p0), .val (.int p1), .val (.int p2), .val (.int p3), .val (.int p4), .val (.int p5), .val (.int (2 : Int32)), .unset, .unset, .unset, .unset, .unset, .unset, .unset, .unset, .unset, .unset, .unset, .unset, .unset, .unset, .unset, .unset, .unset, .unset, .unset, .unset, .unset, .unset, .unset, .unset, .unset, .unset, .unset, .unset, .unset, .unset, .unset, .unset, .unset, .unset, .unset] [])
    refine g_iconst C X0 (pc' := 12) at_11 (v := (1 : Int32)) (by decide) rfl ?_
    refine g_iloadN C X0 (pc' := 13) at_12 rfl rfl ?_
    refine g_bipush C X0 (pc' := 15) at_13 (v := (127 : Int32)) (by decide) rfl ?_
    refine g_iand C X0 (pc' := 16) at_15 rfl ?_
    refine g_iadd C X0 (pc' := 17) at_16 rfl ?_
    refine g_i2l C X0 (pc' := 18) at_17 rfl ?_
    obtain ⟨j35, e_j35⟩ : ∃ z : Int64, z = ((1 : Int32) + (p0 &&& (127 : Int32))).toInt64 := ⟨_, rfl⟩
    refine g_lstore C X0 (pc' := 20) at_18 (x := j35) e_j35 (l' := #[.val (.int p0), .val (.int p1), .val (.int p2), .val (.int p3), .val (.int p4), .val (.int p5), .val (.int (2 : Int32)), .val (.long j35), .second, .unset, .unset, .unset, .unset, .unset, .unset, .unset, .unset, .unset, .unset, .unset, .unset, .unset, .unset, .unset, .unset, .unset, .unset, .unset, .unset, .unset, .unset, .unset, .unset, .unset, .unset, .unset, .unset, .unset, .unset, .unset, .unset, .unset]) rfl rfl ?_
    have bd0 := own_d p0
    rw [← e_j35] at bd0
    refine g_iconst C X0 (pc' := 21) at_20 (v := (1 : Int32)) (by decide) rfl ?_
    refine g_iloadN C X0 (pc' := 22) at_21 rfl rfl ?_
    refine g_bipush C X0 (pc' := 24) at_22 (v := (8 : Int32)) (by decide) rfl ?_
    refine g_ishr C X0 (pc' := 25) at_24 rfl ?_
    refine g_bipush C X0 (pc' := 27) at_25 (v := (127 : Int32)) (by decide) rfl ?_
    refine g_iand C X0 (pc' := 28) at_27 rfl ?_
    refine g_iadd C X0 (pc' := 29) at_28 rfl ?_
    refine g_i2l C X0 (pc' := 30) at_29 rfl ?_
    obtain ⟨j36, e_j36⟩ : ∃ z : Int64, z = ((1 : Int32) + ((p0 >>> ((8 : Int32) &&& 31)) &&& (127 : Int32))).toInt64 := ⟨_, rfl⟩
    refine g_lstore C X0 (pc' := 32) at_30 (x := j36) e_j36 (l' := #[.val (.int p0), .val (.int p1), .val (.int p2), .val (.int p3), .val (.int p4), .val (.int p5), .val (.int (2 : Int32)), .val (.long j35), .second, .val (.long j36), .second, .unset, .unset, .unset, .unset, .unset, .unset, .unset, .unset, .unset, .unset, .unset, .unset, .unset, .unset, .unset, .unset, .unset, .unset, .unset, .unset, .unset, .unset, .unset, .unset, .unset, .unset, .unset, .unset, .unset, .unset, .unset]) rfl rfl ?_
    have bd1 := own_d (p0 >>> ((8 : Int32) &&& 31))
    rw [← e_j36] at bd1
    refine g_iconst C X0 (pc' := 33) at_32 (v := (1 : Int32)) (by decide) rfl ?_
    refine g_iloadN C X0 (pc' := 34) at_33 rfl rfl ?_
    refine g_bipush C X0 (pc' := 36) at_34 (v := (16 : Int32)) (by decide) rfl ?_
    refine g_ishr C X0 (pc' := 37) at_36 rfl ?_
    refine g_bipush C X0 (pc' := 39) at_37 (v := (127 : Int32)) (by decide) rfl ?_
    refine g_iand C X0 (pc' := 40) at_39 rfl ?_
    refine g_iadd C X0 (pc' := 41) at_40 rfl ?_
    refine g_i2l C X0 (pc' := 42) at_41 rfl ?_
    obtain ⟨j37, e_j37⟩ : ∃ z : Int64, z = ((1 : Int32) + ((p0 >>> ((16 : Int32) &&& 31)) &&& (127 : Int32))).toInt64 := ⟨_, rfl⟩
    refine g_lstore C X0 (pc' := 44) at_42 (x := j37) e_j37 (l' := #[.val (.int p0), .val (.int p1), .val (.int p2), .val (.int p3), .val (.int p4), .val (.int p5), .val (.int (2 : Int32)), .val (.long j35), .second, .val (.long j36), .second, .val (.long j37), .second, .unset, .unset, .unset, .unset, .unset, .unset, .unset, .unset, .unset, .unset, .unset, .unset, .unset, .unset, .unset, .unset, .unset, .unset, .unset, .unset, .unset, .unset, .unset, .unset, .unset, .unset, .unset, .unset, .unset]) rfl rfl ?_
    have bd2 := own_d (p0 >>> ((16 : Int32) &&& 31))
    rw [← e_j37] at bd2
    refine g_iloadN C X0 (pc' := 45) at_44 rfl rfl ?_
    refine g_i2b C X0 (pc' := 46) at_45 rfl ?_
    refine g_i2l C X0 (pc' := 47) at_46 rfl ?_
    obtain ⟨j38, e_j38⟩ : ∃ z : Int64, z = p1.toInt8.toInt32.toInt64 := ⟨_, rfl⟩
    refine g_lstore C X0 (pc' := 49) at_47 (x := j38) e_j38 (l' := #[.val (.int p0), .val (.int p1), .val (.int p2), .val (.int p3), .val (.int p4), .val (.int p5), .val (.int (2 : Int32)), .val (.long j35), .second, .val (.long j36), .second, .val (.long j37), .second, .val (.long j38), .second, .unset, .unset, .unset, .unset, .unset, .unset, .unset, .unset, .unset, .unset, .unset, .unset, .unset, .unset, .unset, .unset, .unset, .unset, .unset, .unset, .unset, .unset, .unset, .unset, .unset, .unset, .unset]) rfl rfl ?_
    have bl10 := own_b p1
    rw [← e_j38] at bl10
    refine g_iloadN C X0 (pc' := 50) at_49 rfl rfl ?_
    refine g_bipush C X0 (pc' := 52) at_50 (v := (8 : Int32)) (by decide) rfl ?_
    refine g_ishr C X0 (pc' := 53) at_52 rfl ?_
    refine g_i2b C X0 (pc' := 54) at_53 rfl ?_
    refine g_i2l C X0 (pc' := 55) at_54 rfl ?_
    obtain ⟨j39, e_j39⟩ : ∃ z : Int64, z = ((p1 >>> ((8 : Int32) &&& 31)).toInt8.toInt32).toInt64 := ⟨_, rfl⟩
    refine g_lstore C X0 (pc' := 57) at_55 (x := j39) e_j39 (l' := #[.val (.int p0), .val (.int p1), .val (.int p2), .val (.int p3), .val (.int p4), .val (.int p5), .val (.int (2 : Int32)), .val (.long j35), .second, .val (.long j36), .second, .val (.long j37), .second, .val (.long j38), .second, .val (.long j39), .second, .unset, .unset, .unset, .unset, .unset, .unset, .unset, .unset, .unset, .unset, .unset, .unset, .unset, .unset, .unset, .unset, .unset, .unset, .unset, .unset, .unset, .unset, .unset, .unset, .unset]) rfl rfl ?_
    have bl20 := own_b (p1 >>> ((8 : Int32) &&& 31))
    rw [← e_j39] at bl20
    refine g_iloadN C X0 (pc' := 58) at_57 rfl rfl ?_
    refine g_bipush C X0 (pc' := 60) at_58 (v := (16 : Int32)) (by decide) rfl ?_
    refine g_ishr C X0 (pc' := 61) at_60 rfl ?_
    refine g_i2b C X0 (pc' := 62) at_61 rfl ?_
    refine g_i2l C X0 (pc' := 63) at_62 rfl ?_
    obtain ⟨j40, e_j40⟩ : ∃ z : Int64, z = ((p1 >>> ((16 : Int32) &&& 31)).toInt8.toInt32).toInt64 := ⟨_, rfl⟩
    refine g_lstore C X0 (pc' := 65) at_63 (x := j40) e_j40 (l' := #[.val (.int p0), .val (.int p1), .val (.int p2), .val (.int p3), .val (.int p4), .val (.int p5), .val (.int (2 : Int32)), .val (.long j35), .second, .val (.long j36), .second, .val (.long j37), .second, .val (.long j38), .second, .val (.long j39), .second, .val (.long j40), .second, .unset, .unset, .unset, .unset, .unset, .unset, .unset, .unset, .unset, .unset, .unset, .unset, .unset, .unset, .unset, .unset, .unset, .unset, .unset, .unset, .unset, .unset, .unset]) rfl rfl ?_
    have bl21 := own_b (p1 >>> ((16 : Int32) &&& 31))
    rw [← e_j40] at bl21
    refine g_iloadN C X0 (pc' := 66) at_65 rfl rfl ?_
    refine g_i2l C X0 (pc' := 67) at_66 rfl ?_
    obtain ⟨j41, e_j41⟩ : ∃ z : Int64, z = p2.toInt64 := ⟨_, rfl⟩
    refine g_lstore C X0 (pc' := 69) at_67 (x := j41) e_j41 (l' := #[.val (.int p0), .val (.int p1), .val (.int p2), .val (.int p3), .val (.int p4), .val (.int p5), .val (.int (2 : Int32)), .val (.long j35), .second, .val (.long j36), .second, .val (.long j37), .second, .val (.long j38), .second, .val (.long j39), .second, .val (.long j40), .second, .val (.long j41), .second, .unset, .unset, .unset, .unset, .unset, .unset, .unset, .unset, .unset, .unset, .unset, .unset, .unset, .unset, .unset, .unset, .unset, .unset, .unset, .unset, .unset]) rfl rfl ?_
    have bu0 := own_u p2
    rw [← e_j41] at bu0
    refine g_iload C X0 (pc' := 71) at_69 rfl rfl ?_
    refine g_iconst C X0 (pc' := 72) at_71 (v := (1 : Int32)) (by decide) rfl ?_
    refine g_icmpN C X0 at_72 (by decide) rfl ?_
    refine g_iloadN C X0 (pc' := 76) at_75 rfl rfl ?_
    refine g_i2l C X0 (pc' := 77) at_76 rfl ?_
    refine g_goto C X0 at_77 (pc' := 81) (by decide) (by decide) ?_
    obtain ⟨j42, e_j42⟩ : ∃ z : Int64, z = p3.toInt64 := ⟨_, rfl⟩
    refine g_lstore C X0 (pc' := 83) at_81 (x := j42) e_j42 (l' := #[.val (.int p0), .val (.int p1), .val (.int p2), .val (.int p3), .val (.int p4), .val (.int p5), .val (.int (2 : Int32)), .val (.long j35), .second, .val (.long j36), .second, .val (.long j37), .second, .val (.long j38), .second, .val (.long j39), .second, .val (.long j40), .second, .val (.long j41), .second, .val (.long j42), .second, .unset, .unset, .unset, .unset, .unset, .unset, .unset, .unset, .unset, .unset, .unset, .unset, .unset, .unset, .unset, .unset, .unset, .unset, .unset]) rfl rfl ?_
    have bu1 := own_u p3
    rw [← e_j42] at bu1
    refine g_iload C X0 (pc' := 85) at_83 rfl rfl ?_
    refine g_iconst C X0 (pc' := 86) at_85 (v := (2 : Int32)) (by decide) rfl ?_
    refine g_icmpY C X0 at_86 (pc' := 95) (by decide) (by decide) (by decide) ?_
    refine g_lconst C X0 (pc' := 96) at_95 (v := (0 : Int64)) (by decide) rfl ?_
    refine g_lstore C X0 (pc' := 98) at_96 (x := (0 : Int64)) rfl (l' := #[.val (.int p0), .val (.int p1), .val (.int p2), .val (.int p3), .val (.int p4), .val (.int p5), .val (.int (2 : Int32)), .val (.long j35), .second, .val (.long j36), .second, .val (.long j37), .second, .val (.long j38), .second, .val (.long j39), .second, .val (.long j40), .second, .val (.long j41), .second, .val (.long j42), .second, .val (.long (0 : Int64)), .second, .unset, .unset, .unset, .unset, .unset, .unset, .unset, .unset, .unset, .unset, .unset, .unset, .unset, .unset, .unset, .unset, .unset]) rfl rfl ?_
    refine g_lload C X0 (pc' := 100) at_98 rfl rfl ?_
    refine g_lload C X0 (pc' := 102) at_100 rfl rfl ?_
    refine g_lmul C X0 (pc' := 103) at_102 rfl ?_
    refine g_lload C X0 (pc' := 105) at_103 rfl rfl ?_
    refine g_lload C X0 (pc' := 107) at_105 rfl rfl ?_
    refine g_lmul C X0 (pc' := 108) at_107 rfl ?_
    refine g_ladd C X0 (pc' := 109) at_108 rfl ?_
    refine g_lload C X0 (pc' := 111) at_109 rfl rfl ?_
    refine g_lload C X0 (pc' := 113) at_111 rfl rfl ?_
    refine g_lmul C X0 (pc' := 114) at_113 rfl ?_
    refine g_ladd C X0 (pc' := 115) at_114 rfl ?_
    obtain ⟨j43, e_j43⟩ : ∃ z : Int64, z = ((j35 * j41) + (j38 * j42)) + (j39 * (0 : Int64)) := ⟨_, rfl⟩
    refine g_lstore C X0 (pc' := 117) at_115 (x := j43) e_j43 (l' := #[.val (.int p0), .val (.int p1), .val (.int p2), .val (.int p3), .val (.int p4), .val (.int p5), .val (.int (2 : Int32)), .val (.long j35), .second, .val (.long j36), .second, .val (.long j37), .second, .val (.long j38), .second, .val (.long j39), .second, .val (.long j40), .second, .val (.long j41), .second, .val (.long j42), .second, .val (.long (0 : Int64)), .second, .val (.long j43), .second, .unset, .unset, .unset, .unset, .unset, .unset, .unset, .unset, .unset, .unset, .unset, .unset, .unset, .unset, .unset]) rfl rfl ?_
    refine g_lload C X0 (pc' := 119) at_117 rfl rfl ?_
    refine g_lload C X0 (pc' := 121) at_119 rfl rfl ?_
    refine g_lmul C X0 (pc' := 122) at_121 rfl ?_
    refine g_lload C X0 (pc' := 124) at_122 rfl rfl ?_
    refine g_lload C X0 (pc' := 126) at_124 rfl rfl ?_
    refine g_lmul C X0 (pc' := 127) at_126 rfl ?_
    refine g_ladd C X0 (pc' := 128) at_127 rfl ?_
    obtain ⟨j44, e_j44⟩ : ∃ z : Int64, z = (j36 * j42) + (j40 * (0 : Int64)) := ⟨_, rfl⟩
    refine g_lstore C X0 (pc' := 130) at_128 (x := j44) e_j44 (l' := #[.val (.int p0), .val (.int p1), .val (.int p2), .val (.int p3), .val (.int p4), .val (.int p5), .val (.int (2 : Int32)), .val (.long j35), .second, .val (.long j36), .second, .val (.long j37), .second, .val (.long j38), .second, .val (.long j39), .second, .val (.long j40), .second, .val (.long j41), .second, .val (.long j42), .second, .val (.long (0 : Int64)), .second, .val (.long j43), .second, .val (.long j44), .second, .unset, .unset, .unset, .unset, .unset, .unset, .unset, .unset, .unset, .unset, .unset, .unset, .unset]) rfl rfl ?_
    refine g_lload C X0 (pc' := 132) at_130 rfl rfl ?_
    refine g_lload C X0 (pc' := 134) at_132 rfl rfl ?_
    refine g_lmul C X0 (pc' := 135) at_134 rfl ?_
    obtain ⟨j45, e_j45⟩ : ∃ z : Int64, z = j37 * (0 : Int64) := ⟨_, rfl⟩
    refine g_lstore C X0 (pc' := 137) at_135 (x := j45) e_j45 (l' := #[.val (.int p0), .val (.int p1), .val (.int p2), .val (.int p3), .val (.int p4), .val (.int p5), .val (.int (2 : Int32)), .val (.long j35), .second, .val (.long j36), .second, .val (.long j37), .second, .val (.long j38), .second, .val (.long j39), .second, .val (.long j40), .second, .val (.long j41), .second, .val (.long j42), .second, .val (.long (0 : Int64)), .second, .val (.long j43), .second, .val (.long j44), .second, .val (.long j45), .second, .unset, .unset, .unset, .unset, .unset, .unset, .unset, .unset, .unset, .unset, .unset]) rfl rfl ?_
    refine g_lload C X0 (pc' := 139) at_137 rfl rfl ?_
    refine g_lload C X0 (pc' := 141) at_139 rfl rfl ?_
    refine g_lmul C X0 (pc' := 142) at_141 rfl ?_
    obtain ⟨j46, e_j46⟩ : ∃ z : Int64, z = j35 * j43 := ⟨_, rfl⟩
    refine g_lstore C X0 (pc' := 144) at_142 (x := j46) e_j46 (l' := #[.val (.int p0), .val (.int p1), .val (.int p2), .val (.int p3), .val (.int p4), .val (.int p5), .val (.int (2 : Int32)), .val (.long j35), .second, .val (.long j36), .second, .val (.long j37), .second, .val (.long j38), .second, .val (.long j39), .second, .val (.long j40), .second, .val (.long j41), .second, .val (.long j42), .second, .val (.long (0 : Int64)), .second, .val (.long j43), .second, .val (.long j44), .second, .val (.long j45), .second, .val (.long j46), .second, .unset, .unset, .unset, .unset, .unset, .unset, .unset, .unset, .unset]) rfl rfl ?_
    refine g_lload C X0 (pc' := 146) at_144 rfl rfl ?_
    refine g_lload C X0 (pc' := 148) at_146 rfl rfl ?_
    refine g_lmul C X0 (pc' := 149) at_148 rfl ?_
    refine g_lload C X0 (pc' := 151) at_149 rfl rfl ?_
    refine g_lload C X0 (pc' := 153) at_151 rfl rfl ?_
    refine g_lmul C X0 (pc' := 154) at_153 rfl ?_
    refine g_ladd C X0 (pc' := 155) at_154 rfl ?_
    obtain ⟨j47, e_j47⟩ : ∃ z : Int64, z = (j38 * j43) + (j36 * j44) := ⟨_, rfl⟩
    refine g_lstore C X0 (pc' := 157) at_155 (x := j47) e_j47 (l' := #[.val (.int p0), .val (.int p1), .val (.int p2), .val (.int p3), .val (.int p4), .val (.int p5), .val (.int (2 : Int32)), .val (.long j35), .second, .val (.long j36), .second, .val (.long j37), .second, .val (.long j38), .second, .val (.long j39), .second, .val (.long j40), .second, .val (.long j41), .second, .val (.long j42), .second, .val (.long (0 : Int64)), .second, .val (.long j43), .second, .val (.long j44), .second, .val (.long j45), .second, .val (.long j46), .second, .val (.long j47), .second, .unset, .unset, .unset, .unset, .unset, .unset, .unset]) rfl rfl ?_
    refine g_lload C X0 (pc' := 159) at_157 rfl rfl ?_
    refine g_lload C X0 (pc' := 161) at_159 rfl rfl ?_
    refine g_lmul C X0 (pc' := 162) at_161 rfl ?_
    refine g_lload C X0 (pc' := 164) at_162 rfl rfl ?_
    refine g_lload C X0 (pc' := 166) at_164 rfl rfl ?_
    refine g_lmul C X0 (pc' := 167) at_166 rfl ?_
    refine g_ladd C X0 (pc' := 168) at_167 rfl ?_
    refine g_lload C X0 (pc' := 170) at_168 rfl rfl ?_
    refine g_lload C X0 (pc' := 172) at_170 rfl rfl ?_
    refine g_lmul C X0 (pc' := 173) at_172 rfl ?_
    refine g_ladd C X0 (pc' := 174) at_173 rfl ?_
    obtain ⟨j48, e_j48⟩ : ∃ z : Int64, z = ((j39 * j43) + (j40 * j44)) + (j37 * j45) := ⟨_, rfl⟩
    refine g_lstore C X0 (pc' := 176) at_174 (x := j48) e_j48 (l' := #[.val (.int p0), .val (.int p1), .val (.int p2), .val (.int p3), .val (.int p4), .val (.int p5), .val (.int (2 : Int32)), .val (.long j35), .second, .val (.long j36), .second, .val (.long j37), .second, .val (.long j38), .second, .val (.long j39), .second, .val (.long j40), .second, .val (.long j41), .second, .val (.long j42), .second, .val (.long (0 : Int64)), .second, .val (.long j43), .second, .val (.long j44), .second, .val (.long j45), .second, .val (.long j46), .second, .val (.long j47), .second, .val (.long j48), .second, .unset, .unset, .unset, .unset, .unset]) rfl rfl ?_
    have rm51 : -274877906944 ≤ j35.toInt * j41.toInt ∧ j35.toInt * j41.toInt ≤ 274877906944 := own_m (X := 128) (Y := 2147483648) (by omega) (by omega) (by omega) (by omega)
    have em51 : (j35 * j41).toInt = j35.toInt * j41.toInt := by rw [own_mul (by rw [(rfl : j35.toInt = j35.toInt), (rfl : j41.toInt = j41.toInt)]; omega) (by rw [(rfl : j35.toInt = j35.toInt), (rfl : j41.toInt = j41.toInt)]; omega), (rfl : j35.toInt = j35.toInt), (rfl : j41.toInt = j41.toInt)]
    have rm52 : -274877906944 ≤ j38.toInt * j42.toInt ∧ j38.toInt * j42.toInt ≤ 274877906944 := own_m (X := 128) (Y := 2147483648) (by omega) (by omega) (by omega) (by omega)
    have em52 : (j38 * j42).toInt = j38.toInt * j42.toInt := by rw [own_mul (by rw [(rfl : j38.toInt = j38.toInt), (rfl : j42.toInt = j42.toInt)]; omega) (by rw [(rfl : j38.toInt = j38.toInt), (rfl : j42.toInt = j42.toInt)]; omega), (rfl : j38.toInt = j38.toInt), (rfl : j42.toInt = j42.toInt)]
    have em50 : ((j35 * j41) + (j38 * j42)).toInt = (j35.toInt * j41.toInt) + (j38.toInt * j42.toInt) := by rw [own_add (by rw [em51, em52]; omega) (by rw [em51, em52]; omega), em51, em52]
    have rm50 : -549755813888 ≤ (j35.toInt * j41.toInt) + (j38.toInt * j42.toInt) ∧ (j35.toInt * j41.toInt) + (j38.toInt * j42.toInt) ≤ 549755813888 := by omega
    have ek54 : (0 : Int64).toInt = 0 := by decide
    have rk54 : 0 ≤ (0 : Int) ∧ (0 : Int) ≤ 0 := by decide
    have rm53 : 0 ≤ j39.toInt * 0 ∧ j39.toInt * 0 ≤ 0 := own_m (X := 128) (Y := 0) (by omega) (by omega) (by omega) (by omega)
    have em53 : (j39 * (0 : Int64)).toInt = j39.toInt * 0 := by rw [own_mul (by rw [(rfl : j39.toInt = j39.toInt), ek54]; omega) (by rw [(rfl : j39.toInt = j39.toInt), ek54]; omega), (rfl : j39.toInt = j39.toInt), ek54]
    have em49 : (((j35 * j41) + (j38 * j42)) + (j39 * (0 : Int64))).toInt = ((j35.toInt * j41.toInt) + (j38.toInt * j42.toInt)) + (j39.toInt * 0) := by rw [own_add (by rw [em50, em53]; omega) (by rw [em50, em53]; omega), em50, em53]
    have rm49 : -549755813888 ≤ ((j35.toInt * j41.toInt) + (j38.toInt * j42.toInt)) + (j39.toInt * 0) ∧ ((j35.toInt * j41.toInt) + (j38.toInt * j42.toInt)) + (j39.toInt * 0) ≤ 549755813888 := by omega
    have ev_j43 : j43.toInt = ((j35.toInt * j41.toInt) + (j38.toInt * j42.toInt)) + (j39.toInt * 0) := by rw [e_j43]; exact em49
    have rm56 : -274877906944 ≤ j36.toInt * j42.toInt ∧ j36.toInt * j42.toInt ≤ 274877906944 := own_m (X := 128) (Y := 2147483648) (by omega) (by omega) (by omega) (by omega)
    have em56 : (j36 * j42).toInt = j36.toInt * j42.toInt := by rw [own_mul (by rw [(rfl : j36.toInt = j36.toInt), (rfl : j42.toInt = j42.toInt)]; omega) (by rw [(rfl : j36.toInt = j36.toInt), (rfl : j42.toInt = j42.toInt)]; omega), (rfl : j36.toInt = j36.toInt), (rfl : j42.toInt = j42.toInt)]
    have rm57 : 0 ≤ j40.toInt * 0 ∧ j40.toInt * 0 ≤ 0 := own_m (X := 128) (Y := 0) (by omega) (by omega) (by omega) (by omega)
    have em57 : (j40 * (0 : Int64)).toInt = j40.toInt * 0 := by rw [own_mul (by rw [(rfl : j40.toInt = j40.toInt), ek54]; omega) (by rw [(rfl : j40.toInt = j40.toInt), ek54]; omega), (rfl : j40.toInt = j40.toInt), ek54]
    have em55 : ((j36 * j42) + (j40 * (0 : Int64))).toInt = (j36.toInt * j42.toInt) + (j40.toInt * 0) := by rw [own_add (by rw [em56, em57]; omega) (by rw [em56, em57]; omega), em56, em57]
    have rm55 : -274877906944 ≤ (j36.toInt * j42.toInt) + (j40.toInt * 0) ∧ (j36.toInt * j42.toInt) + (j40.toInt * 0) ≤ 274877906944 := by omega
    have ev_j44 : j44.toInt = (j36.toInt * j42.toInt) + (j40.toInt * 0) := by rw [e_j44]; exact em55
    have rm58 : 0 ≤ j37.toInt * 0 ∧ j37.toInt * 0 ≤ 0 := own_m (X := 128) (Y := 0) (by omega) (by omega) (by omega) (by omega)
    have em58 : (j37 * (0 : Int64)).toInt = j37.toInt * 0 := by rw [own_mul (by rw [(rfl : j37.toInt = j37.toInt), ek54]; omega) (by rw [(rfl : j37.toInt = j37.toInt), ek54]; omega), (rfl : j37.toInt = j37.toInt), ek54]
    have ev_j45 : j45.toInt = j37.toInt * 0 := by rw [e_j45]; exact em58
    have rm59 : -70368744177664 ≤ j35.toInt * (((j35.toInt * j41.toInt) + (j38.toInt * j42.toInt)) + (j39.toInt * 0)) ∧ j35.toInt * (((j35.toInt * j41.toInt) + (j38.toInt * j42.toInt)) + (j39.toInt * 0)) ≤ 70368744177664 := own_m (X := 128) (Y := 549755813888) (by omega) (by omega) (by omega) (by omega)
    have em59 : (j35 * j43).toInt = j35.toInt * (((j35.toInt * j41.toInt) + (j38.toInt * j42.toInt)) + (j39.toInt * 0)) := by rw [own_mul (by rw [(rfl : j35.toInt = j35.toInt), ev_j43]; omega) (by rw [(rfl : j35.toInt = j35.toInt), ev_j43]; omega), (rfl : j35.toInt = j35.toInt), ev_j43]
    have ev_j46 : j46.toInt = j35.toInt * (((j35.toInt * j41.toInt) + (j38.toInt * j42.toInt)) + (j39.toInt * 0)) := by rw [e_j46]; exact em59
    have rm61 : -70368744177664 ≤ j38.toInt * (((j35.toInt * j41.toInt) + (j38.toInt * j42.toInt)) + (j39.toInt * 0)) ∧ j38.toInt * (((j35.toInt * j41.toInt) + (j38.toInt * j42.toInt)) + (j39.toInt * 0)) ≤ 70368744177664 := own_m (X := 128) (Y := 549755813888) (by omega) (by omega) (by omega) (by omega)
    have em61 : (j38 * j43).toInt = j38.toInt * (((j35.toInt * j41.toInt) + (j38.toInt * j42.toInt)) + (j39.toInt * 0)) := by rw [own_mul (by rw [(rfl : j38.toInt = j38.toInt), ev_j43]; omega) (by rw [(rfl : j38.toInt = j38.toInt), ev_j43]; omega), (rfl : j38.toInt = j38.toInt), ev_j43]
    have rm62 : -35184372088832 ≤ j36.toInt * ((j36.toInt * j42.toInt) + (j40.toInt * 0)) ∧ j36.toInt * ((j36.toInt * j42.toInt) + (j40.toInt * 0)) ≤ 35184372088832 := own_m (X := 128) (Y := 274877906944) (by omega) (by omega) (by omega) (by omega)
    have em62 : (j36 * j44).toInt = j36.toInt * ((j36.toInt * j42.toInt) + (j40.toInt * 0)) := by rw [own_mul (by rw [(rfl : j36.toInt = j36.toInt), ev_j44]; omega) (by rw [(rfl : j36.toInt = j36.toInt), ev_j44]; omega), (rfl : j36.toInt = j36.toInt), ev_j44]
    have em60 : ((j38 * j43) + (j36 * j44)).toInt = (j38.toInt * (((j35.toInt * j41.toInt) + (j38.toInt * j42.toInt)) + (j39.toInt * 0))) + (j36.toInt * ((j36.toInt * j42.toInt) + (j40.toInt * 0))) := by rw [own_add (by rw [em61, em62]; omega) (by rw [em61, em62]; omega), em61, em62]
    have rm60 : -105553116266496 ≤ (j38.toInt * (((j35.toInt * j41.toInt) + (j38.toInt * j42.toInt)) + (j39.toInt * 0))) + (j36.toInt * ((j36.toInt * j42.toInt) + (j40.toInt * 0))) ∧ (j38.toInt * (((j35.toInt * j41.toInt) + (j38.toInt * j42.toInt)) + (j39.toInt * 0))) + (j36.toInt * ((j36.toInt * j42.toInt) + (j40.toInt * 0))) ≤ 105553116266496 := by omega
    have ev_j47 : j47.toInt = (j38.toInt * (((j35.toInt * j41.toInt) + (j38.toInt * j42.toInt)) + (j39.toInt * 0))) + (j36.toInt * ((j36.toInt * j42.toInt) + (j40.toInt * 0))) := by rw [e_j47]; exact em60
    have rm65 : -70368744177664 ≤ j39.toInt * (((j35.toInt * j41.toInt) + (j38.toInt * j42.toInt)) + (j39.toInt * 0)) ∧ j39.toInt * (((j35.toInt * j41.toInt) + (j38.toInt * j42.toInt)) + (j39.toInt * 0)) ≤ 70368744177664 := own_m (X := 128) (Y := 549755813888) (by omega) (by omega) (by omega) (by omega)
    have em65 : (j39 * j43).toInt = j39.toInt * (((j35.toInt * j41.toInt) + (j38.toInt * j42.toInt)) + (j39.toInt * 0)) := by rw [own_mul (by rw [(rfl : j39.toInt = j39.toInt), ev_j43]; omega) (by rw [(rfl : j39.toInt = j39.toInt), ev_j43]; omega), (rfl : j39.toInt = j39.toInt), ev_j43]
    have rm66 : -35184372088832 ≤ j40.toInt * ((j36.toInt * j42.toInt) + (j40.toInt * 0)) ∧ j40.toInt * ((j36.toInt * j42.toInt) + (j40.toInt * 0)) ≤ 35184372088832 := own_m (X := 128) (Y := 274877906944) (by omega) (by omega) (by omega) (by omega)
    have em66 : (j40 * j44).toInt = j40.toInt * ((j36.toInt * j42.toInt) + (j40.toInt * 0)) := by rw [own_mul (by rw [(rfl : j40.toInt = j40.toInt), ev_j44]; omega) (by rw [(rfl : j40.toInt = j40.toInt), ev_j44]; omega), (rfl : j40.toInt = j40.toInt), ev_j44]
    have em64 : ((j39 * j43) + (j40 * j44)).toInt = (j39.toInt * (((j35.toInt * j41.toInt) + (j38.toInt * j42.toInt)) + (j39.toInt * 0))) + (j40.toInt * ((j36.toInt * j42.toInt) + (j40.toInt * 0))) := by rw [own_add (by rw [em65, em66]; omega) (by rw [em65, em66]; omega), em65, em66]
    have rm64 : -105553116266496 ≤ (j39.toInt * (((j35.toInt * j41.toInt) + (j38.toInt * j42.toInt)) + (j39.toInt * 0))) + (j40.toInt * ((j36.toInt * j42.toInt) + (j40.toInt * 0))) ∧ (j39.toInt * (((j35.toInt * j41.toInt) + (j38.toInt * j42.toInt)) + (j39.toInt * 0))) + (j40.toInt * ((j36.toInt * j42.toInt) + (j40.toInt * 0))) ≤ 105553116266496 := by omega
    have rm67 : 0 ≤ j37.toInt * (j37.toInt * 0) ∧ j37.toInt * (j37.toInt * 0) ≤ 0 := own_m (X := 128) (Y := 0) (by omega) (by omega) (by omega) (by omega)
    have em67 : (j37 * j45).toInt = j37.toInt * (j37.toInt * 0) := by rw [own_mul (by rw [(rfl : j37.toInt = j37.toInt), ev_j45]; omega) (by rw [(rfl : j37.toInt = j37.toInt), ev_j45]; omega), (rfl : j37.toInt = j37.toInt), ev_j45]
    have em63 : (((j39 * j43) + (j40 * j44)) + (j37 * j45)).toInt = ((j39.toInt * (((j35.toInt * j41.toInt) + (j38.toInt * j42.toInt)) + (j39.toInt * 0))) + (j40.toInt * ((j36.toInt * j42.toInt) + (j40.toInt * 0)))) + (j37.toInt * (j37.toInt * 0)) := by rw [own_add (by rw [em64, em67]; omega) (by rw [em64, em67]; omega), em64, em67]
    have rm63 : -105553116266496 ≤ ((j39.toInt * (((j35.toInt * j41.toInt) + (j38.toInt * j42.toInt)) + (j39.toInt * 0))) + (j40.toInt * ((j36.toInt * j42.toInt) + (j40.toInt * 0)))) + (j37.toInt * (j37.toInt * 0)) ∧ ((j39.toInt * (((j35.toInt * j41.toInt) + (j38.toInt * j42.toInt)) + (j39.toInt * 0))) + (j40.toInt * ((j36.toInt * j42.toInt) + (j40.toInt * 0)))) + (j37.toInt * (j37.toInt * 0)) ≤ 105553116266496 := by omega
    have ev_j48 : j48.toInt = ((j39.toInt * (((j35.toInt * j41.toInt) + (j38.toInt * j42.toInt)) + (j39.toInt * 0))) + (j40.toInt * ((j36.toInt * j42.toInt) + (j40.toInt * 0)))) + (j37.toInt * (j37.toInt * 0)) := by rw [e_j48]; exact em63
    refine g_iload C X0 (pc' := 178) at_176 rfl rfl ?_
    refine g_iconst C X0 (pc' := 179) at_178 (v := (2 : Int32)) (by decide) rfl ?_
    refine g_ishr C X0 (pc' := 180) at_179 rfl ?_
    refine g_i2d C X0 (pc' := 181) at_180 rfl ?_
    obtain ⟨d68, e_d68⟩ : ∃ z : UInt64, z = FP.i2d (p5 >>> ((2 : Int32) &&& 31)) := ⟨_, rfl⟩
    have D_d68 : FP.Core.DInt ((p5 >>> ((2 : Int32) &&& 31)).toInt) d68 := e_d68 ▸ (i2d_D (p5 >>> ((2 : Int32) &&& 31)))
    refine g_dstore C X0 (pc' := 183) at_181 (x := d68) e_d68 (l' := #[.val (.int p0), .val (.int p1), .val (.int p2), .val (.int p3), .val (.int p4), .val (.int p5), .val (.int (2 : Int32)), .val (.long j35), .second, .val (.long j36), .second, .val (.long j37), .second, .val (.long j38), .second, .val (.long j39), .second, .val (.long j40), .second, .val (.long j41), .second, .val (.long j42), .second, .val (.long (0 : Int64)), .second, .val (.long j43), .second, .val (.long j44), .second, .val (.long j45), .second, .val (.long j46), .second, .val (.long j47), .second, .val (.long j48), .second, .val (.double d68), .second, .unset, .unset, .unset]) rfl rfl ?_
    refine g_iload C X0 (pc' := 185) at_183 rfl rfl ?_
    refine g_iload C X0 (pc' := 187) at_185 rfl rfl ?_
    refine g_imul C X0 (pc' := 188) at_187 rfl ?_
    refine g_newP C X0 (aty := .double) (hw _ (List.mem_of_getElem? (i := 1) rfl)) e0 at_188 (by decide) 4 (by decide) (by decide) (by decide) (by decide) rfl ?_
    intro T7 h7 a7 k7 g7 X7 e7 E7 A7
    have z_a7 : n0 ≤ a7 := by rw [g7]; exact Z0
    have Z7 : n0 ≤ h7.size := Nat.le_trans Z0 E7.1
    have A7 : Arv Z h7 a7 k7 .double ((2 : Int32) * (2 : Int32)) [] (.double (0 : UInt64)) := A7
    refine g_astore C X7 (pc' := 192) at_190 rfl (l' := #[.val (.int p0), .val (.int p1), .val (.int p2), .val (.int p3), .val (.int p4), .val (.int p5), .val (.int (2 : Int32)), .val (.long j35), .second, .val (.long j36), .second, .val (.long j37), .second, .val (.long j38), .second, .val (.long j39), .second, .val (.long j40), .second, .val (.long j41), .second, .val (.long j42), .second, .val (.long (0 : Int64)), .second, .val (.long j43), .second, .val (.long j44), .second, .val (.long j45), .second, .val (.long j46), .second, .val (.long j47), .second, .val (.long j48), .second, .val (.double d68), .second, .val (.ref a7), .unset, .unset]) rfl rfl ?_
    refine g_iload C X7 (pc' := 194) at_192 rfl rfl ?_
    refine g_newP C X7 (aty := .double) (hw _ (List.mem_of_getElem? (i := 1) rfl)) e7 at_194 (by decide) 2 (by decide) (by decide) (by decide) (by decide) rfl ?_
    intro T8 h8 a8 k8 g8 X8 e8 E8 A8
    have ne_a7_a8 : a7 ≠ a8 := Nat.ne_of_lt (by rw [g8]; exact A7.lt)
    have z_a8 : n0 ≤ a8 := by rw [g8]; exact Z7
    have A7 := A7.ext E8
    have Z8 : n0 ≤ h8.size := Nat.le_trans Z7 E8.1
    have A8 : Arv Z h8 a8 k8 .double (2 : Int32) [] (.double (0 : UInt64)) := A8
    refine g_astore C X8 (pc' := 198) at_196 rfl (l' := #[.val (.int p0), .val (.int p1), .val (.int p2), .val (.int p3), .val (.int p4), .val (.int p5), .val (.int (2 : Int32)), .val (.long j35), .second, .val (.long j36), .second, .val (.long j37), .second, .val (.long j38), .second, .val (.long j39), .second, .val (.long j40), .second, .val (.long j41), .second, .val (.long j42), .second, .val (.long (0 : Int64)), .second, .val (.long j43), .second, .val (.long j44), .second, .val (.long j45), .second, .val (.long j46), .second, .val (.long j47), .second, .val (.long j48), .second, .val (.double d68), .second, .val (.ref a7), .val (.ref a8), .unset]) rfl rfl ?_
    refine g_aload C X8 (pc' := 200) at_198 rfl rfl rfl ?_
    refine g_iconst C X8 (pc' := 201) at_200 (v := (0 : Int32)) (by decide) rfl ?_
    refine g_lload C X8 (pc' := 203) at_201 rfl rfl ?_
    refine g_l2d C X8 (pc' := 204) at_203 rfl ?_
    refine g_dastore C X8 (pc' := 205) e8 A7 (by decide) (by decide) 0 1 (by decide) (of_decide_eq_true rfl) at_204 rfl ?_
    intro T9 h9 X9 e9 W9 Aq
    have A8 := A8.other W9 (Ne.symm ne_a7_a8)
    have Z9 : n0 ≤ h9.size := by rw [W9.size]; exact Z8
    have N9 := Fr.snoc X9 (Fr.nil n0) z_a7
    have A7 : Arv Z h9 a7 k7 .double ((2 : Int32) * (2 : Int32)) [(.double (FP.l2d j35))] (.double (0 : UInt64)) := Aq
    refine g_aload C X9 (pc' := 207) at_205 rfl rfl rfl ?_
    refine g_iconst C X9 (pc' := 208) at_207 (v := (0 : Int32)) (by decide) rfl ?_
    refine g_lload C X9 (pc' := 210) at_208 rfl rfl ?_
    refine g_l2d C X9 (pc' := 211) at_210 rfl ?_
    refine g_dastore C X9 (pc' := 212) e9 A8 (by decide) (by decide) 0 1 (by decide) (of_decide_eq_true rfl) at_211 rfl ?_
    intro T10 h10 X10 e10 W10 Aq
    have A7 := A7.other W10 ne_a7_a8
    have Z10 : n0 ≤ h10.size := by rw [W10.size]; exact Z9
    have N10 := Fr.snoc X10 N9 z_a8
    have A8 : Arv Z h10 a8 k8 .double (2 : Int32) [(.double (FP.l2d j46))] (.double (0 : UInt64)) := Aq
    refine g_iload C X10 (pc' := 214) at_212 rfl rfl ?_
    refine g_iconst C X10 (pc' := 215) at_214 (v := (2 : Int32)) (by decide) rfl ?_
    refine g_icmpN C X10 at_215 (by decide) rfl ?_
    refine g_aload C X10 (pc' := 220) at_218 rfl rfl rfl ?_
    refine g_iconst C X10 (pc' := 221) at_220 (v := (1 : Int32)) (by decide) rfl ?_
    refine g_dload C X10 (pc' := 223) at_221 rfl rfl ?_
    refine g_dastore C X10 (pc' := 224) e10 A7 (by decide) (by decide) 1 1 (by decide) (of_decide_eq_true rfl) at_223 rfl ?_
    intro T11 h11 X11 e11 W11 Aq
    have A8 := A8.other W11 (Ne.symm ne_a7_a8)
    have Z11 : n0 ≤ h11.size := by rw [W11.size]; exact Z10
    have N11 := Fr.snoc X11 N10 z_a7
    have A7 : Arv Z h11 a7 k7 .double ((2 : Int32) * (2 : Int32)) [(.double (FP.l2d j35)), (.double d68)] (.double (0 : UInt64)) := Aq
    refine g_aload C X11 (pc' := 226) at_224 rfl rfl rfl ?_
    refine g_iload C X11 (pc' := 228) at_226 rfl rfl ?_
    refine g_lload C X11 (pc' := 230) at_228 rfl rfl ?_
    refine g_l2d C X11 (pc' := 231) at_230 rfl ?_
    refine g_dastore C X11 (pc' := 232) e11 A7 (by decide) (by decide) 2 1 (by decide) (of_decide_eq_true rfl) at_231 rfl ?_
    intro T12 h12 X12 e12 W12 Aq
    have A8 := A8.other W12 (Ne.symm ne_a7_a8)
    have Z12 : n0 ≤ h12.size := by rw [W12.size]; exact Z11
    have N12 := Fr.snoc X12 N11 z_a7
    have A7 : Arv Z h12 a7 k7 .double ((2 : Int32) * (2 : Int32)) [(.double (FP.l2d j35)), (.double d68), (.double (FP.l2d j38))] (.double (0 : UInt64)) := Aq
    refine g_aload C X12 (pc' := 234) at_232 rfl rfl rfl ?_
    refine g_iload C X12 (pc' := 236) at_234 rfl rfl ?_
    refine g_iconst C X12 (pc' := 237) at_236 (v := (1 : Int32)) (by decide) rfl ?_
    refine g_iadd C X12 (pc' := 238) at_237 rfl ?_
    refine g_lload C X12 (pc' := 240) at_238 rfl rfl ?_
    refine g_l2d C X12 (pc' := 241) at_240 rfl ?_
    refine g_dastore C X12 (pc' := 242) e12 A7 (by decide) (by decide) 3 1 (by decide) (of_decide_eq_true rfl) at_241 rfl ?_
    intro T13 h13 X13 e13 W13 Aq
    have A8 := A8.other W13 (Ne.symm ne_a7_a8)
    have Z13 : n0 ≤ h13.size := by rw [W13.size]; exact Z12
    have N13 := Fr.snoc X13 N12 z_a7
    have A7 : Arv Z h13 a7 k7 .double ((2 : Int32) * (2 : Int32)) [(.double (FP.l2d j35)), (.double d68), (.double (FP.l2d j38)), (.double (FP.l2d j36))] (.double (0 : UInt64)) := Aq
    refine g_aload C X13 (pc' := 244) at_242 rfl rfl rfl ?_
    refine g_iconst C X13 (pc' := 245) at_244 (v := (1 : Int32)) (by decide) rfl ?_
    refine g_lload C X13 (pc' := 247) at_245 rfl rfl ?_
    refine g_l2d C X13 (pc' := 248) at_247 rfl ?_
    refine g_dastore C X13 (pc' := 249) e13 A8 (by decide) (by decide) 1 1 (by decide) (of_decide_eq_true rfl) at_248 rfl ?_
    intro T14 h14 X14 e14 W14 Aq
    have A7 := A7.other W14 ne_a7_a8
    have Z14 : n0 ≤ h14.size := by rw [W14.size]; exact Z13
    have N14 := Fr.snoc X14 N13 z_a8
    have A8 : Arv Z h14 a8 k8 .double (2 : Int32) [(.double (FP.l2d j46)), (.double (FP.l2d j47))] (.double (0 : UInt64)) := Aq
    refine g_iload C X14 (pc' := 251) at_249 rfl rfl ?_
    refine g_iconst C X14 (pc' := 252) at_251 (v := (3 : Int32)) (by decide) rfl ?_
    refine g_icmpY C X14 at_252 (pc' := 298) (by decide) (by decide) (by decide) ?_
    refine g_aload C X14 (pc' := 300) at_298 rfl rfl rfl ?_
    refine g_iload C X14 (pc' := 302) at_300 rfl rfl ?_
    refine g_aload C X14 (pc' := 304) at_302 rfl rfl rfl ?_
    have ez0 := ev_j43
    have ez1 := ev_j44
    have ez2 := ev_j45
    have pd0 := own_m (X := 128) (Y := 549755813888) (x := j35.toInt) (y := j43.toInt) (by omega) (by omega) (by omega) (by omega)
    have er0 : j46.toInt = j35.toInt * j43.toInt := by rw [e_j46, own_mul (by omega) (by omega)]
    have g0 : j46.toInt = j43.toInt * j35.toInt := by rw [er0]; exact own_a1 _ _
    have pl10 := own_m (X := 128) (Y := 549755813888) (x := j38.toInt) (y := j43.toInt) (by omega) (by omega) (by omega) (by omega)
    have pd1 := own_m (X := 128) (Y := 274877906944) (x := j36.toInt) (y := j44.toInt) (by omega) (by omega) (by omega) (by omega)
    have er1 : j47.toInt = j38.toInt * j43.toInt + j36.toInt * j44.toInt := by rw [e_j47, own_add (by rw [own_mul (by omega) (by omega), own_mul (by omega) (by omega)]; omega) (by rw [own_mul (by omega) (by omega), own_mul (by omega) (by omega)]; omega), own_mul (by omega) (by omega), own_mul (by omega) (by omega)]
    have g1 : j47.toInt - j38.toInt * j43.toInt = j44.toInt * j36.toInt := by rw [er1]; exact own_a2 _ _ _ _
    have g3 : j44.toInt = j42.toInt * j36.toInt := by rw [own_a1 j42.toInt j36.toInt]; omega
    have g4 : j43.toInt - j38.toInt * j42.toInt = j41.toInt * j35.toInt := by rw [own_a1 j41.toInt j35.toInt]; omega
    refine g_callS C X14 (c_solve2 l Z h14 n0 Z14 a7 a8 k7 k8 ne_a7_a8 z_a8 (FP.l2d j35) d68 (FP.l2d j38) (FP.l2d j36) (FP.l2d j46) (FP.l2d j47) j35.toInt j36.toInt j38.toInt j46.toInt j47.toInt j43.toInt j44.toInt j41.toInt j42.toInt (l2d_D (x := j35) (by show _ ≤ 9007199254740992; omega)) (l2d_D (x := j38) (by show _ ≤ 9007199254740992; omega)) (l2d_D (x := j36) (by show _ ≤ 9007199254740992; omega)) (l2d_D (x := j46) (by rw [ev_j46]; show _ ≤ 9007199254740992; omega)) (l2d_D (x := j47) (by rw [ev_j47]; show _ ≤ 9007199254740992; omega)) (by omega) (by omega) g0 g1 g3 g4 (by omega) (by omega) (by omega) (by omega) (by omega) (by omega) (by omega) (by omega) A7 A8) (hw _ (List.mem_of_getElem? (i := 2) rfl)) (hw _ (List.mem_of_getElem? (i := 3) rfl)) (hw _ (List.mem_of_getElem? (i := 4) rfl)) (hw _ (List.mem_of_getElem? (i := 5) rfl)) (by decide) e14 at_304 rfl pdS [(.ref a7), (.int (2 : Int32)), (.ref a8)] [] rfl rfl rfl 0 rfl (by decide) (by decide) (by decide) (by decide) rfl ?_
    rintro _ T15 L15 X15 ⟨rfl, M15, K15, u15_0, u15_1, Du15_0, Du15_1, V15⟩
    have A7 := A7.keep K15 (ninS ne_a7_a8 nin0)
    have Z15 : n0 ≤ T15.heap.size := Nat.le_trans Z14 K15.1
    have N15 := Fr.app N14 M15
    obtain ⟨h15, e15⟩ : ∃ z, T15.heap = z := ⟨_, rfl⟩
    rw [e15] at A7 V15 Z15
    show Go p.tables e below _ T15 (mkF m 307 #[.val (.int p0), .val (.int p1), .val (.int p2), .val (.int p3), .val (.int p4), .val (.int p5), .val (.int (2 : Int32)), .val (.long j35), .second, .val (.long j36), .second, .val (.long j37), .second, .val (.long j38), .second, .val (.long j39), .second, .val (.long j40), .second, .val (.long j41), .second, .val (.long j42), .second, .val (.long (0 : Int64)), .second, .val (.long j43), .second, .val (.long j44), .second, .val (.long j45), .second, .val (.long j46), .second, .val (.long j47), .second, .val (.long j48), .second, .val (.double d68), .second, .val (.ref a7), .val (.ref a8), .unset] [])
    refine g_aload C X15 (pc' := 309) at_307 rfl rfl rfl ?_
    refine g_iconst C X15 (pc' := 310) at_309 (v := (0 : Int32)) (by decide) rfl ?_
    refine g_daload C X15 (pc' := 311) e15 V15 (by decide) (by decide) 0 (by decide) rfl at_310 rfl ?_
    refine g_lload C X15 (pc' := 313) at_311 rfl rfl ?_
    refine g_l2d C X15 (pc' := 314) at_313 rfl ?_
    refine g_dcmpV C X15 at_314 (v := (0 : Int32)) ((dcmp_cmpI Du15_0 (l2d_D (x := j41) (by show _ ≤ 9007199254740992; omega)) _).trans (cmpI_self _)) rfl ?_
    refine g_ifN C X15 at_315 (by decide) rfl ?_
    refine g_iconst C X15 (pc' := 319) at_318 (v := (1 : Int32)) (by decide) rfl ?_
    refine g_goto C X15 at_319 (pc' := 323) (by decide) (by decide) ?_
    refine g_istore C X15 (pc' := 325) at_323 (x := (1 : Int32)) rfl (l' := #[.val (.int p0), .val (.int p1), .val (.int p2), .val (.int p3), .val (.int p4), .val (.int p5), .val (.int (2 : Int32)), .val (.long j35), .second, .val (.long j36), .second, .val (.long j37), .second, .val (.long j38), .second, .val (.long j39), .second, .val (.long j40), .second, .val (.long j41), .second, .val (.long j42), .second, .val (.long (0 : Int64)), .second, .val (.long j43), .second, .val (.long j44), .second, .val (.long j45), .second, .val (.long j46), .second, .val (.long j47), .second, .val (.long j48), .second, .val (.double d68), .second, .val (.ref a7), .val (.ref a8), .val (.int (1 : Int32))]) rfl rfl ?_
    refine g_iload C X15 (pc' := 327) at_325 rfl rfl ?_
    refine g_iconst C X15 (pc' := 328) at_327 (v := (2 : Int32)) (by decide) rfl ?_
    refine g_icmpN C X15 at_328 (by decide) rfl ?_
    refine g_iload C X15 (pc' := 333) at_331 rfl rfl ?_
    refine g_ifN C X15 at_333 (by decide) rfl ?_
    refine g_aload C X15 (pc' := 338) at_336 rfl rfl rfl ?_
    refine g_iconst C X15 (pc' := 339) at_338 (v := (1 : Int32)) (by decide) rfl ?_
    refine g_daload C X15 (pc' := 340) e15 V15 (by decide) (by decide) 1 (by decide) rfl at_339 rfl ?_
    refine g_lload C X15 (pc' := 342) at_340 rfl rfl ?_
    refine g_l2d C X15 (pc' := 343) at_342 rfl ?_
    refine g_dcmpV C X15 at_343 (v := (0 : Int32)) ((dcmp_cmpI Du15_1 (l2d_D (x := j42) (by show _ ≤ 9007199254740992; omega)) _).trans (cmpI_self _)) rfl ?_
    refine g_ifN C X15 at_344 (by decide) rfl ?_
    refine g_iconst C X15 (pc' := 348) at_347 (v := (1 : Int32)) (by decide) rfl ?_
    refine g_goto C X15 at_348 (pc' := 352) (by decide) (by decide) ?_
    refine g_istore C X15 (pc' := 354) at_352 (x := (1 : Int32)) rfl (l' := #[.val (.int p0), .val (.int p1), .val (.int p2), .val (.int p3), .val (.int p4), .val (.int p5), .val (.int (2 : Int32)), .val (.long j35), .second, .val (.long j36), .second, .val (.long j37), .second, .val (.long j38), .second, .val (.long j39), .second, .val (.long j40), .second, .val (.long j41), .second, .val (.long j42), .second, .val (.long (0 : Int64)), .second, .val (.long j43), .second, .val (.long j44), .second, .val (.long j45), .second, .val (.long j46), .second, .val (.long j47), .second, .val (.long j48), .second, .val (.double d68), .second, .val (.ref a7), .val (.ref a8), .val (.int (1 : Int32))]) rfl rfl ?_
    refine g_iload C X15 (pc' := 356) at_354 rfl rfl ?_
    refine g_iconst C X15 (pc' := 357) at_356 (v := (3 : Int32)) (by decide) rfl ?_
    refine g_icmpY C X15 at_357 (pc' := 383) (by decide) (by decide) (by decide) ?_
    refine g_iload C X15 (pc' := 385) at_383 rfl rfl ?_
    exact g_zreturn C X15 at_385 (w := 1) (by decide) ⟨rfl, N15⟩ (by decide) (by decide)
  · show Go p.tables e below _ T0 (mkF m 11 #[.val (.int p0), .val (.int p1), .val (.int p2), .val (.int p3), .val (.int p4), .val (.int p5), .val (.int (3 : Int32)), .unset, .unset, .unset, .unset, .unset, .unset, .unset, .unset, .unset, .unset, .unset, .unset, .unset, .unset, .unset, .unset, .unset, .unset, .unset, .unset, .unset, .unset, .unset, .unset, .unset, .unset, .unset, .unset, .unset, .unset, .unset, .unset, .unset, .unset, .unset] [])
    refine g_iconst C X0 (pc' := 12) at_11 (v := (1 : Int32)) (by decide) rfl ?_
    refine g_iloadN C X0 (pc' := 13) at_12 rfl rfl ?_
    refine g_bipush C X0 (pc' := 15) at_13 (v := (127 : Int32)) (by decide) rfl ?_
    refine g_iand C X0 (pc' := 16) at_15 rfl ?_
    refine g_iadd C X0 (pc' := 17) at_16 rfl ?_
    refine g_i2l C X0 (pc' := 18) at_17 rfl ?_
    obtain ⟨j69, e_j69⟩ : ∃ z : Int64, z = ((1 : Int32) + (p0 &&& (127 : Int32))).toInt64 := ⟨_, rfl⟩
    refine g_lstore C X0 (pc' := 20) at_18 (x := j69) e_j69 (l' := #[.val (.int p0), .val (.int p1), .val (.int p2), .val (.int p3), .val (.int p4), .val (.int p5), .val (.int (3 : Int32)), .val (.long j69), .second, .unset, .unset, .unset, .unset, .unset, .unset, .unset, .unset, .unset, .unset, .unset, .unset, .unset, .unset, .unset, .unset, .unset, .unset, .unset, .unset, .unset, .unset, .unset, .unset, .unset, .unset, .unset, .unset, .unset, .unset, .unset, .unset, .unset]) rfl rfl ?_
    have bd0 := own_d p0
    rw [← e_j69] at bd0
    refine g_iconst C X0 (pc' := 21) at_20 (v := (1 : Int32)) (by decide) rfl ?_
    refine g_iloadN C X0 (pc' := 22) at_21 rfl rfl ?_
    refine g_bipush C X0 (pc' := 24) at_22 (v := (8 : Int32)) (by decide) rfl ?_
    refine g_ishr C X0 (pc' := 25) at_24 rfl ?_
    refine g_bipush C X0 (pc' := 27) at_25 (v := (127 : Int32)) (by decide) rfl ?_
    refine g_iand C X0 (pc' := 28) at_27 rfl ?_
    refine g_iadd C X0 (pc' := 29) at_28 rfl ?_
    refine g_i2l C X0 (pc' := 30) at_29 rfl ?_
    obtain ⟨j70, e_j70⟩ : ∃ z : Int64, z = ((1 : Int32) + ((p0 >>> ((8 : Int32) &&& 31)) &&& (127 : Int32))).toInt64 := ⟨_, rfl⟩
    refine g_lstore C X0 (pc' := 32) at_30 (x := j70) e_j70 (l' := #[.val (.int p0), .val (.int p1), .val (.int p2), .val (.int p3), .val (.int p4), .val (.int p5), .val (.int (3 : Int32)), .val (.long j69), .second, .val (.long j70), .second, .unset, .unset, .unset, .unset, .unset, .unset, .unset, .unset, .unset, .unset, .unset, .unset, .unset, .unset, .unset, .unset, .unset, .unset, .unset, .unset, .unset, .unset, .unset, .unset, .unset, .unset, .unset, .unset, .unset, .unset, .unset]) rfl rfl ?_
    have bd1 := own_d (p0 >>> ((8 : Int32) &&& 31))
    rw [← e_j70] at bd1
    refine g_iconst C X0 (pc' := 33) at_32 (v := (1 : Int32)) (by decide) rfl ?_
    refine g_iloadN C X0 (pc' := 34) at_33 rfl rfl ?_
    refine g_bipush C X0 (pc' := 36) at_34 (v := (16 : Int32)) (by decide) rfl ?_
    refine g_ishr C X0 (pc' := 37) at_36 rfl ?_
    refine g_bipush C X0 (pc' := 39) at_37 (v := (127 : Int32)) (by decide) rfl ?_
    refine g_iand C X0 (pc' := 40) at_39 rfl ?_
    refine g_iadd C X0 (pc' := 41) at_40 rfl ?_
    refine g_i2l C X0 (pc' := 42) at_41 rfl ?_
    obtain ⟨j71, e_j71⟩ : ∃ z : Int64, z = ((1 : Int32) + ((p0 >>> ((16 : Int32) &&& 31)) &&& (127 : Int32))).toInt64 := ⟨_, rfl⟩
    refine g_lstore C X0 (pc' := 44) at_42 (x := j71) e_j71 (l' := #[.val (.int p0), .val (.int p1), .val (.int p2), .val (.int p3), .val (.int p4), .val (.int p5), .val (.int (3 : Int32)), .val (.long j69), .second, .val (.long j70), .second, .val (.long j71), .second, .unset, .unset, .unset, .unset, .unset, .unset, .unset, .unset, .unset, .unset, .unset, .unset, .unset, .unset, .unset, .unset, .unset, .unset, .unset, .unset, .unset, .unset, .unset, .unset, .unset, .unset, .unset, .unset, .unset]) rfl rfl ?_
    have bd2 := own_d (p0 >>> ((16 : Int32) &&& 31))
    rw [← e_j71] at bd2
    refine g_iloadN C X0 (pc' := 45) at_44 rfl rfl ?_
    refine g_i2b C X0 (pc' := 46) at_45 rfl ?_
    refine g_i2l C X0 (pc' := 47) at_46 rfl ?_
    obtain ⟨j72, e_j72⟩ : ∃ z : Int64, z = p1.toInt8.toInt32.toInt64 := ⟨_, rfl⟩
    refine g_lstore C X0 (pc' := 49) at_47 (x := j72) e_j72 (l' := #[.val (.int p0), .val (.int p1), .val (.int p2), .val (.int p3), .val (.int p4), .val (.int p5), .val (.int (3 : Int32)), .val (.long j69), .second, .val (.long j70), .second, .val (.long j71), .second, .val (.long j72), .second, .unset, .unset, .unset, .unset, .unset, .unset, .unset, .unset, .unset, .unset, .unset, .unset, .unset, .unset, .unset, .unset, .unset, .unset, .unset, .unset, .unset, .unset, .unset, .unset, .unset, .unset, .unset]) rfl rfl ?_
    have bl10 := own_b p1
    rw [← e_j72] at bl10
    refine g_iloadN C X0 (pc' := 50) at_49 rfl rfl ?_
    refine g_bipush C X0 (pc' := 52) at_50 (v := (8 : Int32)) (by decide) rfl ?_
    refine g_ishr C X0 (pc' := 53) at_52 rfl ?_
    refine g_i2b C X0 (pc' := 54) at_53 rfl ?_
    refine g_i2l C X0 (pc' := 55) at_54 rfl ?_
    obtain ⟨j73, e_j73⟩ : ∃ z : Int64, z = ((p1 >>> ((8 : Int32) &&& 31)).toInt8.toInt32).toInt64 := ⟨_, rfl⟩
    refine g_lstore C X0 (pc' := 57) at_55 (x := j73) e_j73 (l' := #[.val (.int p0), .val (.int p1), .val (.int p2), .val (.int p3), .val (.int p4), .val (.int p5), .val (.int (3 : Int32)), .val (.long j69), .second, .val (.long j70), .second, .val (.long j71), .second, .val (.long j72), .second, .val (.long j73), .second, .unset, .unset, .unset, .unset, .unset, .unset, .unset, .unset, .unset, .unset, .unset, .unset, .unset, .unset, .unset, .unset, .unset, .unset, .unset, .unset, .unset, .unset, .unset, .unset, .unset]) rfl rfl ?_
    have bl20 := own_b (p1 >>> ((8 : Int32) &&& 31))
    rw [← e_j73] at bl20
    refine g_iloadN C X0 (pc' := 58) at_57 rfl rfl ?_
    refine g_bipush C X0 (pc' := 60) at_58 (v := (16 : Int32)) (by decide) rfl ?_
    refine g_ishr C X0 (pc' := 61) at_60 rfl ?_
    refine g_i2b C X0 (pc' := 62) at_61 rfl ?_
    refine g_i2l C X0 (pc' := 63) at_62 rfl ?_
    obtain ⟨j74, e_j74⟩ : ∃ z : Int64, z = ((p1 >>> ((16 : Int32) &&& 31)).toInt8.toInt32).toInt64 := ⟨_, rfl⟩
    refine g_lstore C X0 (pc' := 65) at_63 (x := j74) e_j74 (l' := #[.val (.int p0), .val (.int p1), .val (.int p2), .val (.int p3), .val (.int p4), .val (.int p5), .val (.int (3 : Int32)), .val (.long j69), .second, .val (.long j70), .second, .val (.long j71), .second, .val (.long j72), .second, .val (.long j73), .second, .val (.long j74), .second, .unset, .unset, .unset, .unset, .unset, .unset, .unset, .unset, .unset, .unset, .unset, .unset, .unset, .unset, .unset, .unset, .unset, .unset, .unset, .unset, .unset, .unset, .unset]) rfl rfl ?_
    have bl21 := own_b (p1 >>> ((16 : Int32) &&& 31))
    rw [← e_j74] at bl21
    refine g_iloadN C X0 (pc' := 66) at_65 rfl rfl ?_
    refine g_i2l C X0 (pc' := 67) at_66 rfl ?_
    obtain ⟨j75, e_j75⟩ : ∃ z : Int64, z = p2.toInt64 := ⟨_, rfl⟩
    refine g_lstore C X0 (pc' := 69) at_67 (x := j75) e_j75 (l' := #[.val (.int p0), .val (.int p1), .val (.int p2), .val (.int p3), .val (.int p4), .val (.int p5), .val (.int (3 : Int32)), .val (.long j69), .second, .val (.long j70), .second, .val (.long j71), .second, .val (.long j72), .second, .val (.long j73), .second, .val (.long j74), .second, .val (.long j75), .second, .unset, .unset, .unset, .unset, .unset, .unset, .unset, .unset, .unset, .unset, .unset, .unset, .unset, .unset, .unset, .unset, .unset, .unset, .unset, .unset, .unset]) rfl rfl ?_
    have bu0 := own_u p2
    rw [← e_j75] at bu0
    refine g_iload C X0 (pc' := 71) at_69 rfl rfl ?_
    refine g_iconst C X0 (pc' := 72) at_71 (v := (1 : Int32)) (by decide) rfl ?_
    refine g_icmpN C X0 at_72 (by decide) rfl ?_
    refine g_iloadN C X0 (pc' := 76) at_75 rfl rfl ?_
    refine g_i2l C X0 (pc' := 77) at_76 rfl ?_
    refine g_goto C X0 at_77 (pc' := 81) (by decide) (by decide) ?_
    obtain ⟨j76, e_j76⟩ : ∃ z : Int64, z = p3.toInt64 := ⟨_, rfl⟩
    refine g_lstore C X0 (pc' := 83) at_81 (x := j76) e_j76 (l' := #[.val (.int p0), .val (.int p1), .val (.int p2), .val (.int p3), .val (.int p4), .val (.int p5), .val (.int (3 : Int32)), .val (.long j69), .second, .val (.long j70), .second, .val (.long j71), .second, .val (.long j72), .second, .val (.long j73), .second, .val (.long j74), .second, .val (.long j75), .second, .val (.long j76), .second, .unset, .unset, .unset, .unset, .unset, .unset, .unset, .unset, .unset, .unset, .unset, .unset, .unset, .unset, .unset, .unset, .unset, .unset, .unset]) rfl rfl ?_
    have bu1 := own_u p3
    rw [← e_j76] at bu1
    refine g_iload C X0 (pc' := 85) at_83 rfl rfl ?_
    refine g_iconst C X0 (pc' := 86) at_85 (v := (2 : Int32)) (by decide) rfl ?_
    refine g_icmpN C X0 at_86 (by decide) rfl ?_
    refine g_iload C X0 (pc' := 91) at_89 rfl rfl ?_
    refine g_i2l C X0 (pc' := 92) at_91 rfl ?_
    refine g_goto C X0 at_92 (pc' := 96) (by decide) (by decide) ?_
    obtain ⟨j77, e_j77⟩ : ∃ z : Int64, z = p4.toInt64 := ⟨_, rfl⟩
    refine g_lstore C X0 (pc' := 98) at_96 (x := j77) e_j77 (l' := #[.val (.int p0), .val (.int p1), .val (.int p2), .val (.int p3), .val (.int p4), .val (.int p5), .val (.int (3 : Int32)), .val (.long j69), .second, .val (.long j70), .second, .val (.long j71), .second, .val (.long j72), .second, .val (.long j73), .second, .val (.long j74), .second, .val (.long j75), .second, .val (.long j76), .second, .val (.long j77), .second, .unset, .unset, .unset, .unset, .unset, .unset, .unset, .unset, .unset, .unset, .unset, .unset, .unset, .unset, .unset, .unset, .unset]) rfl rfl ?_
    have bu2 := own_u p4
    rw [← e_j77] at bu2
    refine g_lload C X0 (pc' := 100) at_98 rfl rfl ?_
    refine g_lload C X0 (pc' := 102) at_100 rfl rfl ?_
    refine g_lmul C X0 (pc' := 103) at_102 rfl ?_
    refine g_lload C X0 (pc' := 105) at_103 rfl rfl ?_
    refine g_lload C X0 (pc' := 107) at_105 rfl rfl ?_
    refine g_lmul C X0 (pc' := 108) at_107 rfl ?_
    refine g_ladd C X0 (pc' := 109) at_108 rfl ?_
    refine g_lload C X0 (pc' := 111) at_109 rfl rfl ?_
    refine g_lload C X0 (pc' := 113) at_111 rfl rfl ?_
    refine g_lmul C X0 (pc' := 114) at_113 rfl ?_
    refine g_ladd C X0 (pc' := 115) at_114 rfl ?_
    obtain ⟨j78, e_j78⟩ : ∃ z : Int64, z = ((j69 * j75) + (j72 * j76)) + (j73 * j77) := ⟨_, rfl⟩
    refine g_lstore C X0 (pc' := 117) at_115 (x := j78) e_j78 (l' := #[.val (.int p0), .val (.int p1), .val (.int p2), .val (.int p3), .val (.int p4), .val (.int p5), .val (.int (3 : Int32)), .val (.long j69), .second, .val (.long j70), .second, .val (.long j71), .second, .val (.long j72), .second, .val (.long j73), .second, .val (.long j74), .second, .val (.long j75), .second, .val (.long j76), .second, .val (.long j77), .second, .val (.long j78), .second, .unset, .unset, .unset, .unset, .unset, .unset, .unset, .unset, .unset, .unset, .unset, .unset, .unset, .unset, .unset]) rfl rfl ?_
    refine g_lload C X0 (pc' := 119) at_117 rfl rfl ?_
    refine g_lload C X0 (pc' := 121) at_119 rfl rfl ?_
    refine g_lmul C X0 (pc' := 122) at_121 rfl ?_
    refine g_lload C X0 (pc' := 124) at_122 rfl rfl ?_
    refine g_lload C X0 (pc' := 126) at_124 rfl rfl ?_
    refine g_lmul C X0 (pc' := 127) at_126 rfl ?_
    refine g_ladd C X0 (pc' := 128) at_127 rfl ?_
    obtain ⟨j79, e_j79⟩ : ∃ z : Int64, z = (j70 * j76) + (j74 * j77) := ⟨_, rfl⟩
    refine g_lstore C X0 (pc' := 130) at_128 (x := j79) e_j79 (l' := #[.val (.int p0), .val (.int p1), .val (.int p2), .val (.int p3), .val (.int p4), .val (.int p5), .val (.int (3 : Int32)), .val (.long j69), .second, .val (.long j70), .second, .val (.long j71), .second, .val (.long j72), .second, .val (.long j73), .second, .val (.long j74), .second, .val (.long j75), .second, .val (.long j76), .second, .val (.long j77), .second, .val (.long j78), .second, .val (.long j79), .second, .unset, .unset, .unset, .unset, .unset, .unset, .unset, .unset, .unset, .unset, .unset, .unset, .unset]) rfl rfl ?_
    refine g_lload C X0 (pc' := 132) at_130 rfl rfl ?_
    refine g_lload C X0 (pc' := 134) at_132 rfl rfl ?_
    refine g_lmul C X0 (pc' := 135) at_134 rfl ?_
    obtain ⟨j80, e_j80⟩ : ∃ z : Int64, z = j71 * j77 := ⟨_, rfl⟩
    refine g_lstore C X0 (pc' := 137) at_135 (x := j80) e_j80 (l' := #[.val (.int p0), .val (.int p1), .val (.int p2), .val (.int p3), .val (.int p4), .val (.int p5), .val (.int (3 : Int32)), .val (.long j69), .second, .val (.long j70), .second, .val (.long j71), .second, .val (.long j72), .second, .val (.long j73), .second, .val (.long j74), .second, .val (.long j75), .second, .val (.long j76), .second, .val (.long j77), .second, .val (.long j78), .second, .val (.long j79), .second, .val (.long j80), .second, .unset, .unset, .unset, .unset, .unset, .unset, .unset, .unset, .unset, .unset, .unset]) rfl rfl ?_
    refine g_lload C X0 (pc' := 139) at_137 rfl rfl ?_
    refine g_lload C X0 (pc' := 141) at_139 rfl rfl ?_
    refine g_lmul C X0 (pc' := 142) at_141 rfl ?_
    obtain ⟨j81, e_j81⟩ : ∃ z : Int64, z = j69 * j78 := ⟨_, rfl⟩
    refine g_lstore C X0 (pc' := 144) at_142 (x := j81) e_j81 (l' := #[.val (.int p0), .val (.int p1), .val (.int p2), .val (.int p3), .val (.int p4), .val (.int p5), .val (.int (3 : Int32)), .val (.long j69), .second, .val (.long j70), .second, .val (.long j71), .second, .val (.long j72), .second, .val (.long j73), .second, .val (.long j74), .second, .val (.long j75), .second, .val (.long j76), .second, .val (.long j77), .second, .val (.long j78), .second, .val (.long j79), .second, .val (.long j80), .second, .val (.long j81), .second, .unset, .unset, .unset, .unset, .unset, .unset, .unset, .unset, .unset]) rfl rfl ?_
    refine g_lload C X0 (pc' := 146) at_144 rfl rfl ?_
    refine g_lload C X0 (pc' := 148) at_146 rfl rfl ?_
    refine g_lmul C X0 (pc' := 149) at_148 rfl ?_
    refine g_lload C X0 (pc' := 151) at_149 rfl rfl ?_
    refine g_lload C X0 (pc' := 153) at_151 rfl rfl ?_
    refine g_lmul C X0 (pc' := 154) at_153 rfl ?_
    refine g_ladd C X0 (pc' := 155) at_154 rfl ?_
    obtain ⟨j82, e_j82⟩ : ∃ z : Int64, z = (j72 * j78) + (j70 * j79) := ⟨_, rfl⟩
    refine g_lstore C X0 (pc' := 157) at_155 (x := j82) e_j82 (l' := #[.val (.int p0), .val (.int p1), .val (.int p2), .val (.int p3), .val (.int p4), .val (.int p5), .val (.int (3 : Int32)), .val (.long j69), .second, .val (.long j70), .second, .val (.long j71), .second, .val (.long j72), .second, .val (.long j73), .second, .val (.long j74), .second, .val (.long j75), .second, .val (.long j76), .second, .val (.long j77), .second, .val (.long j78), .second, .val (.long j79), .second, .val (.long j80), .second, .val (.long j81), .second, .val (.long j82), .second, .unset, .unset, .unset, .unset, .unset, .unset, .unset]) rfl rfl ?_
    refine g_lload C X0 (pc' := 159) at_157 rfl rfl ?_
    refine g_lload C X0 (pc' := 161) at_159 rfl rfl ?_
    refine g_lmul C X0 (pc' := 162) at_161 rfl ?_
    refine g_lload C X0 (pc' := 164) at_162 rfl rfl ?_
    refine g_lload C X0 (pc' := 166) at_164 rfl rfl ?_
    refine g_lmul C X0 (pc' := 167) at_166 rfl ?_
    refine g_ladd C X0 (pc' := 168) at_167 rfl ?_
    refine g_lload C X0 (pc' := 170) at_168 rfl rfl ?_
    refine g_lload C X0 (pc' := 172) at_170 rfl rfl ?_
    refine g_lmul C X0 (pc' := 173) at_172 rfl ?_
    refine g_ladd C X0 (pc' := 174) at_173 rfl ?_
    obtain ⟨j83, e_j83⟩ : ∃ z : Int64, z = ((j73 * j78) + (j74 * j79)) + (j71 * j80) := ⟨_, rfl⟩
    refine g_lstore C X0 (pc' := 176) at_174 (x := j83) e_j83 (l' := #[.val (.int p0), .val (.int p1), .val (.int p2), .val (.int p3), .val (.int p4), .val (.int p5), .val (.int (3 : Int32)), .val (.long j69), .second, .val (.long j70), .second, .val (.long j71), .second, .val (.long j72), .second, .val (.long j73), .second, .val (.long j74), .second, .val (.long j75), .second, .val (.long j76), .second, .val (.long j77), .second, .val (.long j78), .second, .val (.long j79), .second, .val (.long j80), .second, .val (.long j81), .second, .val (.long j82), .second, .val (.long j83), .second, .unset, .unset, .unset, .unset, .unset]) rfl rfl ?_
    have rm86 : -274877906944 ≤ j69.toInt * j75.toInt ∧ j69.toInt * j75.toInt ≤ 274877906944 := own_m (X := 128) (Y := 2147483648) (by omega) (by omega) (by omega) (by omega)
    have em86 : (j69 * j75).toInt = j69.toInt * j75.toInt := by rw [own_mul (by rw [(rfl : j69.toInt = j69.toInt), (rfl : j75.toInt = j75.toInt)]; omega) (by rw [(rfl : j69.toInt = j69.toInt), (rfl : j75.toInt = j75.toInt)]; omega), (rfl : j69.toInt = j69.toInt), (rfl : j75.toInt = j75.toInt)]
    have rm87 : -274877906944 ≤ j72.toInt * j76.toInt ∧ j72.toInt * j76.toInt ≤ 274877906944 := own_m (X := 128) (Y := 2147483648) (by omega) (by omega) (by omega) (by omega)
    have em87 : (j72 * j76).toInt = j72.toInt * j76.toInt := by rw [own_mul (by rw [(rfl : j72.toInt = j72.toInt), (rfl : j76.toInt = j76.toInt)]; omega) (by rw [(rfl : j72.toInt = j72.toInt), (rfl : j76.toInt = j76.toInt)]; omega), (rfl : j72.toInt = j72.toInt), (rfl : j76.toInt = j76.toInt)]
    have em85 : ((j69 * j75) + (j72 * j76)).toInt = (j69.toInt * j75.toInt) + (j72.toInt * j76.toInt) := by rw [own_add (by rw [em86, em87]; omega) (by rw [em86, em87]; omega), em86, em87]
    have rm85 : -549755813888 ≤ (j69.toInt * j75.toInt) + (j72.toInt * j76.toInt) ∧ (j69.toInt * j75.toInt) + (j72.toInt * j76.toInt) ≤ 549755813888 := by omega
    have rm88 : -274877906944 ≤ j73.toInt * j77.toInt ∧ j73.toInt * j77.toInt ≤ 274877906944 := own_m (X := 128) (Y := 2147483648) (by omega) (by omega) (by omega) (by omega)
    have em88 : (j73 * j77).toInt = j73.toInt * j77.toInt := by rw [own_mul (by rw [(rfl : j73.toInt = j73.toInt), (rfl : j77.toInt = j77.toInt)]; omega) (by rw [(rfl : j73.toInt = j73.toInt), (rfl : j77.toInt = j77.toInt)]; omega), (rfl : j73.toInt = j73.toInt), (rfl : j77.toInt = j77.toInt)]
    have em84 : (((j69 * j75) + (j72 * j76)) + (j73 * j77)).toInt = ((j69.toInt * j75.toInt) + (j72.toInt * j76.toInt)) + (j73.toInt * j77.toInt) := by rw [own_add (by rw [em85, em88]; omega) (by rw [em85, em88]; omega), em85, em88]
    have rm84 : -824633720832 ≤ ((j69.toInt * j75.toInt) + (j72.toInt * j76.toInt)) + (j73.toInt * j77.toInt) ∧ ((j69.toInt * j75.toInt) + (j72.toInt * j76.toInt)) + (j73.toInt * j77.toInt) ≤ 824633720832 := by omega
    have ev_j78 : j78.toInt = ((j69.toInt * j75.toInt) + (j72.toInt * j76.toInt)) + (j73.toInt * j77.toInt) := by rw [e_j78]; exact em84
    have rm90 : -274877906944 ≤ j70.toInt * j76.toInt ∧ j70.toInt * j76.toInt ≤ 274877906944 := own_m (X := 128) (Y := 2147483648) (by omega) (by omega) (by omega) (by omega)
    have em90 : (j70 * j76).toInt = j70.toInt * j76.toInt := by rw [own_mul (by rw [(rfl : j70.toInt = j70.toInt), (rfl : j76.toInt = j76.toInt)]; omega) (by rw [(rfl : j70.toInt = j70.toInt), (rfl : j76.toInt = j76.toInt)]; omega), (rfl : j70.toInt = j70.toInt), (rfl : j76.toInt = j76.toInt)]
    have rm91 : -274877906944 ≤ j74.toInt * j77.toInt ∧ j74.toInt * j77.toInt ≤ 274877906944 := own_m (X := 128) (Y := 2147483648) (by omega) (by omega) (by omega) (by omega)
    have em91 : (j74 * j77).toInt = j74.toInt * j77.toInt := by rw [own_mul (by rw [(rfl : j74.toInt = j74.toInt), (rfl : j77.toInt = j77.toInt)]; omega) (by rw [(rfl : j74.toInt = j74.toInt), (rfl : j77.toInt = j77.toInt)]; omega), (rfl : j74.toInt = j74.toInt), (rfl : j77.toInt = j77.toInt)]
    have em89 : ((j70 * j76) + (j74 * j77)).toInt = (j70.toInt * j76.toInt) + (j74.toInt * j77.toInt) := by rw [own_add (by rw [em90, em91]; omega) (by rw [em90, em91]; omega), em90, em91]
    have rm89 : -549755813888 ≤ (j70.toInt * j76.toInt) + (j74.toInt * j77.toInt) ∧ (j70.toInt * j76.toInt) + (j74.toInt * j77.toInt) ≤ 549755813888 := by omega
    have ev_j79 : j79.toInt = (j70.toInt * j76.toInt) + (j74.toInt * j77.toInt) := by rw [e_j79]; exact em89
    have rm92 : -274877906944 ≤ j71.toInt * j77.toInt ∧ j71.toInt * j77.toInt ≤ 274877906944 := own_m (X := 128) (Y := 2147483648) (by omega) (by omega) (by omega) (by omega)
    have em92 : (j71 * j77).toInt = j71.toInt * j77.toInt := by rw [own_mul (by rw [(rfl : j71.toInt = j71.toInt), (rfl : j77.toInt = j77.toInt)]; omega) (by rw [(rfl : j71.toInt = j71.toInt), (rfl : j77.toInt = j77.toInt)]; omega), (rfl : j71.toInt = j71.toInt), (rfl : j77.toInt = j77.toInt)]
    have ev_j80 : j80.toInt = j71.toInt * j77.toInt := by rw [e_j80]; exact em92
    have rm93 : -105553116266496 ≤ j69.toInt * (((j69.toInt * j75.toInt) + (j72.toInt * j76.toInt)) + (j73.toInt * j77.toInt)) ∧ j69.toInt * (((j69.toInt * j75.toInt) + (j72.toInt * j76.toInt)) + (j73.toInt * j77.toInt)) ≤ 105553116266496 := own_m (X := 128) (Y := 824633720832) (by omega) (by omega) (by omega) (by omega)
    have em93 : (j69 * j78).toInt = j69.toInt * (((j69.toInt * j75.toInt) + (j72.toInt * j76.toInt)) + (j73.toInt * j77.toInt)) := by rw [own_mul (by rw [(rfl : j69.toInt = j69.toInt), ev_j78]; omega) (by rw [(rfl : j69.toInt = j69.toInt), ev_j78]; omega), (rfl : j69.toInt = j69.toInt), ev_j78]
    have ev_j81 : j81.toInt = j69.toInt * (((j69.toInt * j75.toInt) + (j72.toInt * j76.toInt)) + (j73.toInt * j77.toInt)) := by rw [e_j81]; exact em93
    have rm95 : -105553116266496 ≤ j72.toInt * (((j69.toInt * j75.toInt) + (j72.toInt * j76.toInt)) + (j73.toInt * j77.toInt)) ∧ j72.toInt * (((j69.toInt * j75.toInt) + (j72.toInt * j76.toInt)) + (j73.toInt * j77.toInt)) ≤ 105553116266496 := own_m (X := 128) (Y := 824633720832) (by omega) (by omega) (by omega) (by omega)
    have em95 : (j72 * j78).toInt = j72.toInt * (((j69.toInt * j75.toInt) + (j72.toInt * j76.toInt)) + (j73.toInt * j77.toInt)) := by rw [own_mul (by rw [(rfl : j72.toInt = j72.toInt), ev_j78]; omega) (by rw [(rfl : j72.toInt = j72.toInt), ev_j78]; omega), (rfl : j72.toInt = j72.toInt), ev_j78]
    have rm96 : -70368744177664 ≤ j70.toInt * ((j70.toInt * j76.toInt) + (j74.toInt * j77.toInt)) ∧ j70.toInt * ((j70.toInt * j76.toInt) + (j74.toInt * j77.toInt)) ≤ 70368744177664 := own_m (X := 128) (Y := 549755813888) (by omega) (by omega) (by omega) (by omega)
    have em96 : (j70 * j79).toInt = j70.toInt * ((j70.toInt * j76.toInt) + (j74.toInt * j77.toInt)) := by rw [own_mul (by rw [(rfl : j70.toInt = j70.toInt), ev_j79]; omega) (by rw [(rfl : j70.toInt = j70.toInt), ev_j79]; omega), (rfl : j70.toInt = j70.toInt), ev_j79]
    have em94 : ((j72 * j78) + (j70 * j79)).toInt = (j72.toInt * (((j69.toInt * j75.toInt) + (j72.toInt * j76.toInt)) + (j73.toInt * j77.toInt))) + (j70.toInt * ((j70.toInt * j76.toInt) + (j74.toInt * j77.toInt))) := by rw [own_add (by rw [em95, em96]; omega) (by rw [em95, em96]; omega), em95, em96]
    have rm94 : -175921860444160 ≤ (j72.toInt * (((j69.toInt * j75.toInt) + (j72.toInt * j76.toInt)) + (j73.toInt * j77.toInt))) + (j70.toInt * ((j70.toInt * j76.toInt) + (j74.toInt * j77.toInt))) ∧ (j72.toInt * (((j69.toInt * j75.toInt) + (j72.toInt * j76.toInt)) + (j73.toInt * j77.toInt))) + (j70.toInt * ((j70.toInt * j76.toInt) + (j74.toInt * j77.toInt))) ≤ 175921860444160 := by omega
    have ev_j82 : j82.toInt = (j72.toInt * (((j69.toInt * j75.toInt) + (j72.toInt * j76.toInt)) + (j73.toInt * j77.toInt))) + (j70.toInt * ((j70.toInt * j76.toInt) + (j74.toInt * j77.toInt))) := by rw [e_j82]; exact em94
    have rm99 : -105553116266496 ≤ j73.toInt * (((j69.toInt * j75.toInt) + (j72.toInt * j76.toInt)) + (j73.toInt * j77.toInt)) ∧ j73.toInt * (((j69.toInt * j75.toInt) + (j72.toInt * j76.toInt)) + (j73.toInt * j77.toInt)) ≤ 105553116266496 := own_m (X := 128) (Y := 824633720832) (by omega) (by omega) (by omega) (by omega)
    have em99 : (j73 * j78).toInt = j73.toInt * (((j69.toInt * j75.toInt) + (j72.toInt * j76.toInt)) + (j73.toInt * j77.toInt)) := by rw [own_mul (by rw [(rfl : j73.toInt = j73.toInt), ev_j78]; omega) (by rw [(rfl : j73.toInt = j73.toInt), ev_j78]; omega), (rfl : j73.toInt = j73.toInt), ev_j78]
    have rm100 : -70368744177664 ≤ j74.toInt * ((j70.toInt * j76.toInt) + (j74.toInt * j77.toInt)) ∧ j74.toInt * ((j70.toInt * j76.toInt) + (j74.toInt * j77.toInt)) ≤ 70368744177664 := own_m (X := 128) (Y := 549755813888) (by omega) (by omega) (by omega) (by omega)
    have em100 : (j74 * j79).toInt = j74.toInt * ((j70.toInt * j76.toInt) + (j74.toInt * j77.toInt)) := by rw [own_mul (by rw [(rfl : j74.toInt = j74.toInt), ev_j79]; omega) (by rw [(rfl : j74.toInt = j74.toInt), ev_j79]; omega), (rfl : j74.toInt = j74.toInt), ev_j79]
    have em98 : ((j73 * j78) + (j74 * j79)).toInt = (j73.toInt * (((j69.toInt * j75.toInt) + (j72.toInt * j76.toInt)) + (j73.toInt * j77.toInt))) + (j74.toInt * ((j70.toInt * j76.toInt) + (j74.toInt * j77.toInt))) := by rw [own_add (by rw [em99, em100]; omega) (by rw [em99, em100]; omega), em99, em100]
    have rm98 : -175921860444160 ≤ (j73.toInt * (((j69.toInt * j75.toInt) + (j72.toInt * j76.toInt)) + (j73.toInt * j77.toInt))) + (j74.toInt * ((j70.toInt * j76.toInt) + (j74.toInt * j77.toInt))) ∧ (j73.toInt * (((j69.toInt * j75.toInt) + (j72.toInt * j76.toInt)) + (j73.toInt * j77.toInt))) + (j74.toInt * ((j70.toInt * j76.toInt) + (j74.toInt * j77.toInt))) ≤ 175921860444160 := by omega
    have rm101 : -35184372088832 ≤ j71.toInt * (j71.toInt * j77.toInt) ∧ j71.toInt * (j71.toInt * j77.toInt) ≤ 35184372088832 := own_m (X := 128) (Y := 274877906944) (by omega) (by omega) (by omega) (by omega)
    have em101 : (j71 * j80).toInt = j71.toInt * (j71.toInt * j77.toInt) := by rw [own_mul (by rw [(rfl : j71.toInt = j71.toInt), ev_j80]; omega) (by rw [(rfl : j71.toInt = j71.toInt), ev_j80]; omega), (rfl : j71.toInt = j71.toInt), ev_j80]
    have em97 : (((j73 * j78) + (j74 * j79)) + (j71 * j80)).toInt = ((j73.toInt * (((j69.toInt * j75.toInt) + (j72.toInt * j76.toInt)) + (j73.toInt * j77.toInt))) + (j74.toInt * ((j70.toInt * j76.toInt) + (j74.toInt * j77.toInt)))) + (j71.toInt * (j71.toInt * j77.toInt)) := by rw [own_add (by rw [em98, em101]; omega) (by rw [em98, em101]; omega), em98, em101]
    have rm97 : -211106232532992 ≤ ((j73.toInt * (((j69.toInt * j75.toInt) + (j72.toInt * j76.toInt)) + (j73.toInt * j77.toInt))) + (j74.toInt * ((j70.toInt * j76.toInt) + (j74.toInt * j77.toInt)))) + (j71.toInt * (j71.toInt * j77.toInt)) ∧ ((j73.toInt * (((j69.toInt * j75.toInt) + (j72.toInt * j76.toInt)) + (j73.toInt * j77.toInt))) + (j74.toInt * ((j70.toInt * j76.toInt) + (j74.toInt * j77.toInt)))) + (j71.toInt * (j71.toInt * j77.toInt)) ≤ 211106232532992 := by omega
    have ev_j83 : j83.toInt = ((j73.toInt * (((j69.toInt * j75.toInt) + (j72.toInt * j76.toInt)) + (j73.toInt * j77.toInt))) + (j74.toInt * ((j70.toInt * j76.toInt) + (j74.toInt * j77.toInt)))) + (j71.toInt * (j71.toInt * j77.toInt)) := by rw [e_j83]; exact em97
    refine g_iload C X0 (pc' := 178) at_176 rfl rfl ?_
    refine g_iconst C X0 (pc' := 179) at_178 (v := (2 : Int32)) (by decide) rfl ?_
    refine g_ishr C X0 (pc' := 180) at_179 rfl ?_
    refine g_i2d C X0 (pc' := 181) at_180 rfl ?_
    obtain ⟨d102, e_d102⟩ : ∃ z : UInt64, z = FP.i2d (p5 >>> ((2 : Int32) &&& 31)) := ⟨_, rfl⟩
    have D_d102 : FP.Core.DInt ((p5 >>> ((2 : Int32) &&& 31)).toInt) d102 := e_d102 ▸ (i2d_D (p5 >>> ((2 : Int32) &&& 31)))
    refine g_dstore C X0 (pc' := 183) at_181 (x := d102) e_d102 (l' := #[.val (.int p0), .val (.int p1), .val (.int p2), .val (.int p3), .val (.int p4), .val (.int p5), .val (.int (3 : Int32)), .val (.long j69), .second, .val (.long j70), .second, .val (.long j71), .second, .val (.long j72), .second, .val (.long j73), .second, .val (.long j74), .second, .val (.long j75), .second, .val (.long j76), .second, .val (.long j77), .second, .val (.long j78), .second, .val (.long j79), .second, .val (.long j80), .second, .val (.long j81), .second, .val (.long j82), .second, .val (.long j83), .second, .val (.double d102), .second, .unset, .unset, .unset]) rfl rfl ?_
    refine g_iload C X0 (pc' := 185) at_183 rfl rfl ?_
    refine g_iload C X0 (pc' := 187) at_185 rfl rfl ?_
    refine g_imul C X0 (pc' := 188) at_187 rfl ?_
    refine g_newP C X0 (aty := .double) (hw _ (List.mem_of_getElem? (i := 1) rfl)) e0 at_188 (by decide) 9 (by decide) (by decide) (by decide) (by decide) rfl ?_
    intro T17 h17 a17 k17 g17 X17 e17 E17 A17
    have z_a17 : n0 ≤ a17 := by rw [g17]; exact Z0
    have Z17 : n0 ≤ h17.size := Nat.le_trans Z0 E17.1
    have A17 : Arv Z h17 a17 k17 .double ((3 : Int32) * (3 : Int32)) [] (.double (0 : UInt64)) := A17
    refine g_astore C X17 (pc' := 192) at_190 rfl (l' := #[.val (.int p0), .val (.int p1), .val (.int p2), .val (.int p3), .val (.int p4), .val (.int p5), .val (.int (3 : Int32)), .val (.long j69), .second, .val (.long j70), .second, .val (.long j71), .second, .val (.long j72), .second, .val (.long j73), .second, .val (.long j74), .second, .val (.long j75), .second, .val (.long j76), .second, .val (.long j77), .second, .val (.long j78), .second, .val (.long j79), .second, .val (.long j80), .second, .val (.long j81), .second, .val (.long j82), .second, .val (.long j83), .second, .val (.double d102), .second, .val (.ref a17), .unset, .unset]) rfl rfl ?_
    refine g_iload C X17 (pc' := 194) at_192 rfl rfl ?_
    refine g_newP C X17 (aty := .double) (hw _ (List.mem_of_getElem? (i := 1) rfl)) e17 at_194 (by decide) 3 (by decide) (by decide) (by decide) (by decide) rfl ?_
    intro T18 h18 a18 k18 g18 X18 e18 E18 A18
    have ne_a17_a18 : a17 ≠ a18 := Nat.ne_of_lt (by rw [g18]; exact A17.lt)
    have z_a18 : n0 ≤ a18 := by rw [g18]; exact Z17
    have A17 := A17.ext E18
    have Z18 : n0 ≤ h18.size := Nat.le_trans Z17 E18.1
    have A18 : Arv Z h18 a18 k18 .double (3 : Int32) [] (.double (0 : UInt64)) := A18
    refine g_astore C X18 (pc' := 198) at_196 rfl (l' := #[.val (.int p0), .val (.int p1), .val (.int p2), .val (.int p3), .val (.int p4), .val (.int p5), .val (.int (3 : Int32)), .val (.long j69), .second, .val (.long j70), .second, .val (.long j71), .second, .val (.long j72), .second, .val (.long j73), .second, .val (.long j74), .second, .val (.long j75), .second, .val (.long j76), .second, .val (.long j77), .second, .val (.long j78), .second, .val (.long j79), .second, .val (.long j80), .second, .val (.long j81), .second, .val (.long j82), .second, .val (.long j83), .second, .val (.double d102), .second, .val (.ref a17), .val (.ref a18), .unset]) rfl rfl ?_
    refine g_aload C X18 (pc' := 200) at_198 rfl rfl rfl ?_
    refine g_iconst C X18 (pc' := 201) at_200 (v := (0 : Int32)) (by decide) rfl ?_
    refine g_lload C X18 (pc' := 203) at_201 rfl rfl ?_
    refine g_l2d C X18 (pc' := 204) at_203 rfl ?_
    refine g_dastore C X18 (pc' := 205) e18 A17 (by decide) (by decide) 0 1 (by decide) (of_decide_eq_true rfl) at_204 rfl ?_
    intro T19 h19 X19 e19 W19 Aq
    have A18 := A18.other W19 (Ne.symm ne_a17_a18)
    have Z19 : n0 ≤ h19.size := by rw [W19.size]; exact Z18
    have N19 := Fr.snoc X19 (Fr.nil n0) z_a17
    have A17 : Arv Z h19 a17 k17 .double ((3 : Int32) * (3 : Int32)) [(.double (FP.l2d j69))] (.double (0 : UInt64)) := Aq
    refine g_aload C X19 (pc' := 207) at_205 rfl rfl rfl ?_
    refine g_iconst C X19 (pc' := 208) at_207 (v := (0 : Int32)) (by decide) rfl ?_
    refine g_lload C X19 (pc' := 210) at_208 rfl rfl ?_
    refine g_l2d C X19 (pc' := 211) at_210 rfl ?_
    refine g_dastore C X19 (pc' := 212) e19 A18 (by decide) (by decide) 0 1 (by decide) (of_decide_eq_true rfl) at_211 rfl ?_
    intro T20 h20 X20 e20 W20 Aq
    have A17 := A17.other W20 ne_a17_a18
    have Z20 : n0 ≤ h20.size := by rw [W20.size]; exact Z19
    have N20 := Fr.snoc X20 N19 z_a18
    have A18 : Arv Z h20 a18 k18 .double (3 : Int32) [(.double (FP.l2d j81))] (.double (0 : UInt64)) := Aq
    refine g_iload C X20 (pc' := 214) at_212 rfl rfl ?_
    refine g_iconst C X20 (pc' := 215) at_214 (v := (2 : Int32)) (by decide) rfl ?_
    refine g_icmpN C X20 at_215 (by decide) rfl ?_
    refine g_aload C X20 (pc' := 220) at_218 rfl rfl rfl ?_
    refine g_iconst C X20 (pc' := 221) at_220 (v := (1 : Int32)) (by decide) rfl ?_
    refine g_dload C X20 (pc' := 223) at_221 rfl rfl ?_
    refine g_dastore C X20 (pc' := 224) e20 A17 (by decide) (by decide) 1 1 (by decide) (of_decide_eq_true rfl) at_223 rfl ?_
    intro T21 h21 X21 e21 W21 Aq
    have A18 := A18.other W21 (Ne.symm ne_a17_a18)
    have Z21 : n0 ≤ h21.size := by rw [W21.size]; exact Z20
    have N21 := Fr.snoc X21 N20 z_a17
    have A17 : Arv Z h21 a17 k17 .double ((3 : Int32) * (3 : Int32)) [(.double (FP.l2d j69)), (.double d102)] (.double (0 : UInt64)) := Aq
    refine g_aload C X21 (pc' := 226) at_224 rfl rfl rfl ?_
    refine g_iload C X21 (pc' := 228) at_226 rfl rfl ?_
    refine g_lload C X21 (pc' := 230) at_228 rfl rfl ?_
    refine g_l2d C X21 (pc' := 231) at_230 rfl ?_
    refine g_dastore C X21 (pc' := 232) e21 A17 (by decide) (by decide) 3 2 (by decide) (of_decide_eq_true rfl) at_231 rfl ?_
    intro T22 h22 X22 e22 W22 Aq
    have A18 := A18.other W22 (Ne.symm ne_a17_a18)
    have Z22 : n0 ≤ h22.size := by rw [W22.size]; exact Z21
    have N22 := Fr.snoc X22 N21 z_a17
    have A17 : Arv Z h22 a17 k17 .double ((3 : Int32) * (3 : Int32)) [(.double (FP.l2d j69)), (.double d102), (.double (0 : UInt64)), (.double (FP.l2d j72))] (.double (0 : UInt64)) := Aq
    refine g_aload C X22 (pc' := 234) at_232 rfl rfl rfl ?_
    refine g_iload C X22 (pc' := 236) at_234 rfl rfl ?_
    refine g_iconst C X22 (pc' := 237) at_236 (v := (1 : Int32)) (by decide) rfl ?_
    refine g_iadd C X22 (pc' := 238) at_237 rfl ?_
    refine g_lload C X22 (pc' := 240) at_238 rfl rfl ?_
    refine g_l2d C X22 (pc' := 241) at_240 rfl ?_
    refine g_dastore C X22 (pc' := 242) e22 A17 (by decide) (by decide) 4 1 (by decide) (of_decide_eq_true rfl) at_241 rfl ?_
    intro T23 h23 X23 e23 W23 Aq
    have A18 := A18.other W23 (Ne.symm ne_a17_a18)
    have Z23 : n0 ≤ h23.size := by rw [W23.size]; exact Z22
    have N23 := Fr.snoc X23 N22 z_a17
    have A17 : Arv Z h23 a17 k17 .double ((3 : Int32) * (3 : Int32)) [(.double (FP.l2d j69)), (.double d102), (.double (0 : UInt64)), (.double (FP.l2d j72)), (.double (FP.l2d j70))] (.double (0 : UInt64)) := Aq
    refine g_aload C X23 (pc' := 244) at_242 rfl rfl rfl ?_
    refine g_iconst C X23 (pc' := 245) at_244 (v := (1 : Int32)) (by decide) rfl ?_
    refine g_lload C X23 (pc' := 247) at_245 rfl rfl ?_
    refine g_l2d C X23 (pc' := 248) at_247 rfl ?_
    refine g_dastore C X23 (pc' := 249) e23 A18 (by decide) (by decide) 1 1 (by decide) (of_decide_eq_true rfl) at_248 rfl ?_
    intro T24 h24 X24 e24 W24 Aq
    have A17 := A17.other W24 ne_a17_a18
    have Z24 : n0 ≤ h24.size := by rw [W24.size]; exact Z23
    have N24 := Fr.snoc X24 N23 z_a18
    have A18 : Arv Z h24 a18 k18 .double (3 : Int32) [(.double (FP.l2d j81)), (.double (FP.l2d j82))] (.double (0 : UInt64)) := Aq
    refine g_iload C X24 (pc' := 251) at_249 rfl rfl ?_
    refine g_iconst C X24 (pc' := 252) at_251 (v := (3 : Int32)) (by decide) rfl ?_
    refine g_icmpN C X24 at_252 (by decide) rfl ?_
    refine g_aload C X24 (pc' := 257) at_255 rfl rfl rfl ?_
    refine g_iconst C X24 (pc' := 258) at_257 (v := (2 : Int32)) (by decide) rfl ?_
    refine g_dload C X24 (pc' := 260) at_258 rfl rfl ?_
    refine g_dastore C X24 (pc' := 261) e24 A17 (by decide) (by decide) 2 0 (by decide) (of_decide_eq_true rfl) at_260 rfl ?_
    intro T25 h25 X25 e25 W25 Aq
    have A18 := A18.other W25 (Ne.symm ne_a17_a18)
    have Z25 : n0 ≤ h25.size := by rw [W25.size]; exact Z24
    have N25 := Fr.snoc X25 N24 z_a17
    have A17 : Arv Z h25 a17 k17 .double ((3 : Int32) * (3 : Int32)) [(.double (FP.l2d j69)), (.double d102), (.double d102), (.double (FP.l2d j72)), (.double (FP.l2d j70))] (.double (0 : UInt64)) := Aq
    refine g_aload C X25 (pc' := 263) at_261 rfl rfl rfl ?_
    refine g_iconst C X25 (pc' := 264) at_263 (v := (5 : Int32)) (by decide) rfl ?_
    refine g_dload C X25 (pc' := 266) at_264 rfl rfl ?_
    refine g_dastore C X25 (pc' := 267) e25 A17 (by decide) (by decide) 5 1 (by decide) (of_decide_eq_true rfl) at_266 rfl ?_
    intro T26 h26 X26 e26 W26 Aq
    have A18 := A18.other W26 (Ne.symm ne_a17_a18)
    have Z26 : n0 ≤ h26.size := by rw [W26.size]; exact Z25
    have N26 := Fr.snoc X26 N25 z_a17
    have A17 : Arv Z h26 a17 k17 .double ((3 : Int32) * (3 : Int32)) [(.double (FP.l2d j69)), (.double d102), (.double d102), (.double (FP.l2d j72)), (.double (FP.l2d j70)), (.double d102)] (.double (0 : UInt64)) := Aq
    refine g_aload C X26 (pc' := 269) at_267 rfl rfl rfl ?_
    refine g_bipush C X26 (pc' := 271) at_269 (v := (6 : Int32)) (by decide) rfl ?_
    refine g_lload C X26 (pc' := 273) at_271 rfl rfl ?_
    refine g_l2d C X26 (pc' := 274) at_273 rfl ?_
    refine g_dastore C X26 (pc' := 275) e26 A17 (by decide) (by decide) 6 1 (by decide) (of_decide_eq_true rfl) at_274 rfl ?_
    intro T27 h27 X27 e27 W27 Aq
    have A18 := A18.other W27 (Ne.symm ne_a17_a18)
    have Z27 : n0 ≤ h27.size := by rw [W27.size]; exact Z26
    have N27 := Fr.snoc X27 N26 z_a17
    have A17 : Arv Z h27 a17 k17 .double ((3 : Int32) * (3 : Int32)) [(.double (FP.l2d j69)), (.double d102), (.double d102), (.double (FP.l2d j72)), (.double (FP.l2d j70)), (.double d102), (.double (FP.l2d j73))] (.double (0 : UInt64)) := Aq
    refine g_aload C X27 (pc' := 277) at_275 rfl rfl rfl ?_
    refine g_bipush C X27 (pc' := 279) at_277 (v := (7 : Int32)) (by decide) rfl ?_
    refine g_lload C X27 (pc' := 281) at_279 rfl rfl ?_
    refine g_l2d C X27 (pc' := 282) at_281 rfl ?_
    refine g_dastore C X27 (pc' := 283) e27 A17 (by decide) (by decide) 7 1 (by decide) (of_decide_eq_true rfl) at_282 rfl ?_
    intro T28 h28 X28 e28 W28 Aq
    have A18 := A18.other W28 (Ne.symm ne_a17_a18)
    have Z28 : n0 ≤ h28.size := by rw [W28.size]; exact Z27
    have N28 := Fr.snoc X28 N27 z_a17
    have A17 : Arv Z h28 a17 k17 .double ((3 : Int32) * (3 : Int32)) [(.double (FP.l2d j69)), (.double d102), (.double d102), (.double (FP.l2d j72)), (.double (FP.l2d j70)), (.double d102), (.double (FP.l2d j73)), (.double (FP.l2d j74))] (.double (0 : UInt64)) := Aq
    refine g_aload C X28 (pc' := 285) at_283 rfl rfl rfl ?_
    refine g_bipush C X28 (pc' := 287) at_285 (v := (8 : Int32)) (by decide) rfl ?_
    refine g_lload C X28 (pc' := 289) at_287 rfl rfl ?_
    refine g_l2d C X28 (pc' := 290) at_289 rfl ?_
    refine g_dastore C X28 (pc' := 291) e28 A17 (by decide) (by decide) 8 1 (by decide) (of_decide_eq_true rfl) at_290 rfl ?_
    intro T29 h29 X29 e29 W29 Aq
    have A18 := A18.other W29 (Ne.symm ne_a17_a18)
    have Z29 : n0 ≤ h29.size := by rw [W29.size]; exact Z28
    have N29 := Fr.snoc X29 N28 z_a17
    have A17 : Arv Z h29 a17 k17 .double ((3 : Int32) * (3 : Int32)) [(.double (FP.l2d j69)), (.double d102), (.double d102), (.double (FP.l2d j72)), (.double (FP.l2d j70)), (.double d102), (.double (FP.l2d j73)), (.double (FP.l2d j74)), (.double (FP.l2d j71))] (.double (0 : UInt64)) := Aq
    refine g_aload C X29 (pc' := 293) at_291 rfl rfl rfl ?_
    refine g_iconst C X29 (pc' := 294) at_293 (v := (2 : Int32)) (by decide) rfl ?_
    refine g_lload C X29 (pc' := 296) at_294 rfl rfl ?_
    refine g_l2d C X29 (pc' := 297) at_296 rfl ?_
    refine g_dastore C X29 (pc' := 298) e29 A18 (by decide) (by decide) 2 1 (by decide) (of_decide_eq_true rfl) at_297 rfl ?_
    intro T30 h30 X30 e30 W30 Aq
    have A17 := A17.other W30 ne_a17_a18
    have Z30 : n0 ≤ h30.size := by rw [W30.size]; exact Z29
    have N30 := Fr.snoc X30 N29 z_a18
    have A18 : Arv Z h30 a18 k18 .double (3 : Int32) [(.double (FP.l2d j81)), (.double (FP.l2d j82)), (.double (FP.l2d j83))] (.double (0 : UInt64)) := Aq
    refine g_aload C X30 (pc' := 300) at_298 rfl rfl rfl ?_
    refine g_iload C X30 (pc' := 302) at_300 rfl rfl ?_
    refine g_aload C X30 (pc' := 304) at_302 rfl rfl rfl ?_
    have ez0 := ev_j78
    have ez1 := ev_j79
    have ez2 := ev_j80
    have pd0 := own_m (X := 128) (Y := 824633720832) (x := j69.toInt) (y := j78.toInt) (by omega) (by omega) (by omega) (by omega)
    have er0 : j81.toInt = j69.toInt * j78.toInt := by rw [e_j81, own_mul (by omega) (by omega)]
    have g0 : j81.toInt = j78.toInt * j69.toInt := by rw [er0]; exact own_a1 _ _
    have pl10 := own_m (X := 128) (Y := 824633720832) (x := j72.toInt) (y := j78.toInt) (by omega) (by omega) (by omega) (by omega)
    have pd1 := own_m (X := 128) (Y := 549755813888) (x := j70.toInt) (y := j79.toInt) (by omega) (by omega) (by omega) (by omega)
    have er1 : j82.toInt = j72.toInt * j78.toInt + j70.toInt * j79.toInt := by rw [e_j82, own_add (by rw [own_mul (by omega) (by omega), own_mul (by omega) (by omega)]; omega) (by rw [own_mul (by omega) (by omega), own_mul (by omega) (by omega)]; omega), own_mul (by omega) (by omega), own_mul (by omega) (by omega)]
    have g1 : j82.toInt - j72.toInt * j78.toInt = j79.toInt * j70.toInt := by rw [er1]; exact own_a2 _ _ _ _
    have pl20 := own_m (X := 128) (Y := 824633720832) (x := j73.toInt) (y := j78.toInt) (by omega) (by omega) (by omega) (by omega)
    have pl21 := own_m (X := 128) (Y := 549755813888) (x := j74.toInt) (y := j79.toInt) (by omega) (by omega) (by omega) (by omega)
    have pd2 := own_m (X := 128) (Y := 274877906944) (x := j71.toInt) (y := j80.toInt) (by omega) (by omega) (by omega) (by omega)
    have em1 := own_mul (x := j73) (y := j78) (by omega) (by omega)
    have em2 := own_mul (x := j74) (y := j79) (by omega) (by omega)
    have em3 := own_mul (x := j71) (y := j80) (by omega) (by omega)
    have em4 := own_add (x := j73 * j78) (y := j74 * j79) (by omega) (by omega)
    have er2 : j83.toInt = j73.toInt * j78.toInt + j74.toInt * j79.toInt + j71.toInt * j80.toInt := by rw [e_j83, own_add (by omega) (by omega), em4, em1, em2, em3]
    have g2 : j83.toInt - j73.toInt * j78.toInt - j74.toInt * j79.toInt = j80.toInt * j71.toInt := by rw [er2]; exact own_a3 _ _ _ _ _ _
    have g3 : j80.toInt = j77.toInt * j71.toInt := by rw [own_a1 j77.toInt j71.toInt]; omega
    have g4 : j79.toInt - j74.toInt * j77.toInt = j76.toInt * j70.toInt := by rw [own_a1 j76.toInt j70.toInt]; omega
    have g5 : j78.toInt - j73.toInt * j77.toInt - j72.toInt * j76.toInt = j75.toInt * j69.toInt := by rw [own_a1 j75.toInt j69.toInt]; omega
    refine g_callS C X30 (c_solve3 l Z h30 n0 Z30 a17 a18 k17 k18 ne_a17_a18 z_a18 (FP.l2d j69) d102 d102 (FP.l2d j72) (FP.l2d j70) d102 (FP.l2d j73) (FP.l2d j74) (FP.l2d j71) (FP.l2d j81) (FP.l2d j82) (FP.l2d j83) j69.toInt j70.toInt j71.toInt j72.toInt j73.toInt j74.toInt j81.toInt j82.toInt j83.toInt j78.toInt j79.toInt j80.toInt j75.toInt j76.toInt j77.toInt (l2d_D (x := j69) (by show _ ≤ 9007199254740992; omega)) (l2d_D (x := j72) (by show _ ≤ 9007199254740992; omega)) (l2d_D (x := j70) (by show _ ≤ 9007199254740992; omega)) (l2d_D (x := j73) (by show _ ≤ 9007199254740992; omega)) (l2d_D (x := j74) (by show _ ≤ 9007199254740992; omega)) (l2d_D (x := j71) (by show _ ≤ 9007199254740992; omega)) (l2d_D (x := j81) (by rw [ev_j81]; show _ ≤ 9007199254740992; omega)) (l2d_D (x := j82) (by rw [ev_j82]; show _ ≤ 9007199254740992; omega)) (l2d_D (x := j83) (by rw [ev_j83]; show _ ≤ 9007199254740992; omega)) (by omega) (by omega) (by omega) g0 g1 g2 g3 g4 g5 (by omega) (by omega) (by omega) (by omega) (by omega) (by omega) (by omega) (by omega) (by omega) (by omega) (by omega) (by omega) (by omega) (by omega) (by omega) A17 A18) (hw _ (List.mem_of_getElem? (i := 2) rfl)) (hw _ (List.mem_of_getElem? (i := 3) rfl)) (hw _ (List.mem_of_getElem? (i := 4) rfl)) (hw _ (List.mem_of_getElem? (i := 5) rfl)) (by decide) e30 at_304 rfl pdS [(.ref a17), (.int (3 : Int32)), (.ref a18)] [] rfl rfl rfl 0 rfl (by decide) (by decide) (by decide) (by decide) rfl ?_
    rintro _ T31 L31 X31 ⟨rfl, M31, K31, u31_0, u31_1, u31_2, Du31_0, Du31_1, Du31_2, V31⟩
    have A17 := A17.keep K31 (ninS ne_a17_a18 nin0)
    have Z31 : n0 ≤ T31.heap.size := Nat.le_trans Z30 K31.1
    have N31 := Fr.app N30 M31
    obtain ⟨h31, e31⟩ : ∃ z, T31.heap = z := ⟨_, rfl⟩
    rw [e31] at A17 V31 Z31
    show Go p.tables e below _ T31 (mkF m 307 #[.val (.int p0), .val (.int p1), .val (.int p2), .val (.int p3), .val (.int p4), .val (.int p5), .val (.int (3 : Int32)), .val (.long j69), .second, .val (.long j70), .second, .val (.long j71), .second, .val (.long j72), .second, .val (.long j73), .second, .val (.long j74), .second, .val (.long j75), .second, .val (.long j76), .second, .val (.long j77), .second, .val (.long j78), .second, .val (.long j79), .second, .val (.long j80), .second, .val (.long j81), .second, .val (.long j82), .second, .val (.long j83), .second, .val (.double d102), .second, .val (.ref a17), .val (.ref a18), .unset] [])
    refine g_aload C X31 (pc' := 309) at_307 rfl rfl rfl ?_
    refine g_iconst C X31 (pc' := 310) at_309 (v := (0 : Int32)) (by decide) rfl ?_
    refine g_daload C X31 (pc' := 311) e31 V31 (by decide) (by decide) 0 (by decide) rfl at_310 rfl ?_
    refine g_lload C X31 (pc' := 313) at_311 rfl rfl ?_
    refine g_l2d C X31 (pc' := 314) at_313 rfl ?_
    refine g_dcmpV C X31 at_314 (v := (0 : Int32)) ((dcmp_cmpI Du31_0 (l2d_D (x := j75) (by show _ ≤ 9007199254740992; omega)) _).trans (cmpI_self _)) rfl ?_
    refine g_ifN C X31 at_315 (by decide) rfl ?_
    refine g_iconst C X31 (pc' := 319) at_318 (v := (1 : Int32)) (by decide) rfl ?_
    refine g_goto C X31 at_319 (pc' := 323) (by decide) (by decide) ?_
    refine g_istore C X31 (pc' := 325) at_323 (x := (1 : Int32)) rfl (l' := #[.val (.int p0), .val (.int p1), .val (.int p2), .val (.int p3), .val (.int p4), .val (.int p5), .val (.int (3 : Int32)), .val (.long j69), .second, .val (.long j70), .second, .val (.long j71), .second, .val (.long j72), .second, .val (.long j73), .second, .val (.long j74), .second, .val (.long j75), .second, .val (.long j76), .second, .val (.long j77), .second, .val (.long j78), .second, .val (.long j79), .second, .val (.long j80), .second, .val (.long j81), .second, .val (.long j82), .second, .val (.long j83), .second, .val (.double d102), .second, .val (.ref a17), .val (.ref a18), .val (.int (1 : Int32))]) rfl rfl ?_
    refine g_iload C X31 (pc' := 327) at_325 rfl rfl ?_
    refine g_iconst C X31 (pc' := 328) at_327 (v := (2 : Int32)) (by decide) rfl ?_
    refine g_icmpN C X31 at_328 (by decide) rfl ?_
    refine g_iload C X31 (pc' := 333) at_331 rfl rfl ?_
    refine g_ifN C X31 at_333 (by decide) rfl ?_
    refine g_aload C X31 (pc' := 338) at_336 rfl rfl rfl ?_
    refine g_iconst C X31 (pc' := 339) at_338 (v := (1 : Int32)) (by decide) rfl ?_
    refine g_daload C X31 (pc' := 340) e31 V31 (by decide) (by decide) 1 (by decide) rfl at_339 rfl ?_
    refine g_lload C X31 (pc' := 342) at_340 rfl rfl ?_
    refine g_l2d C X31 (pc' := 343) at_342 rfl ?_
    refine g_dcmpV C X31 at_343 (v := (0 : Int32)) ((dcmp_cmpI Du31_1 (l2d_D (x := j76) (by show _ ≤ 9007199254740992; omega)) _).trans (cmpI_self _)) rfl ?_
    refine g_ifN C X31 at_344 (by decide) rfl ?_
    refine g_iconst C X31 (pc' := 348) at_347 (v := (1 : Int32)) (by decide) rfl ?_
    refine g_goto C X31 at_348 (pc' := 352) (by decide) (by decide) ?_
    refine g_istore C X31 (pc' := 354) at_352 (x := (1 : Int32)) rfl (l' := #[.val (.int p0), .val (.int p1), .val (.int p2), .val (.int p3), .val (.int p4), .val (.int p5), .val (.int (3 : Int32)), .val (.long j69), .second, .val (.long j70), .second, .val (.long j71), .second, .val (.long j72), .second, .val (.long j73), .second, .val (.long j74), .second, .val (.long j75), .second, .val (.long j76), .second, .val (.long j77), .second, .val (.long j78), .second, .val (.long j79), .second, .val (.long j80), .second, .val (.long j81), .second, .val (.long j82), .second, .val (.long j83), .second, .val (.double d102), .second, .val (.ref a17), .val (.ref a18), .val (.int (1 : Int32))]) rfl rfl ?_
    refine g_iload C X31 (pc' := 356) at_354 rfl rfl ?_
    refine g_iconst C X31 (pc' := 357) at_356 (v := (3 : Int32)) (by decide) rfl ?_
    refine g_icmpN C X31 at_357 (by decide) rfl ?_
    refine g_iload C X31 (pc' := 362) at_360 rfl rfl ?_
    refine g_ifN C X31 at_362 (by decide) rfl ?_
    refine g_aload C X31 (pc' := 367) at_365 rfl rfl rfl ?_
    refine g_iconst C X31 (pc' := 368) at_367 (v := (2 : Int32)) (by decide) rfl ?_
    refine g_daload C X31 (pc' := 369) e31 V31 (by decide) (by decide) 2 (by decide) rfl at_368 rfl ?_
    refine g_lload C X31 (pc' := 371) at_369 rfl rfl ?_
    refine g_l2d C X31 (pc' := 372) at_371 rfl ?_
    refine g_dcmpV C X31 at_372 (v := (0 : Int32)) ((dcmp_cmpI Du31_2 (l2d_D (x := j77) (by show _ ≤ 9007199254740992; omega)) _).trans (cmpI_self _)) rfl ?_
    refine g_ifN C X31 at_373 (by decide) rfl ?_
    refine g_iconst C X31 (pc' := 377) at_376 (v := (1 : Int32)) (by decide) rfl ?_
    refine g_goto C X31 at_377 (pc' := 381) (by decide) (by decide) ?_
    refine g_istore C X31 (pc' := 383) at_381 (x := (1 : Int32)) rfl (l' := #[.val (.int p0), .val (.int p1), .val (.int p2), .val (.int p3), .val (.int p4), .val (.int p5), .val (.int (3 : Int32)), .val (.long j69), .second, .val (.long j70), .second, .val (.long j71), .second, .val (.long j72), .second, .val (.long j73), .second, .val (.long j74), .second, .val (.long j75), .second, .val (.long j76), .second, .val (.long j77), .second, .val (.long j78), .second, .val (.long j79), .second, .val (.long j80), .second, .val (.long j81), .second, .val (.long j82), .second, .val (.long j83), .second, .val (.double d102), .second, .val (.ref a17), .val (.ref a18), .val (.int (1 : Int32))]) rfl rfl ?_
    refine g_iload C X31 (pc' := 385) at_383 rfl rfl ?_
    exact g_zreturn C X31 at_385 (w := 1) (by decide) ⟨rfl, N31⟩ (by decide) (by decide)
set_option maxRecDepth 65536 in
set_option maxHeartbeats 40000000 in
theorem comes_1 {Post : Tables → Env → Array Value → State → Outcome → State → Prop} (hpost : ∀ tb e args s v u, (limb_1_1.after args s (.returned v) u = true ∧ limb_1_2.after args s (.returned v) u = true ∧ True) → FrameEnd s (.returned v) u (Jvm.fieldLocs frame_1_writes args s ++ Jvm.arrayLocs frame_1_arrays args s ++ Jvm.staticLocs frame_1_statics s) 16 128 → Post tb e args s (.returned v) u) :
    ArmFor flags0 classFile x code maxLocals ret World_1 tables_1 room_1 Calls_1 rest_1 Pre_1 Post := by
  intro l hfl _ _ p e ha hc hk s m args below hf hA hF happ hP
  obtain ⟨hcalls, hrest, hpre⟩ := hP
  obtain ⟨-, -, -, hnamed, -, -, -, hat⟩ := (Spec.applies_iff hf).mp happ
  obtain ⟨hg, hn⟩ := and_e (Cond.before_iff.mp (show (Jvm.Cond.and given_1 narrow_1).before args s = true from hpre))
  obtain ⟨g_c, g_0⟩ := and_e hg
  obtain ⟨k_0, g_1⟩ := and_e g_0
  obtain ⟨k_1, g_2⟩ := and_e g_1
  obtain ⟨k_2, g_3⟩ := and_e g_2
  obtain ⟨k_3, g_4⟩ := and_e g_3
  obtain ⟨k_4, g_5⟩ := and_e g_4
  have k_5 := g_5
  obtain ⟨w0, w1, w2, w3, w4, w5, rfl⟩ : ∃ w0 w1 w2 w3 w4 w5 : Value, args = #[w0, w1, w2, w3, w4, w5] := by
    have hs : args.size = 6 := by simpa [Cond.value, given_1] using g_c
    obtain ⟨L⟩ := args
    match L, hs with
    | [w0, w1, w2, w3, w4, w5], _ => exact ⟨w0, w1, w2, w3, w4, w5, rfl⟩
  have hw := fun d (hd : d ∈ tables_1) => atoms_spec (ws := Jvm.Cond.code x code maxLocals ret :: tables_1) hat d (List.mem_cons_of_mem _ hd)
  have hfit : Fit s := fun {y c} hc i hi => by
    obtain ⟨ha, rfl⟩ := Array.getElem?_eq_some_iff.mp hc
    have q := List.all_eq_true.mp ((Array.all_eq_true_iff_forall_mem.mp hF) _ (Array.getElem_mem ha)) i (List.mem_range.mpr hi)
    simpa [Array.getElem?_eq_getElem hi] using q
  obtain ⟨p0, q_0⟩ := is_v k_0
  obtain rfl : w0 = (.int p0) := Option.some.inj q_0
  obtain ⟨p1, q_1⟩ := is_v k_1
  obtain rfl : w1 = (.int p1) := Option.some.inj q_1
  obtain ⟨p2, q_2⟩ := is_v k_2
  obtain rfl : w2 = (.int p2) := Option.some.inj q_2
  obtain ⟨p3, q_3⟩ := is_v k_3
  obtain rfl : w3 = (.int p3) := Option.some.inj q_3
  obtain ⟨p4, q_4⟩ := is_v k_4
  obtain rfl : w4 = (.int p4) := Option.some.inj q_4
  obtain ⟨p5, q_5⟩ := is_v k_5
  obtain rfl : w5 = (.int p5) := Option.some.inj q_5
  obtain ⟨n, o, h1, h2, h3, _, L, rfl, ⟨rfl, N⟩, hq⟩ := law l s _ hw p0 p1 p2 p3 p4 p5 s.heap s.heap.size (Nat.le_refl _)  tables_1 p e ha hc hk s m _ below hf ((Spec.applies_iff_loose hf).mp happ).1 ⟨rfl, State.Warmed39.refl s, rfl⟩ trivial
  refine ⟨n, _, h1, h2, h3, hpost _ _ _ _ _ _ ⟨Cond.after_iff.mpr rfl, Cond.after_iff.mpr (eq_i res_at (Term.int_eval (1)) rfl), trivial⟩ ⟨hq.1, hq.2.1, (hq.2.2.sift fun y hy => Or.inr (N y hy)).mono (by decide) (by decide)⟩⟩
theorem main_1_1 : Claimed_1_1 := comes_1 fun _ _ _ _ _ _ h hF => ⟨h.1, hF⟩
theorem main_1_2 : Claimed_1_2 := comes_1 fun _ _ _ _ _ _ h hF => ⟨h.2.1, hF⟩
end Jvm.Pilot.@@N@@
namespace Jvm.Pilot.@@N@@
open Jvm Jvm.ClassFile Sem Op Lib Jvm.Free Jvm.Stand Jvm.Pilot.@@N@@.Jvm.D
/-! MADE BY PROGRAM (witnessworld.py) out of the Statement's table words and the real class files: 11 classes; the members and pool entries that the words name. The judged class is class 1, her method 1. -/
namespace start1
open Jvm.ClassFile
def u (s : String) : CpInfo := .utf8 (stringToUtf16 s)
/-- a pool by its gaps: so many unusable entries, then the entry; so many at the end -/
def gap : Nat → List CpInfo → List CpInfo
  | 0, r => r
  | n + 1, r => .unusable :: gap n r
def poolList (es : List (Nat × CpInfo)) (last : Nat) : List CpInfo := es.foldr (fun e r => gap e.1 (e.2 :: r)) (gap last [])
def pool (es : List (Nat × CpInfo)) (last : Nat) : Array CpInfo := ⟨poolList es last⟩
def fileOf (pool : Array CpInfo) (this : Nat) (attrs : Array Attribute := #[]) (ms : Array MethodInfo := #[]) (fl : Nat := 33) (sup : Nat := 0) (ifs : Array Nat := #[]) (fds : Array FieldInfo := #[]) : ClassFile where
  minorVersion := 0
  majorVersion := 65
  constantPool := pool
  accessFlags := fl
  thisClass := this
  superClass := sup
  interfaces := ifs
  fields := fds
  methods := ms
  attributes := attrs
def plain (name : String) (sup : Option ClassId) : Class where
  name := name
  kind := .ordinary
  loader := none
  accessFlags := 33
  super := sup
  interfaces := #[]
  cf := none
  fields := #[]
  methods := #[]
  instanceTypes := #[]
  staticTypes := #[]
  resolved := #[]
  callSites := []
  init := .initialized
  statics := none
  mirror := none

def pool0 : Array CpInfo := pool [(5, u "<init>"), (0, u "()V"), (1, .class_ 10), (1, u "java/lang/Object")] 113

def k0m0 : Method := { name := "<init>", desc := "()V", sig := { parameters := [], returnType := none }, accessFlags := 1, code := none }
/-- java/lang/Object -/
def k0 : Class := { plain "java/lang/Object" none with
  accessFlags := 33
  interfaces := #[]
  cf := some (fileOf pool0 8 #[] #[{ accessFlags := 1, nameIndex := 5, descriptorIndex := 6, attributes := #[] }] 33 0 #[] #[])
  fields := #[]
  methods := #[k0m0]
  instanceTypes := #[]
  staticTypes := #[]
  resolved := Array.replicate 124 none
  statics := none }

def pool1 : Array CpInfo := pool [(2, .class_ 4), (1, u "java/lang/Object"), (0, u "<init>"), (0, u "()V"), (0, .integer 2147483647), (0, .methodref 9 10), (0, .class_ 11), (0, .nameAndType 12 13), (0, u "com/example/fleetloom/fleetloom/DenseCholesky"), (0, u "solve"), (0, u "([DI[D)V"), (0, .class_ 15), (0, u "com/example/fleetloom/fleetloom/DenseCholeskySolvePinLaw"), (2, u "law"), (0, u "(IIIIII)Z")] 5

def k1m0 : Method := { name := "<init>", desc := "()V", sig := { parameters := [], returnType := none }, accessFlags := 2, code := none }
def k1c1 : Code := { maxStack := 6, maxLocals := 42, code := code, exceptionTable := #[], attributes := #[] }
def k1m1 : Method := { name := "law", desc := "(IIIIII)Z", sig := { parameters := [.int, .int, .int, .int, .int, .int], returnType := some .boolean }, accessFlags := 9, code := some k1c1 }
/-- com/example/fleetloom/fleetloom/DenseCholeskySolvePinLaw -/
def k1 : Class := { plain "com/example/fleetloom/fleetloom/DenseCholeskySolvePinLaw" (some 0) with
  accessFlags := 49
  interfaces := #[]
  cf := some (fileOf pool1 14 #[] #[{ accessFlags := 2, nameIndex := 5, descriptorIndex := 6, attributes := #[] }, { accessFlags := 9, nameIndex := 18, descriptorIndex := 19, attributes := #[] }] 49 2 #[] #[])
  fields := #[]
  methods := #[k1m0, k1m1]
  instanceTypes := #[]
  staticTypes := #[]
  resolved := Array.replicate 25 none
  statics := none }

def pool2 : Array CpInfo := pool [(2, .class_ 4), (1, u "java/lang/Object"), (0, u "<init>"), (0, u "()V"), (0, .class_ 8), (0, u "com/example/fleetloom/fleetloom/DenseCholesky"), (59, u "BLOCK"), (0, u "I"), (2, u "PARALLEL_ORDER"), (1, u "TINY_PIVOT"), (0, u "D"), (0, u "HUGE_PIVOT"), (7, u "solve"), (0, u "([DI[D)V")] 25

def k2m0 : Method := { name := "<init>", desc := "()V", sig := { parameters := [], returnType := none }, accessFlags := 2, code := none }
def k2c1 : Code := { maxStack := 8, maxLocals := 8, code := prog_5_method_8_code, exceptionTable := #[], attributes := #[] }
def k2m1 : Method := { name := "solve", desc := "([DI[D)V", sig := { parameters := [(.array .double), .int, (.array .double)], returnType := none }, accessFlags := 8, code := some k2c1 }
/-- com/example/fleetloom/fleetloom/DenseCholesky -/
def k2 : Class := { plain "com/example/fleetloom/fleetloom/DenseCholesky" (some 0) with
  accessFlags := 32
  interfaces := #[]
  cf := some (fileOf pool2 7 #[] #[{ accessFlags := 2, nameIndex := 5, descriptorIndex := 6, attributes := #[] }, { accessFlags := 8, nameIndex := 84, descriptorIndex := 85, attributes := #[] }] 32 2 #[] #[{ accessFlags := 26, nameIndex := 68, descriptorIndex := 69, attributes := #[] }, { accessFlags := 26, nameIndex := 72, descriptorIndex := 69, attributes := #[] }, { accessFlags := 26, nameIndex := 74, descriptorIndex := 75, attributes := #[] }, { accessFlags := 26, nameIndex := 76, descriptorIndex := 75, attributes := #[] }])
  fields := #[{ name := "BLOCK", type := .int, accessFlags := 26, slot := 0, constantValue := 0 }, { name := "PARALLEL_ORDER", type := .int, accessFlags := 26, slot := 1, constantValue := 0 }, { name := "TINY_PIVOT", type := .double, accessFlags := 26, slot := 2, constantValue := 0 }, { name := "HUGE_PIVOT", type := .double, accessFlags := 26, slot := 3, constantValue := 0 }]
  methods := #[k2m0, k2m1]
  instanceTypes := #[]
  staticTypes := #[.int, .int, .double, .double]
  resolved := Array.replicate 111 none
  statics := none }

def pool3 : Array CpInfo := pool [(1, u "java/lang/Cloneable"), (0, .class_ 1), (0, u "java/lang/Object"), (0, .class_ 3)] 3

/-- java/lang/Cloneable -/
def k3 : Class := { plain "java/lang/Cloneable" (some 0) with
  accessFlags := 1537
  interfaces := #[]
  cf := some (fileOf pool3 2 #[] #[] 1537 4 #[] #[])
  fields := #[]
  methods := #[]
  instanceTypes := #[]
  staticTypes := #[]
  resolved := Array.replicate 8 none
  statics := none }

def pool4 : Array CpInfo := pool [(1, u "java/io/Serializable"), (0, .class_ 1), (0, u "java/lang/Object"), (0, .class_ 3)] 3

/-- java/io/Serializable -/
def k4 : Class := { plain "java/io/Serializable" (some 0) with
  accessFlags := 1537
  interfaces := #[]
  cf := some (fileOf pool4 2 #[] #[] 1537 4 #[] #[])
  fields := #[]
  methods := #[]
  instanceTypes := #[]
  staticTypes := #[]
  resolved := Array.replicate 8 none
  statics := none }

/-- the primitive byte -/
def k5 : Class := { plain "byte" none with kind := .primitive 'B', accessFlags := 0x411 }
/-- [B -/
def k6 : Class := { plain "[B" (some 0) with kind := .array 5 .byte, interfaces := #[3, 4], accessFlags := 1041 }

/-- the primitive double -/
def k7 : Class := { plain "double" none with kind := .primitive 'D', accessFlags := 0x411 }
/-- [D -/
def k8 : Class := { plain "[D" (some 0) with kind := .array 7 .double, interfaces := #[3, 4], accessFlags := 1041 }

/-- the primitive int -/
def k9 : Class := { plain "int" none with kind := .primitive 'I', accessFlags := 0x411 }
/-- [I -/
def k10 : Class := { plain "[I" (some 0) with kind := .array 9 .int, interfaces := #[3, 4], accessFlags := 1041 }

def heap : Heap := #[]
def classes : Array Class := #[k0, k1, k2, k3, k4, k5, k6, k7, k8, k9, k10]
def interned : List (Array UInt16 × Addr) := []
def slotsUsed : Nat := 0
def theMethod : MethodId := ⟨1, 1⟩
def args0 : Array Value := #[.int 3, .int 7, .int 2, .int 4, .int 5, .int 6]
def aboutOver (below : List Frame) : State where
  vm := { classes := classes, interned := interned.toArray }
  heap := heap
  slotsUsed := slotsUsed
  threads := #[{ frames := .invoking theMethod args0 :: below }]
def below0 : List Frame := [.native { method := ⟨0, 0⟩, args := #[] }]
def about1 : State := aboutOver below0
def p0 : Program := .bare "" "" ""
def e0 : Env := launch0.env 0 0 0
theorem w_frames : about1.frames = Frame.invoking theMethod args0 :: below0 := rfl
set_option maxRecDepth 65536 in
theorem w_args : argsFit about1.vm theMethod args0 = true := by decide +kernel
set_option maxRecDepth 65536 in
theorem w_heap : heapFits about1 = true := by decide +kernel
set_option maxRecDepth 65536 in
theorem w_runnable : about1.curStatus? = some .runnable := by decide +kernel
set_option maxRecDepth 65536 in
theorem w_alone : about1.alone = true := by decide +kernel
set_option maxRecDepth 65536 in
theorem w_named : about1.methodNamed? x = some theMethod := by decide +kernel
set_option maxRecDepth 65536 in
theorem w_hears : about1.hears theMethod below0 = true := by decide +kernel
set_option maxRecDepth 65536 in
theorem w_ripe : about1.ripe theMethod args0 below0 = true := by decide +kernel
theorem w_running : about1.status = .running := rfl
set_option maxRecDepth 65536 in
theorem w_room : about1.hasRoom e0.platform room_1 = true :=
  launch0.hasRoom_least _ room_1 (by decide +kernel) (by decide +kernel) (by decide +kernel) (by decide +kernel) (by decide +kernel) (by decide +kernel)
theorem allAtoms_all (ts : List Jvm.Cond) (a : Array Jvm.Value) (st : Jvm.State) : (allAtoms ts).before a st = ts.all (fun c => c.before a st) := by
  induction ts with
  | nil => rfl
  | cons c t ih =>
    show (Jvm.Cond.and c (allAtoms t)).before a st = _
    rw [Jvm.Cond.before_and, ih, List.all_cons]
def words1 : List Jvm.Cond := Jvm.Cond.code x code maxLocals ret :: tables_1
/-- a 'code' word, met by the world's own term for the bytes: nothing is compared byte by byte -/
theorem code_word {y : MethodName} {bytes : ByteArray} {mx : Nat} {rt : Option FieldType} {a : Array Value} {s : State} {m : MethodId} {meth : Method} {c : Code} (h1 : s.methodNamed? y = some m) (h2 : s.vm.method? m = some meth) (h3 : meth.code = some c) (h4 : c.code = bytes)
    (h5 : (c.maxLocals == mx && c.exceptionTable.isEmpty && decide (c.maxStack ≤ mostOperands) && decide (meth.sig.returnType = rt) && !meth.locks && decide (parseMethodDescriptor y.desc = some meth.sig)) = true) : (Jvm.Cond.code y bytes mx rt).before a s = true := by
  simp only [Bool.and_eq_true, beq_iff_eq, Bool.not_eq_true', decide_eq_true_eq] at h5
  obtain ⟨⟨⟨⟨⟨g1, g2⟩, g3⟩, g4⟩, g5⟩, g6⟩ := h5
  simp [Cond.before, Cond.holds, Cond.value, h1, h2, h3, h4, g1, g2, g3, g4, g5, g6]
def isCode : Jvm.Cond → Bool
  | .code _ _ _ _ => true
  | _ => false
theorem all_split {L : List Jvm.Cond} {P : Jvm.Cond → Bool} (h1 : L.all (fun c => isCode c || P c) = true) (h2 : ∀ c ∈ L.filter isCode, P c = true) : L.all P = true := by
  refine List.all_eq_true.mpr fun c hc => ?_
  have h := List.all_eq_true.mp h1 c hc
  rcases Bool.eq_false_or_eq_true (isCode c) with hi | hi
  · exact h2 c (List.mem_filter.mpr ⟨hc, hi⟩)
  · simpa [hi] using h
set_option maxRecDepth 65536 in
theorem w_c0 : (Jvm.Cond.code x code maxLocals ret).before args0 about1 = true := code_word (m := ⟨1, 1⟩) (meth := k1m1) (c := k1c1) (by decide +kernel) rfl rfl rfl (by decide +kernel)
set_option maxRecDepth 65536 in
theorem w_c1 : (Jvm.Cond.code ({ cls := "com/example/fleetloom/fleetloom/DenseCholesky", name := "solve", desc := "([DI[D)V" } : Jvm.MethodName) prog_5_method_8_code (8 : Nat) (Option.none : Option Jvm.ClassFile.FieldType)).before args0 about1 = true := code_word (m := ⟨2, 1⟩) (meth := k2m1) (c := k2c1) (by decide +kernel) rfl rfl rfl (by decide +kernel)
def codes1 : List Jvm.Cond := [Jvm.Cond.code x code maxLocals ret, Jvm.Cond.code ({ cls := "com/example/fleetloom/fleetloom/DenseCholesky", name := "solve", desc := "([DI[D)V" } : Jvm.MethodName) prog_5_method_8_code (8 : Nat) (Option.none : Option Jvm.ClassFile.FieldType)]
set_option maxRecDepth 65536 in
theorem codes_eq : words1.filter isCode = codes1 := rfl
theorem w_codes : ∀ c ∈ words1.filter isCode, c.before args0 about1 = true := by
  rw [codes_eq]
  intro c hc
  simp only [codes1, List.mem_cons, List.not_mem_nil, or_false] at hc
  rcases hc with rfl | rfl
  · exact w_c0
  · exact w_c1
set_option maxRecDepth 65536 in
theorem w_t1 : words1.all (fun c => isCode c || c.before args0 about1) = true := by decide +kernel
theorem w_tables : (allAtoms (Jvm.Cond.code x code maxLocals ret :: tables_1)).before args0 about1 = true := by
  rw [allAtoms_all]
  show words1.all (fun c => c.before args0 about1) = true
  refine all_split ?_ w_codes
  rw [w_t1]
set_option maxRecDepth 65536 in
theorem w_case : (Jvm.Cond.and given_1 narrow_1).before args0 about1 = true := by decide +kernel
theorem w_applies : (headSpec (Jvm.Cond.code x code maxLocals ret :: tables_1) room_1).applies x e0.platform about1 = true :=
  (Spec.applies_iff w_frames).mpr ⟨w_running, w_runnable, w_alone, w_named, w_hears, w_ripe, w_room, w_tables⟩
theorem atStart : AtStart classFile x code maxLocals ret World_1 tables_1 room_1 Calls_1 rest_1 Pre_1 launch0 p0 e0 about1 theMethod args0 below0 :=
  ⟨lists_1, trivial, launch0.admits_env _ _ _, launch0.least_env, fairChoices_fair.cas, fairChoices_fair.clock, w_frames, w_args, w_heap, w_applies, trivial, trivial, w_case⟩
end start1
theorem witness_1 : WitnessClaimed_1 := ⟨start1.p0, start1.e0, start1.about1, start1.theMethod, start1.args0, start1.below0, start1.atStart⟩
end Jvm.Pilot.@@N@@
