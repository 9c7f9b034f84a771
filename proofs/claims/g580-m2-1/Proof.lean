import JvmDerived
import JvmDerived.Pilot.@@N@@Statement
import JvmDerived.Pilot.@@N@@Code
set_option linter.unusedVariables false
set_option linter.unusedSimpArgs false
namespace Jvm.OwnKit
open Sem ClassFile Op Lib Jvm.Stand Jvm.Free Jvm.LawKit Jvm.RoadKit
section Walk
variable {p : Program} {l : Launch} {e : Env} {R : Room} {s : State} {m : MethodId} {args : Array Value} {below : List Frame} {meth : Method} {c : Code} {T : State} {locs : List Loc} {cells slots : Nat} {Z : State} {a0 : Array Value} {h : Heap} {G : Outcome → State → Prop}
variable {x0 : MethodName} {code : ByteArray} {maxL : Nat} {ret : Option FieldType}
/-- what is still owed from the frame g on: the run ends, and G holds of the end -/
def Go (tb : Tables) (e : Env) (below : List Frame) (G : Outcome → State → Prop) (T : State) (g : JFrame) : Prop :=
  ∃ s₂ o, Steps tb e below (T.setTop g) s₂ ∧ s₂.status = .running ∧ Ended s₂ below o ∧ G o s₂
theorem Go.step {tb : Tables} {T T' : State} {g g' : JFrame} (q : ∀ t, Steps tb e below (T'.setTop g') t → Steps tb e below (T.setTop g) t) (k : Go tb e below G T' g') : Go tb e below G T g := by
  obtain ⟨s2, o, h1, h2⟩ := k
  exact ⟨s2, o, q _ h1, h2⟩
/-- what stands still while one body is walked -/
def Cx (p : Program) (l : Launch) (s : State) (m : MethodId) (meth : Method) (c : Code) (Z : State) (x0 : MethodName) (code : ByteArray) (maxL : Nat) (ret : Option FieldType) : Prop :=
  p.tables.exec = Jvm.exec ∧ Z.Warmed39 s.vm ∧ c.code = code ∧ c.maxLocals = maxL ∧ s.vm.findClass x0.cls = some m.cls ∧ meth.sig.returnType = ret ∧ meth.locks = false ∧ meth.name = x0.name
theorem Cx.exec (C : Cx p l s m meth c Z x0 code maxL ret) : p.tables.exec = Jvm.exec := C.1
theorem Cx.warm (C : Cx p l s m meth c Z x0 code maxL ret) : Z.Warmed39 s.vm := C.2.1
theorem Cx.bytes (C : Cx p l s m meth c Z x0 code maxL ret) : c.code = code := C.2.2.1
theorem Cx.maxl (C : Cx p l s m meth c Z x0 code maxL ret) : c.maxLocals = maxL := C.2.2.2.1
theorem Cx.own (C : Cx p l s m meth c Z x0 code maxL ret) : s.vm.findClass x0.cls = some m.cls := C.2.2.2.2.1
theorem Cx.rets (C : Cx p l s m meth c Z x0 code maxL ret) : meth.sig.returnType = ret := C.2.2.2.2.2.1
theorem Cx.unlocked (C : Cx p l s m meth c Z x0 code maxL ret) : meth.locks = false := C.2.2.2.2.2.2.1
theorem Cx.nm (C : Cx p l s m meth c Z x0 code maxL ret) : meth.name = x0.name := C.2.2.2.2.2.2.2
theorem Cx.at (C : Cx p l s m meth c Z x0 code maxL ret) {pc : Nat} {r : Except ClassFile.DecodeError (ClassFile.Instr × Nat)} (h2 : decode code pc = r) : decode c.code pc = r := hb C.bytes h2
/-- the end of a walk: what is returned, the heap and the places written answer Q -/
def End (s : State) (Q : Option Value → Heap → List Loc → Prop) (k n : Nat) (o : Outcome) (U : State) : Prop := ∃ v L, o = .returned v ∧ Q v U.heap L ∧ FrameEnd s o U L k n
/-- a body's contract at one call: the arguments as, the heap h -/
def Con (l : Launch) (Z : State) (y : MethodName) (bytes : ByteArray) (maxL : Nat) (ret : Option FieldType) (rm : Room) (as : Array Value) (h : Heap) (Q : Option Value → Heap → List Loc → Prop) : Prop :=
  ∀ ws, MetFree l y (head1 (Cond.code y bytes maxL ret :: ws) rm) (fun a U => a = as ∧ Z.Warmed39 U.vm ∧ U.heap = h) (fun _ _ _ _ _ => True) (fun _ U o U' => End U Q rm.cells rm.slots o U')
theorem con_of_go {rm : Room} {as : Array Value} {Q : Option Value → Heap → List Loc → Prop} {Ls : Array Slot} (hn : plainName x0.cls = true) (hef : ∀ m, entryFrame m as maxL = mkF m 0 Ls [])
    (H : ∀ (p : Program) (e : Env) (s : State) (m : MethodId) (below : List Frame) (meth : Method) (c : Code) (T : State), Cx p l s m meth c Z x0 code maxL ret → Stand p l e rm s m as below meth c T [] 0 0 → T.heap = h → Go p.tables e below (End s Q rm.cells rm.slots) T (mkF m 0 Ls [])) :
    Con l Z x0 code maxL ret rm as h Q := by
  intro ws
  refine MetFree.of_bodySF (plainFor_of_name hn) hisR ?_
  intro p e s m args below meth c s₁ Bd hml hP hK
  obtain ⟨rfl, hZ, hh⟩ := hP
  have X0 : Stand p l e rm s m args below meth c s₁ [] 0 0 := Stand.of_body Bd
  have e0 : s₁.heap = h := by rw [← hh, Bd.state]; rfl
  have q := H p e s m below meth c s₁ ⟨Bd.exec, hZ, Bd.bytes, hml, findClass_of_methodNamed Bd.named, Bd.returns, Bd.notSynchronized, (name_of_methodNamed Bd.named Bd.method).1⟩ X0 e0
  rw [hef]
  exact q
theorem g_aloadN (C : Cx p l s m meth c Z x0 code maxL ret) (X : Stand p l e R s m args below meth c T locs cells slots) {pc pc' : Nat} {Ls : Array Slot} {st : List Value} {k : Fin 4} {v : Value} (hd : decode code pc = .ok (.aload_n k, 1)) (hl : Ls[k.val]? = some (.val v)) (hv : v.isRef = true) (hp : pc + 1 = pc')
    (K : Go p.tables e below G T (mkF m pc' Ls (v :: st))) : Go p.tables e below G T (mkF m pc Ls (st)) := by
  subst hp; exact Go.step (fun _ k => XS.aloadN X.here C.exec rfl (C.at hd) hl hv k) K
theorem g_aload (C : Cx p l s m meth c Z x0 code maxL ret) (X : Stand p l e R s m args below meth c T locs cells slots) {pc pc' : Nat} {Ls : Array Slot} {st : List Value} {k : Nat} {v : Value} (hd : decode code pc = .ok (.aload k, 2)) (hl : Ls[k]? = some (.val v)) (hv : v.isRef = true) (hp : pc + 2 = pc')
    (K : Go p.tables e below G T (mkF m pc' Ls (v :: st))) : Go p.tables e below G T (mkF m pc Ls (st)) := by
  subst hp; exact Go.step (fun _ k => XS.aload X.here C.exec rfl (C.at hd) hl hv k) K
theorem g_iloadN (C : Cx p l s m meth c Z x0 code maxL ret) (X : Stand p l e R s m args below meth c T locs cells slots) {pc pc' : Nat} {Ls : Array Slot} {st : List Value} {k : Fin 4} {v : Int32} (hd : decode code pc = .ok (.iload_n k, 1)) (hl : Ls[k.val]? = some (.val (.int v))) (hp : pc + 1 = pc')
    (K : Go p.tables e below G T (mkF m pc' Ls (.int v :: st))) : Go p.tables e below G T (mkF m pc Ls (st)) := by
  subst hp; exact Go.step (fun _ k => XS.iloadN X.here C.exec rfl (C.at hd) hl k) K
theorem g_iload (C : Cx p l s m meth c Z x0 code maxL ret) (X : Stand p l e R s m args below meth c T locs cells slots) {pc pc' : Nat} {Ls : Array Slot} {st : List Value} {k : Nat} {v : Int32} (hd : decode code pc = .ok (.iload k, 2)) (hl : Ls[k]? = some (.val (.int v))) (hp : pc + 2 = pc')
    (K : Go p.tables e below G T (mkF m pc' Ls (.int v :: st))) : Go p.tables e below G T (mkF m pc Ls (st)) := by
  subst hp; exact Go.step (fun _ k => XS.iload X.here C.exec rfl (C.at hd) hl k) K
theorem g_istoreN (C : Cx p l s m meth c Z x0 code maxL ret) (X : Stand p l e R s m args below meth c T locs cells slots) {pc pc' : Nat} {Ls : Array Slot} {st : List Value} {k : Fin 4} {x y : Int32} {l' : Array Slot} (hd : decode code pc = .ok (.istore_n k, 1)) (hv : x = y) (hl : storeLocals Ls k.val (.int x) = some l') (hp : pc + 1 = pc')
    (K : Go p.tables e below G T (mkF m pc' l' (st))) : Go p.tables e below G T (mkF m pc Ls (.int y :: st)) := by
  subst hp; subst hv; exact Go.step (fun _ k => XS.istoreN X.here C.exec rfl (C.at hd) rfl hl k) K
theorem g_istore (C : Cx p l s m meth c Z x0 code maxL ret) (X : Stand p l e R s m args below meth c T locs cells slots) {pc pc' : Nat} {Ls : Array Slot} {st : List Value} {k : Nat} {x y : Int32} {l' : Array Slot} (hd : decode code pc = .ok (.istore k, 2)) (hv : x = y) (hl : storeLocals Ls k (.int x) = some l') (hp : pc + 2 = pc')
    (K : Go p.tables e below G T (mkF m pc' l' (st))) : Go p.tables e below G T (mkF m pc Ls (.int y :: st)) := by
  subst hp; subst hv; exact Go.step (fun _ k => XS.istore X.here C.exec rfl (C.at hd) rfl hl k) K
theorem g_lloadN (C : Cx p l s m meth c Z x0 code maxL ret) (X : Stand p l e R s m args below meth c T locs cells slots) {pc pc' : Nat} {Ls : Array Slot} {st : List Value} {k : Fin 4} {v : Int64} (hd : decode code pc = .ok (.lload_n k, 1)) (hl : Ls[k.val]? = some (.val (.long v))) (hp : pc + 1 = pc')
    (K : Go p.tables e below G T (mkF m pc' Ls (.long v :: st))) : Go p.tables e below G T (mkF m pc Ls (st)) := by
  subst hp; exact Go.step (fun _ k => XT.lloadN X.here C.exec rfl (C.at hd) hl k) K
theorem g_lload (C : Cx p l s m meth c Z x0 code maxL ret) (X : Stand p l e R s m args below meth c T locs cells slots) {pc pc' : Nat} {Ls : Array Slot} {st : List Value} {k : Nat} {v : Int64} (hd : decode code pc = .ok (.lload k, 2)) (hl : Ls[k]? = some (.val (.long v))) (hp : pc + 2 = pc')
    (K : Go p.tables e below G T (mkF m pc' Ls (.long v :: st))) : Go p.tables e below G T (mkF m pc Ls (st)) := by
  subst hp; exact Go.step (fun _ k => XT.lload X.here C.exec rfl (C.at hd) hl k) K
theorem g_lstoreN (C : Cx p l s m meth c Z x0 code maxL ret) (X : Stand p l e R s m args below meth c T locs cells slots) {pc pc' : Nat} {Ls : Array Slot} {st : List Value} {k : Fin 4} {x y : Int64} {l' : Array Slot} (hd : decode code pc = .ok (.lstore_n k, 1)) (hv : x = y) (hl : storeLocals Ls k.val (.long x) = some l') (hp : pc + 1 = pc')
    (K : Go p.tables e below G T (mkF m pc' l' (st))) : Go p.tables e below G T (mkF m pc Ls (.long y :: st)) := by
  subst hp; subst hv; exact Go.step (fun _ k => XT.lstoreN X.here C.exec rfl (C.at hd) rfl hl k) K
theorem g_lstore (C : Cx p l s m meth c Z x0 code maxL ret) (X : Stand p l e R s m args below meth c T locs cells slots) {pc pc' : Nat} {Ls : Array Slot} {st : List Value} {k : Nat} {x y : Int64} {l' : Array Slot} (hd : decode code pc = .ok (.lstore k, 2)) (hv : x = y) (hl : storeLocals Ls k (.long x) = some l') (hp : pc + 2 = pc')
    (K : Go p.tables e below G T (mkF m pc' l' (st))) : Go p.tables e below G T (mkF m pc Ls (.long y :: st)) := by
  subst hp; subst hv; exact Go.step (fun _ k => XT.lstore X.here C.exec rfl (C.at hd) rfl hl k) K
theorem g_dloadN (C : Cx p l s m meth c Z x0 code maxL ret) (X : Stand p l e R s m args below meth c T locs cells slots) {pc pc' : Nat} {Ls : Array Slot} {st : List Value} {k : Fin 4} {v : UInt64} (hd : decode code pc = .ok (.dload_n k, 1)) (hl : Ls[k.val]? = some (.val (.double v))) (hp : pc + 1 = pc')
    (K : Go p.tables e below G T (mkF m pc' Ls (.double v :: st))) : Go p.tables e below G T (mkF m pc Ls (st)) := by
  subst hp; exact Go.step (fun _ k => XS.dloadN X.here C.exec rfl (C.at hd) hl k) K
theorem g_dload (C : Cx p l s m meth c Z x0 code maxL ret) (X : Stand p l e R s m args below meth c T locs cells slots) {pc pc' : Nat} {Ls : Array Slot} {st : List Value} {k : Nat} {v : UInt64} (hd : decode code pc = .ok (.dload k, 2)) (hl : Ls[k]? = some (.val (.double v))) (hp : pc + 2 = pc')
    (K : Go p.tables e below G T (mkF m pc' Ls (.double v :: st))) : Go p.tables e below G T (mkF m pc Ls (st)) := by
  subst hp; exact Go.step (fun _ k => XS.dload X.here C.exec rfl (C.at hd) hl k) K
theorem g_dstoreN (C : Cx p l s m meth c Z x0 code maxL ret) (X : Stand p l e R s m args below meth c T locs cells slots) {pc pc' : Nat} {Ls : Array Slot} {st : List Value} {k : Fin 4} {x y : UInt64} {l' : Array Slot} (hd : decode code pc = .ok (.dstore_n k, 1)) (hv : x = y) (hl : storeLocals Ls k.val (.double x) = some l') (hp : pc + 1 = pc')
    (K : Go p.tables e below G T (mkF m pc' l' (st))) : Go p.tables e below G T (mkF m pc Ls (.double y :: st)) := by
  subst hp; subst hv; exact Go.step (fun _ k => XS.dstoreN X.here C.exec rfl (C.at hd) rfl hl k) K
theorem g_dstore (C : Cx p l s m meth c Z x0 code maxL ret) (X : Stand p l e R s m args below meth c T locs cells slots) {pc pc' : Nat} {Ls : Array Slot} {st : List Value} {k : Nat} {x y : UInt64} {l' : Array Slot} (hd : decode code pc = .ok (.dstore k, 2)) (hv : x = y) (hl : storeLocals Ls k (.double x) = some l') (hp : pc + 2 = pc')
    (K : Go p.tables e below G T (mkF m pc' l' (st))) : Go p.tables e below G T (mkF m pc Ls (.double y :: st)) := by
  subst hp; subst hv; exact Go.step (fun _ k => XS.dstore X.here C.exec rfl (C.at hd) rfl hl k) K
theorem g_astoreN (C : Cx p l s m meth c Z x0 code maxL ret) (X : Stand p l e R s m args below meth c T locs cells slots) {pc pc' : Nat} {Ls : Array Slot} {st : List Value} {k : Fin 4} {v : Value} {l' : Array Slot} (hd : decode code pc = .ok (.astore_n k, 1)) (hv : v.isRef = true) (hl : storeLocals Ls k.val v = some l') (hp : pc + 1 = pc')
    (K : Go p.tables e below G T (mkF m pc' l' (st))) : Go p.tables e below G T (mkF m pc Ls (v :: st)) := by
  subst hp; exact Go.step (fun _ k => XS.astoreN X.here C.exec rfl (C.at hd) rfl hv hl k) K
theorem g_astore (C : Cx p l s m meth c Z x0 code maxL ret) (X : Stand p l e R s m args below meth c T locs cells slots) {pc pc' : Nat} {Ls : Array Slot} {st : List Value} {k : Nat} {v : Value} {l' : Array Slot} (hd : decode code pc = .ok (.astore k, 2)) (hv : v.isRef = true) (hl : storeLocals Ls k v = some l') (hp : pc + 2 = pc')
    (K : Go p.tables e below G T (mkF m pc' l' (st))) : Go p.tables e below G T (mkF m pc Ls (v :: st)) := by
  subst hp; exact Go.step (fun _ k => XS.astore X.here C.exec rfl (C.at hd) rfl hv hl k) K
theorem g_iconst (C : Cx p l s m meth c Z x0 code maxL ret) (X : Stand p l e R s m args below meth c T locs cells slots) {pc pc' : Nat} {Ls : Array Slot} {st : List Value} {i : Int} {v : Int32} (hd : decode code pc = .ok (.iconst i, 1)) (hv : Int32.ofInt i = v) (hp : pc + 1 = pc')
    (K : Go p.tables e below G T (mkF m pc' Ls (.int v :: st))) : Go p.tables e below G T (mkF m pc Ls (st)) := by
  subst hp; subst hv; exact Go.step (fun _ k => XS.iconst X.here C.exec rfl (C.at hd)  k) K
theorem g_bipush (C : Cx p l s m meth c Z x0 code maxL ret) (X : Stand p l e R s m args below meth c T locs cells slots) {pc pc' : Nat} {Ls : Array Slot} {st : List Value} {i : Int} {v : Int32} (hd : decode code pc = .ok (.bipush i, 2)) (hv : (Int8.ofInt i).toInt32 = v) (hp : pc + 2 = pc')
    (K : Go p.tables e below G T (mkF m pc' Ls (.int v :: st))) : Go p.tables e below G T (mkF m pc Ls (st)) := by
  subst hp; subst hv; exact Go.step (fun _ k => XS.bipush X.here C.exec rfl (C.at hd)  k) K
theorem g_sipush (C : Cx p l s m meth c Z x0 code maxL ret) (X : Stand p l e R s m args below meth c T locs cells slots) {pc pc' : Nat} {Ls : Array Slot} {st : List Value} {i : Int} {v : Int32} (hd : decode code pc = .ok (.sipush i, 3)) (hv : (Int16.ofInt i).toInt32 = v) (hp : pc + 3 = pc')
    (K : Go p.tables e below G T (mkF m pc' Ls (.int v :: st))) : Go p.tables e below G T (mkF m pc Ls (st)) := by
  subst hp; subst hv; exact Go.step (fun _ k => XS.sipush X.here C.exec rfl (C.at hd)  k) K
theorem g_aconstNull (C : Cx p l s m meth c Z x0 code maxL ret) (X : Stand p l e R s m args below meth c T locs cells slots) {pc pc' : Nat} {Ls : Array Slot} {st : List Value}  (hd : decode code pc = .ok (.aconst_null, 1))  (hp : pc + 1 = pc')
    (K : Go p.tables e below G T (mkF m pc' Ls (.null :: st))) : Go p.tables e below G T (mkF m pc Ls (st)) := by
  subst hp; exact Go.step (fun _ k => XS.aconstNull X.here C.exec rfl (C.at hd)  k) K
theorem g_lconst (C : Cx p l s m meth c Z x0 code maxL ret) (X : Stand p l e R s m args below meth c T locs cells slots) {pc pc' : Nat} {Ls : Array Slot} {st : List Value} {k : Fin 2} {v : Int64} (hd : decode code pc = .ok (.lconst k, 1)) (hv : Int64.ofNat k = v) (hp : pc + 1 = pc')
    (K : Go p.tables e below G T (mkF m pc' Ls (.long v :: st))) : Go p.tables e below G T (mkF m pc Ls (st)) := by
  subst hp; subst hv; exact Go.step (fun _ k => XT.lconst X.here C.exec rfl (C.at hd)  k) K
theorem g_dconst0 (C : Cx p l s m meth c Z x0 code maxL ret) (X : Stand p l e R s m args below meth c T locs cells slots) {pc pc' : Nat} {Ls : Array Slot} {st : List Value} {v : UInt64} (hd : decode code pc = .ok (.dconst 0, 1)) (hv : FP.dconst0 = v) (hp : pc + 1 = pc')
    (K : Go p.tables e below G T (mkF m pc' Ls (.double v :: st))) : Go p.tables e below G T (mkF m pc Ls (st)) := by
  subst hp; exact Go.step (fun _ k => XS.dconst0 X.here C.exec rfl (C.at hd) hv k) K
theorem g_dconst1 (C : Cx p l s m meth c Z x0 code maxL ret) (X : Stand p l e R s m args below meth c T locs cells slots) {pc pc' : Nat} {Ls : Array Slot} {st : List Value} {v : UInt64} (hd : decode code pc = .ok (.dconst 1, 1)) (hv : FP.dconst1 = v) (hp : pc + 1 = pc')
    (K : Go p.tables e below G T (mkF m pc' Ls (.double v :: st))) : Go p.tables e below G T (mkF m pc Ls (st)) := by
  subst hp; exact Go.step (fun _ k => XS.dconst1 X.here C.exec rfl (C.at hd) hv k) K
theorem g_iadd (C : Cx p l s m meth c Z x0 code maxL ret) (X : Stand p l e R s m args below meth c T locs cells slots) {pc pc' : Nat} {Ls : Array Slot} {st : List Value} {x y : Int32} (hd : decode code pc = .ok (.iadd, 1))  (hp : pc + 1 = pc')
    (K : Go p.tables e below G T (mkF m pc' Ls (.int (x + y) :: st))) : Go p.tables e below G T (mkF m pc Ls (.int y :: .int x :: st)) := by
  subst hp; exact Go.step (fun _ k => XS.iadd X.here C.exec rfl (C.at hd) rfl k) K
theorem g_isub (C : Cx p l s m meth c Z x0 code maxL ret) (X : Stand p l e R s m args below meth c T locs cells slots) {pc pc' : Nat} {Ls : Array Slot} {st : List Value} {x y : Int32} (hd : decode code pc = .ok (.isub, 1))  (hp : pc + 1 = pc')
    (K : Go p.tables e below G T (mkF m pc' Ls (.int (x - y) :: st))) : Go p.tables e below G T (mkF m pc Ls (.int y :: .int x :: st)) := by
  subst hp; exact Go.step (fun _ k => XS.isub X.here C.exec rfl (C.at hd) rfl k) K
theorem g_iand (C : Cx p l s m meth c Z x0 code maxL ret) (X : Stand p l e R s m args below meth c T locs cells slots) {pc pc' : Nat} {Ls : Array Slot} {st : List Value} {x y : Int32} (hd : decode code pc = .ok (.iand, 1))  (hp : pc + 1 = pc')
    (K : Go p.tables e below G T (mkF m pc' Ls (.int (x &&& y) :: st))) : Go p.tables e below G T (mkF m pc Ls (.int y :: .int x :: st)) := by
  subst hp; exact Go.step (fun _ k => XS.iand X.here C.exec rfl (C.at hd) rfl k) K
theorem g_imul (C : Cx p l s m meth c Z x0 code maxL ret) (X : Stand p l e R s m args below meth c T locs cells slots) {pc pc' : Nat} {Ls : Array Slot} {st : List Value} {x y : Int32} (hd : decode code pc = .ok (.imul, 1))  (hp : pc + 1 = pc')
    (K : Go p.tables e below G T (mkF m pc' Ls (.int (x * y) :: st))) : Go p.tables e below G T (mkF m pc Ls (.int y :: .int x :: st)) := by
  subst hp; exact Go.step (fun _ k => XS.imul X.here C.exec rfl (C.at hd) rfl k) K
theorem g_idiv (C : Cx p l s m meth c Z x0 code maxL ret) (X : Stand p l e R s m args below meth c T locs cells slots) {pc pc' : Nat} {Ls : Array Slot} {st : List Value} {x y : Int32} (hd : decode code pc = .ok (.idiv, 1)) (hy : y ≠ 0) (hp : pc + 1 = pc')
    (K : Go p.tables e below G T (mkF m pc' Ls (.int (x / y) :: st))) : Go p.tables e below G T (mkF m pc Ls (.int y :: .int x :: st)) := by
  subst hp; exact Go.step (fun _ k => XS.idiv X.here C.exec rfl (C.at hd) rfl hy k) K
theorem g_ineg (C : Cx p l s m meth c Z x0 code maxL ret) (X : Stand p l e R s m args below meth c T locs cells slots) {pc pc' : Nat} {Ls : Array Slot} {st : List Value} {x : Int32} (hd : decode code pc = .ok (.ineg, 1))  (hp : pc + 1 = pc')
    (K : Go p.tables e below G T (mkF m pc' Ls (.int (-x) :: st))) : Go p.tables e below G T (mkF m pc Ls (.int x :: st)) := by
  subst hp; exact Go.step (fun _ k => XS.ineg X.here C.exec rfl (C.at hd) rfl k) K
theorem g_ixor (C : Cx p l s m meth c Z x0 code maxL ret) (X : Stand p l e R s m args below meth c T locs cells slots) {pc pc' : Nat} {Ls : Array Slot} {st : List Value} {x y : Int32} (hd : decode code pc = .ok (.ixor, 1))  (hp : pc + 1 = pc')
    (K : Go p.tables e below G T (mkF m pc' Ls (.int (x ^^^ y) :: st))) : Go p.tables e below G T (mkF m pc Ls (.int y :: .int x :: st)) := by
  subst hp; exact Go.step (fun _ k => XT.ixor X.here C.exec rfl (C.at hd) rfl k) K
theorem g_ior (C : Cx p l s m meth c Z x0 code maxL ret) (X : Stand p l e R s m args below meth c T locs cells slots) {pc pc' : Nat} {Ls : Array Slot} {st : List Value} {x y : Int32} (hd : decode code pc = .ok (.ior, 1))  (hp : pc + 1 = pc')
    (K : Go p.tables e below G T (mkF m pc' Ls (.int (x ||| y) :: st))) : Go p.tables e below G T (mkF m pc Ls (.int y :: .int x :: st)) := by
  subst hp; exact Go.step (fun _ k => XT.ior X.here C.exec rfl (C.at hd) rfl k) K
theorem g_ishl (C : Cx p l s m meth c Z x0 code maxL ret) (X : Stand p l e R s m args below meth c T locs cells slots) {pc pc' : Nat} {Ls : Array Slot} {st : List Value} {x y : Int32} (hd : decode code pc = .ok (.ishl, 1))  (hp : pc + 1 = pc')
    (K : Go p.tables e below G T (mkF m pc' Ls (.int (x <<< (y &&& 31)) :: st))) : Go p.tables e below G T (mkF m pc Ls (.int y :: .int x :: st)) := by
  subst hp; exact Go.step (fun _ k => XT.ishl X.here C.exec rfl (C.at hd) rfl k) K
theorem g_ishr (C : Cx p l s m meth c Z x0 code maxL ret) (X : Stand p l e R s m args below meth c T locs cells slots) {pc pc' : Nat} {Ls : Array Slot} {st : List Value} {x y : Int32} (hd : decode code pc = .ok (.ishr, 1))  (hp : pc + 1 = pc')
    (K : Go p.tables e below G T (mkF m pc' Ls (.int (x >>> (y &&& 31)) :: st))) : Go p.tables e below G T (mkF m pc Ls (.int y :: .int x :: st)) := by
  subst hp; exact Go.step (fun _ k => XT.ishr X.here C.exec rfl (C.at hd) rfl k) K
theorem g_iushr (C : Cx p l s m meth c Z x0 code maxL ret) (X : Stand p l e R s m args below meth c T locs cells slots) {pc pc' : Nat} {Ls : Array Slot} {st : List Value} {x y : Int32} (hd : decode code pc = .ok (.iushr, 1))  (hp : pc + 1 = pc')
    (K : Go p.tables e below G T (mkF m pc' Ls (.int (XT.ushr x y) :: st))) : Go p.tables e below G T (mkF m pc Ls (.int y :: .int x :: st)) := by
  subst hp; exact Go.step (fun _ k => XT.iushr X.here C.exec rfl (C.at hd) rfl k) K
theorem g_ladd (C : Cx p l s m meth c Z x0 code maxL ret) (X : Stand p l e R s m args below meth c T locs cells slots) {pc pc' : Nat} {Ls : Array Slot} {st : List Value} {x y : Int64} (hd : decode code pc = .ok (.ladd, 1))  (hp : pc + 1 = pc')
    (K : Go p.tables e below G T (mkF m pc' Ls (.long (x + y) :: st))) : Go p.tables e below G T (mkF m pc Ls (.long y :: .long x :: st)) := by
  subst hp; exact Go.step (fun _ k => XT.ladd X.here C.exec rfl (C.at hd) rfl k) K
theorem g_lsub (C : Cx p l s m meth c Z x0 code maxL ret) (X : Stand p l e R s m args below meth c T locs cells slots) {pc pc' : Nat} {Ls : Array Slot} {st : List Value} {x y : Int64} (hd : decode code pc = .ok (.lsub, 1))  (hp : pc + 1 = pc')
    (K : Go p.tables e below G T (mkF m pc' Ls (.long (x - y) :: st))) : Go p.tables e below G T (mkF m pc Ls (.long y :: .long x :: st)) := by
  subst hp; exact Go.step (fun _ k => XT.lsub X.here C.exec rfl (C.at hd) rfl k) K
theorem g_lmul (C : Cx p l s m meth c Z x0 code maxL ret) (X : Stand p l e R s m args below meth c T locs cells slots) {pc pc' : Nat} {Ls : Array Slot} {st : List Value} {x y : Int64} (hd : decode code pc = .ok (.lmul, 1))  (hp : pc + 1 = pc')
    (K : Go p.tables e below G T (mkF m pc' Ls (.long (x * y) :: st))) : Go p.tables e below G T (mkF m pc Ls (.long y :: .long x :: st)) := by
  subst hp; exact Go.step (fun _ k => XT.lmul X.here C.exec rfl (C.at hd) rfl k) K
theorem g_land (C : Cx p l s m meth c Z x0 code maxL ret) (X : Stand p l e R s m args below meth c T locs cells slots) {pc pc' : Nat} {Ls : Array Slot} {st : List Value} {x y : Int64} (hd : decode code pc = .ok (.land, 1))  (hp : pc + 1 = pc')
    (K : Go p.tables e below G T (mkF m pc' Ls (.long (x &&& y) :: st))) : Go p.tables e below G T (mkF m pc Ls (.long y :: .long x :: st)) := by
  subst hp; exact Go.step (fun _ k => XT.land X.here C.exec rfl (C.at hd) rfl k) K
theorem g_lor (C : Cx p l s m meth c Z x0 code maxL ret) (X : Stand p l e R s m args below meth c T locs cells slots) {pc pc' : Nat} {Ls : Array Slot} {st : List Value} {x y : Int64} (hd : decode code pc = .ok (.lor, 1))  (hp : pc + 1 = pc')
    (K : Go p.tables e below G T (mkF m pc' Ls (.long (x ||| y) :: st))) : Go p.tables e below G T (mkF m pc Ls (.long y :: .long x :: st)) := by
  subst hp; exact Go.step (fun _ k => XT.lor X.here C.exec rfl (C.at hd) rfl k) K
theorem g_lxor (C : Cx p l s m meth c Z x0 code maxL ret) (X : Stand p l e R s m args below meth c T locs cells slots) {pc pc' : Nat} {Ls : Array Slot} {st : List Value} {x y : Int64} (hd : decode code pc = .ok (.lxor, 1))  (hp : pc + 1 = pc')
    (K : Go p.tables e below G T (mkF m pc' Ls (.long (x ^^^ y) :: st))) : Go p.tables e below G T (mkF m pc Ls (.long y :: .long x :: st)) := by
  subst hp; exact Go.step (fun _ k => XT.lxor X.here C.exec rfl (C.at hd) rfl k) K
theorem g_lneg (C : Cx p l s m meth c Z x0 code maxL ret) (X : Stand p l e R s m args below meth c T locs cells slots) {pc pc' : Nat} {Ls : Array Slot} {st : List Value} {x : Int64} (hd : decode code pc = .ok (.lneg, 1))  (hp : pc + 1 = pc')
    (K : Go p.tables e below G T (mkF m pc' Ls (.long (-x) :: st))) : Go p.tables e below G T (mkF m pc Ls (.long x :: st)) := by
  subst hp; exact Go.step (fun _ k => XT.lneg X.here C.exec rfl (C.at hd) rfl k) K
theorem g_i2l (C : Cx p l s m meth c Z x0 code maxL ret) (X : Stand p l e R s m args below meth c T locs cells slots) {pc pc' : Nat} {Ls : Array Slot} {st : List Value} {x : Int32} (hd : decode code pc = .ok (.i2l, 1))  (hp : pc + 1 = pc')
    (K : Go p.tables e below G T (mkF m pc' Ls (.long x.toInt64 :: st))) : Go p.tables e below G T (mkF m pc Ls (.int x :: st)) := by
  subst hp; exact Go.step (fun _ k => XT.i2l X.here C.exec rfl (C.at hd) rfl k) K
theorem g_l2i (C : Cx p l s m meth c Z x0 code maxL ret) (X : Stand p l e R s m args below meth c T locs cells slots) {pc pc' : Nat} {Ls : Array Slot} {st : List Value} {x : Int64} (hd : decode code pc = .ok (.l2i, 1))  (hp : pc + 1 = pc')
    (K : Go p.tables e below G T (mkF m pc' Ls (.int x.toInt32 :: st))) : Go p.tables e below G T (mkF m pc Ls (.long x :: st)) := by
  subst hp; exact Go.step (fun _ k => XT.l2i X.here C.exec rfl (C.at hd) rfl k) K
theorem g_i2b (C : Cx p l s m meth c Z x0 code maxL ret) (X : Stand p l e R s m args below meth c T locs cells slots) {pc pc' : Nat} {Ls : Array Slot} {st : List Value} {x : Int32} (hd : decode code pc = .ok (.i2b, 1))  (hp : pc + 1 = pc')
    (K : Go p.tables e below G T (mkF m pc' Ls (.int x.toInt8.toInt32 :: st))) : Go p.tables e below G T (mkF m pc Ls (.int x :: st)) := by
  subst hp; exact Go.step (fun _ k => XT.i2b X.here C.exec rfl (C.at hd) rfl k) K
theorem g_i2s (C : Cx p l s m meth c Z x0 code maxL ret) (X : Stand p l e R s m args below meth c T locs cells slots) {pc pc' : Nat} {Ls : Array Slot} {st : List Value} {x : Int32} (hd : decode code pc = .ok (.i2s, 1))  (hp : pc + 1 = pc')
    (K : Go p.tables e below G T (mkF m pc' Ls (.int x.toInt16.toInt32 :: st))) : Go p.tables e below G T (mkF m pc Ls (.int x :: st)) := by
  subst hp; exact Go.step (fun _ k => XT.i2s X.here C.exec rfl (C.at hd) rfl k) K
theorem g_i2d (C : Cx p l s m meth c Z x0 code maxL ret) (X : Stand p l e R s m args below meth c T locs cells slots) {pc pc' : Nat} {Ls : Array Slot} {st : List Value} {x : Int32} (hd : decode code pc = .ok (.i2d, 1))  (hp : pc + 1 = pc')
    (K : Go p.tables e below G T (mkF m pc' Ls (.double (FP.i2d x) :: st))) : Go p.tables e below G T (mkF m pc Ls (.int x :: st)) := by
  subst hp; exact Go.step (fun _ k => XS.i2dS X.here C.exec rfl (C.at hd) rfl rfl k) K
theorem g_l2d (C : Cx p l s m meth c Z x0 code maxL ret) (X : Stand p l e R s m args below meth c T locs cells slots) {pc pc' : Nat} {Ls : Array Slot} {st : List Value} {x : Int64} (hd : decode code pc = .ok (.l2d, 1))  (hp : pc + 1 = pc')
    (K : Go p.tables e below G T (mkF m pc' Ls (.double (FP.l2d x) :: st))) : Go p.tables e below G T (mkF m pc Ls (.long x :: st)) := by
  subst hp; exact Go.step (fun _ k => XS.l2dS X.here C.exec rfl (C.at hd) rfl rfl k) K
theorem g_dneg (C : Cx p l s m meth c Z x0 code maxL ret) (X : Stand p l e R s m args below meth c T locs cells slots) {pc pc' : Nat} {Ls : Array Slot} {st : List Value} {x : UInt64} (hd : decode code pc = .ok (.dneg, 1))  (hp : pc + 1 = pc')
    (K : Go p.tables e below G T (mkF m pc' Ls (.double (FP.dneg x) :: st))) : Go p.tables e below G T (mkF m pc Ls (.double x :: st)) := by
  subst hp; exact Go.step (fun _ k => XS.dnegS X.here C.exec rfl (C.at hd) rfl rfl k) K
theorem g_dcmp (C : Cx p l s m meth c Z x0 code maxL ret) (X : Stand p l e R s m args below meth c T locs cells slots) {pc pc' : Nat} {Ls : Array Slot} {st : List Value} {o : CmpOp} {x y : UInt64} (hd : decode code pc = .ok (.dcmp o, 1))  (hp : pc + 1 = pc')
    (K : Go p.tables e below G T (mkF m pc' Ls (.int (cmpValue (FP.dcmp x y) o) :: st))) : Go p.tables e below G T (mkF m pc Ls (.double y :: .double x :: st)) := by
  subst hp; exact Go.step (fun _ k => XS.dcmpS X.here C.exec rfl (C.at hd) rfl rfl k) K
theorem g_dcmpV (C : Cx p l s m meth c Z x0 code maxL ret) (X : Stand p l e R s m args below meth c T locs cells slots) {pc pc' : Nat} {Ls : Array Slot} {st : List Value} {o : CmpOp} {x y : UInt64} {v : Int32} (hd : decode code pc = .ok (.dcmp o, 1)) (hv : cmpValue (FP.dcmp x y) o = v) (hp : pc + 1 = pc')
    (K : Go p.tables e below G T (mkF m pc' Ls (.int v :: st))) : Go p.tables e below G T (mkF m pc Ls (.double y :: .double x :: st)) := by
  subst hp; exact Go.step (fun _ k => XS.dcmpS X.here C.exec rfl (C.at hd) rfl hv k) K
theorem g_dadd (C : Cx p l s m meth c Z x0 code maxL ret) (X : Stand p l e R s m args below meth c T locs cells slots) {pc pc' : Nat} {Ls : Array Slot} {st : List Value} {x y : UInt64} (hd : decode code pc = .ok (.dadd, 1)) (hn : Jvm.Free.Fl.NoNaN64 (FP.dadd x y)) (hp : pc + 1 = pc')
    (K : Go p.tables e below G T (mkF m pc' Ls (.double (FP.dadd x y) :: st))) : Go p.tables e below G T (mkF m pc Ls (.double y :: .double x :: st)) := by
  subst hp; exact Go.step (fun _ k => XS.daddS X.here C.exec rfl (C.at hd) rfl hn rfl k) K
theorem g_dsub (C : Cx p l s m meth c Z x0 code maxL ret) (X : Stand p l e R s m args below meth c T locs cells slots) {pc pc' : Nat} {Ls : Array Slot} {st : List Value} {x y : UInt64} (hd : decode code pc = .ok (.dsub, 1)) (hn : Jvm.Free.Fl.NoNaN64 (FP.dsub x y)) (hp : pc + 1 = pc')
    (K : Go p.tables e below G T (mkF m pc' Ls (.double (FP.dsub x y) :: st))) : Go p.tables e below G T (mkF m pc Ls (.double y :: .double x :: st)) := by
  subst hp; exact Go.step (fun _ k => XS.dsubS X.here C.exec rfl (C.at hd) rfl hn rfl k) K
theorem g_dmul (C : Cx p l s m meth c Z x0 code maxL ret) (X : Stand p l e R s m args below meth c T locs cells slots) {pc pc' : Nat} {Ls : Array Slot} {st : List Value} {x y : UInt64} (hd : decode code pc = .ok (.dmul, 1)) (hn : Jvm.Free.Fl.NoNaN64 (FP.dmul x y)) (hp : pc + 1 = pc')
    (K : Go p.tables e below G T (mkF m pc' Ls (.double (FP.dmul x y) :: st))) : Go p.tables e below G T (mkF m pc Ls (.double y :: .double x :: st)) := by
  subst hp; exact Go.step (fun _ k => XS.dmulS X.here C.exec rfl (C.at hd) rfl hn rfl k) K
theorem g_ddiv (C : Cx p l s m meth c Z x0 code maxL ret) (X : Stand p l e R s m args below meth c T locs cells slots) {pc pc' : Nat} {Ls : Array Slot} {st : List Value} {x y : UInt64} (hd : decode code pc = .ok (.ddiv, 1)) (hn : Jvm.Free.Fl.NoNaN64 (FP.ddiv x y)) (hp : pc + 1 = pc')
    (K : Go p.tables e below G T (mkF m pc' Ls (.double (FP.ddiv x y) :: st))) : Go p.tables e below G T (mkF m pc Ls (.double y :: .double x :: st)) := by
  subst hp; exact Go.step (fun _ k => XS.ddivS X.here C.exec rfl (C.at hd) rfl hn rfl k) K
theorem g_lcmp (C : Cx p l s m meth c Z x0 code maxL ret) (X : Stand p l e R s m args below meth c T locs cells slots) {pc pc' : Nat} {Ls : Array Slot} {st : List Value} {x y : Int64} (hd : decode code pc = .ok (.lcmp, 1))  (hp : pc + 1 = pc')
    (K : Go p.tables e below G T (mkF m pc' Ls (.int (XT.cmpL x y) :: st))) : Go p.tables e below G T (mkF m pc Ls (.long y :: .long x :: st)) := by
  subst hp; exact Go.step (fun _ k => XT.lcmp X.here C.exec rfl (C.at hd) rfl k) K
theorem g_pop (C : Cx p l s m meth c Z x0 code maxL ret) (X : Stand p l e R s m args below meth c T locs cells slots) {pc pc' : Nat} {Ls : Array Slot} {st : List Value} {x : Value} (hd : decode code pc = .ok (.pop, 1)) (hc : x.category = 1) (hp : pc + 1 = pc')
    (K : Go p.tables e below G T (mkF m pc' Ls (st))) : Go p.tables e below G T (mkF m pc Ls (x :: st)) := by
  subst hp; exact Go.step (fun _ k => XT.pop X.here C.exec rfl (C.at hd) rfl hc k) K
theorem g_dup (C : Cx p l s m meth c Z x0 code maxL ret) (X : Stand p l e R s m args below meth c T locs cells slots) {pc pc' : Nat} {Ls : Array Slot} {st : List Value} {x : Value} (hd : decode code pc = .ok (.dup, 1)) (hc : x.category = 1) (hp : pc + 1 = pc')
    (K : Go p.tables e below G T (mkF m pc' Ls (x :: x :: st))) : Go p.tables e below G T (mkF m pc Ls (x :: st)) := by
  subst hp; exact Go.step (fun _ k => XS.dup X.here C.exec rfl (C.at hd) rfl hc k) K
theorem g_dupX1 (C : Cx p l s m meth c Z x0 code maxL ret) (X : Stand p l e R s m args below meth c T locs cells slots) {pc pc' : Nat} {Ls : Array Slot} {st : List Value} {x y : Value} (hd : decode code pc = .ok (.dup_x1, 1)) (hc : x.category = 1) (hc' : y.category = 1) (hp : pc + 1 = pc')
    (K : Go p.tables e below G T (mkF m pc' Ls (x :: y :: x :: st))) : Go p.tables e below G T (mkF m pc Ls (x :: y :: st)) := by
  subst hp; exact Go.step (fun _ k => XT.dupX1 X.here C.exec rfl (C.at hd) rfl hc hc' k) K
theorem g_dup2 (C : Cx p l s m meth c Z x0 code maxL ret) (X : Stand p l e R s m args below meth c T locs cells slots) {pc pc' : Nat} {Ls : Array Slot} {st : List Value} {x y : Value} (hd : decode code pc = .ok (.dup2, 1)) (hc : x.category = 1) (hc' : y.category = 1) (hp : pc + 1 = pc')
    (K : Go p.tables e below G T (mkF m pc' Ls (x :: y :: x :: y :: st))) : Go p.tables e below G T (mkF m pc Ls (x :: y :: st)) := by
  subst hp; exact Go.step (fun _ k => XT.dup2 X.here C.exec rfl (C.at hd) rfl hc hc' k) K
theorem g_iinc (C : Cx p l s m meth c Z x0 code maxL ret) (X : Stand p l e R s m args below meth c T locs cells slots) {pc pc' : Nat} {Ls : Array Slot} {st : List Value} {k : Nat} {cst : Int} {x z : Int32} {l' : Array Slot} (hd : decode code pc = .ok (.iinc k cst, 3)) (hl : Ls[k]? = some (.val (.int x))) (hz : z = x + Int32.ofInt cst) (hl' : storeLocals Ls k (.int z) = some l') (hp : pc + 3 = pc')
    (K : Go p.tables e below G T (mkF m pc' l' (st))) : Go p.tables e below G T (mkF m pc Ls (st)) := by
  subst hp; subst hz; exact Go.step (fun _ k => XS.iinc X.here C.exec rfl (C.at hd) hl hl' k) K
theorem g_irem (C : Cx p l s m meth c Z x0 code maxL ret) (X : Stand p l e R s m args below meth c T locs cells slots) {pc pc' : Nat} {Ls : Array Slot} {st : List Value} {x y : Int32} (hd : decode code pc = .ok (.irem, 1)) (hy : y ≠ 0) (hp : pc + 1 = pc')
    (K : Go p.tables e below G T (mkF m pc' Ls (.int (x % y) :: st))) : Go p.tables e below G T (mkF m pc Ls (.int y :: .int x :: st)) := by
  subst hp; exact Go.step (fun _ k => iremM X C.exec rfl (C.at hd) rfl hy k) K
theorem g_lushr (C : Cx p l s m meth c Z x0 code maxL ret) (X : Stand p l e R s m args below meth c T locs cells slots) {pc pc' : Nat} {Ls : Array Slot} {st : List Value} {x : Int64} {y : Int32} (hd : decode code pc = .ok (.lushr, 1)) (hp : pc + 1 = pc')
    (K : Go p.tables e below G T (mkF m pc' Ls (.long (XT.ushrL x y) :: st))) : Go p.tables e below G T (mkF m pc Ls (.int y :: .long x :: st)) := by
  subst hp; exact Go.step (fun _ k => XT.lushr X.here C.exec rfl (C.at hd) rfl k) K
/-- what a branch asks, of whole numbers -/
abbrev cpI : ClassFile.Cond → Int → Int → Prop
  | .eq, x, y => x = y
  | .ne, x, y => ¬ x = y
  | .lt, x, y => x < y
  | .ge, x, y => ¬ x < y
  | .gt, x, y => y < x
  | .le, x, y => ¬ y < x
theorem holds_icmp (cd : ClassFile.Cond) (x y : Int32) : if_icmp.holds cd x y = true ↔ cpI cd x.toInt y.toInt := by
  cases cd <;> simp only [if_icmp.holds, cpI, decide_eq_true_eq, beq_iff_eq, bne_iff_ne, ne_eq, Int32.lt_iff_toInt_lt, Int32.le_iff_toInt_le, Int32.toInt_inj, Int.not_lt, ge_iff_le, gt_iff_lt]
theorem holds_if (cd : ClassFile.Cond) (x : Int32) : ifCond.holds cd x = true ↔ cpI cd x.toInt 0 := by
  rw [if0]; exact holds_icmp cd x 0
theorem g_goto (C : Cx p l s m meth c Z x0 code maxL ret) (X : Stand p l e R s m args below meth c T locs cells slots) {pc pc' : Nat} {Ls : Array Slot} {st : List Value} {o : Int} (hd : decode code pc = .ok (.goto o, 3)) (ho : 0 ≤ (pc : Int) + o) (hp : ((pc : Int) + o).toNat = pc')
    (K : Go p.tables e below G T (mkF m pc' Ls st)) : Go p.tables e below G T (mkF m pc Ls st) :=
  Go.step (fun _ k => XS.goto X.here C.exec rfl rfl (C.at hd) ho hp k) K
theorem g_if (C : Cx p l s m meth c Z x0 code maxL ret) (X : Stand p l e R s m args below meth c T locs cells slots) {pc pc' pc'' : Nat} {Ls : Array Slot} {st : List Value} {cd : ClassFile.Cond} {x : Int32} {o : Int} (hd : decode code pc = .ok (.ifCond cd o, 3)) (ho : 0 ≤ (pc : Int) + o) (hp : ((pc : Int) + o).toNat = pc') (hp3 : pc + 3 = pc'')
    (K1 : cpI cd x.toInt 0 → Go p.tables e below G T (mkF m pc' Ls st)) (K2 : ¬ cpI cd x.toInt 0 → Go p.tables e below G T (mkF m pc'' Ls st)) : Go p.tables e below G T (mkF m pc Ls (.int x :: st)) := by
  subst hp3
  cases hc : ifCond.holds cd x with
  | true => exact Go.step (fun _ k => XS.ifYes X.here C.exec rfl rfl (C.at hd) rfl hc ho hp k) (K1 ((holds_if cd x).mp hc))
  | false => exact Go.step (fun _ k => XS.ifNo X.here C.exec rfl (C.at hd) rfl hc k) (K2 fun q => by rw [(holds_if cd x).mpr q] at hc; cases hc)
theorem g_icmp (C : Cx p l s m meth c Z x0 code maxL ret) (X : Stand p l e R s m args below meth c T locs cells slots) {pc pc' pc'' : Nat} {Ls : Array Slot} {st : List Value} {cd : ClassFile.Cond} {x y : Int32} {o : Int} (hd : decode code pc = .ok (.if_icmp cd o, 3)) (ho : 0 ≤ (pc : Int) + o) (hp : ((pc : Int) + o).toNat = pc') (hp3 : pc + 3 = pc'')
    (K1 : cpI cd x.toInt y.toInt → Go p.tables e below G T (mkF m pc' Ls st)) (K2 : ¬ cpI cd x.toInt y.toInt → Go p.tables e below G T (mkF m pc'' Ls st)) : Go p.tables e below G T (mkF m pc Ls (.int y :: .int x :: st)) := by
  subst hp3
  cases hc : if_icmp.holds cd x y with
  | true => exact Go.step (fun _ k => XS.icmpYes X.here C.exec rfl rfl (C.at hd) rfl hc ho hp k) (K1 ((holds_icmp cd x y).mp hc))
  | false => exact Go.step (fun _ k => XS.icmpNo X.here C.exec rfl (C.at hd) rfl hc k) (K2 fun q => by rw [(holds_icmp cd x y).mpr q] at hc; cases hc)
theorem g_ifY (C : Cx p l s m meth c Z x0 code maxL ret) (X : Stand p l e R s m args below meth c T locs cells slots) {pc pc' : Nat} {Ls : Array Slot} {st : List Value} {cd : ClassFile.Cond} {x : Int32} {o : Int} (hd : decode code pc = .ok (.ifCond cd o, 3)) (ho : 0 ≤ (pc : Int) + o) (hp : ((pc : Int) + o).toNat = pc') (hc : cpI cd x.toInt 0)
    (K1 : Go p.tables e below G T (mkF m pc' Ls st)) : Go p.tables e below G T (mkF m pc Ls (.int x :: st)) :=
  Go.step (fun _ k => XS.ifYes X.here C.exec rfl rfl (C.at hd) rfl ((holds_if cd x).mpr hc) ho hp k) K1
theorem g_ifN (C : Cx p l s m meth c Z x0 code maxL ret) (X : Stand p l e R s m args below meth c T locs cells slots) {pc pc' : Nat} {Ls : Array Slot} {st : List Value} {cd : ClassFile.Cond} {x : Int32} {o : Int} (hd : decode code pc = .ok (.ifCond cd o, 3)) (hc : ¬ cpI cd x.toInt 0) (hp : pc + 3 = pc')
    (K1 : Go p.tables e below G T (mkF m pc' Ls st)) : Go p.tables e below G T (mkF m pc Ls (.int x :: st)) := by
  subst hp
  exact Go.step (fun _ k => XS.ifNo X.here C.exec rfl (C.at hd) rfl (Bool.eq_false_iff.mpr fun q => hc ((holds_if cd x).mp q)) k) K1
theorem g_icmpY (C : Cx p l s m meth c Z x0 code maxL ret) (X : Stand p l e R s m args below meth c T locs cells slots) {pc pc' : Nat} {Ls : Array Slot} {st : List Value} {cd : ClassFile.Cond} {x y : Int32} {o : Int} (hd : decode code pc = .ok (.if_icmp cd o, 3)) (ho : 0 ≤ (pc : Int) + o) (hp : ((pc : Int) + o).toNat = pc') (hc : cpI cd x.toInt y.toInt)
    (K1 : Go p.tables e below G T (mkF m pc' Ls st)) : Go p.tables e below G T (mkF m pc Ls (.int y :: .int x :: st)) :=
  Go.step (fun _ k => XS.icmpYes X.here C.exec rfl rfl (C.at hd) rfl ((holds_icmp cd x y).mpr hc) ho hp k) K1
theorem g_icmpN (C : Cx p l s m meth c Z x0 code maxL ret) (X : Stand p l e R s m args below meth c T locs cells slots) {pc pc' : Nat} {Ls : Array Slot} {st : List Value} {cd : ClassFile.Cond} {x y : Int32} {o : Int} (hd : decode code pc = .ok (.if_icmp cd o, 3)) (hc : ¬ cpI cd x.toInt y.toInt) (hp : pc + 3 = pc')
    (K1 : Go p.tables e below G T (mkF m pc' Ls st)) : Go p.tables e below G T (mkF m pc Ls (.int y :: .int x :: st)) := by
  subst hp
  exact Go.step (fun _ k => XS.icmpNo X.here C.exec rfl (C.at hd) rfl (Bool.eq_false_iff.mpr fun q => hc ((holds_icmp cd x y).mp q)) k) K1
/-! leaving the body -/
theorem g_out {k n : Nat} {Q : Option Value → Heap → List Loc → Prop} (C : Cx p l s m meth c Z x0 code maxL ret) (X : Stand p l e R s m args below meth c T locs cells slots) {v : Option Value} {g : JFrame} (hv : ret = none → v = none)
    (st : ∀ fs, (∀ (f : JFrame) (acts : List Action), f.method = m → f.locked = none → f.entered = [] → (doReturn e (T.setTop f) acts v).1 = T.setFrames fs) → Steps p.tables e below (T.setTop g) (T.setFrames fs))
    (hQ : Q v T.heap locs) (hk : cells ≤ k) (hn : slots ≤ n) : Go p.tables e below (End s Q k n) T g := by
  obtain ⟨fs, hr, hrun, hended, hW, hsame⟩ := X.leave (v := v) (fun q => hv (C.rets ▸ q)) C.unlocked
  exact ⟨_, _, st fs hr, hrun, hended, v, locs, rfl, hQ, ⟨_, rfl⟩, hW, hsame.mono hk hn⟩
theorem g_ireturn {k n : Nat} {Q : Option Value → Heap → List Loc → Prop} (C : Cx p l s m meth c Z x0 code maxL (some .int)) (X : Stand p l e R s m args below meth c T locs cells slots) {pc : Nat} {Ls : Array Slot} {st : List Value} {z : Int32} (hd : decode code pc = .ok (.ireturn, 1))
    (hQ : Q (some (.int z)) T.heap locs) (hk : cells ≤ k) (hn : slots ≤ n) : Go p.tables e below (End s Q k n) T (mkF m pc Ls (.int z :: st)) :=
  g_out C X (v := some (.int z)) (fun q => by cases q) (fun fs hr => retOut X C.exec C.rets rfl (Or.inl ⟨rfl, Or.inl rfl, _, rfl⟩) (C.at hd) hr) hQ hk hn
theorem g_zreturn {k n : Nat} {Q : Option Value → Heap → List Loc → Prop} (C : Cx p l s m meth c Z x0 code maxL (some .boolean)) (X : Stand p l e R s m args below meth c T locs cells slots) {pc : Nat} {Ls : Array Slot} {st : List Value} {z w : Int32} (hd : decode code pc = .ok (.ireturn, 1)) (hw : nar .boolean z = w)
    (hQ : Q (some (.int w)) T.heap locs) (hk : cells ≤ k) (hn : slots ≤ n) : Go p.tables e below (End s Q k n) T (mkF m pc Ls (.int z :: st)) :=
  g_out C X (v := some (.int w)) (fun q => by cases q) (fun fs hr => retN X C.exec (t := .boolean) C.rets (by simp) (C.at hd) (hw ▸ hr)) hQ hk hn
theorem g_lreturn {k n : Nat} {Q : Option Value → Heap → List Loc → Prop} (C : Cx p l s m meth c Z x0 code maxL (some .long)) (X : Stand p l e R s m args below meth c T locs cells slots) {pc : Nat} {Ls : Array Slot} {st : List Value} {z : Int64} (hd : decode code pc = .ok (.lreturn, 1))
    (hQ : Q (some (.long z)) T.heap locs) (hk : cells ≤ k) (hn : slots ≤ n) : Go p.tables e below (End s Q k n) T (mkF m pc Ls (.long z :: st)) :=
  g_out C X (v := some (.long z)) (fun q => by cases q) (fun fs hr => retOut X C.exec C.rets rfl (Or.inr (Or.inl ⟨rfl, rfl, _, rfl⟩)) (C.at hd) hr) hQ hk hn
theorem g_dreturn {k n : Nat} {Q : Option Value → Heap → List Loc → Prop} (C : Cx p l s m meth c Z x0 code maxL (some .double)) (X : Stand p l e R s m args below meth c T locs cells slots) {pc : Nat} {Ls : Array Slot} {st : List Value} {z : UInt64} (hd : decode code pc = .ok (.dreturn, 1))
    (hQ : Q (some (.double z)) T.heap locs) (hk : cells ≤ k) (hn : slots ≤ n) : Go p.tables e below (End s Q k n) T (mkF m pc Ls (.double z :: st)) :=
  g_out C X (v := some (.double z)) (fun q => by cases q) (fun fs hr => retOut X C.exec C.rets rfl (Or.inr (Or.inr (Or.inl ⟨rfl, rfl, _, rfl⟩))) (C.at hd) hr) hQ hk hn
theorem g_areturn {k n : Nat} {Q : Option Value → Heap → List Loc → Prop} {t : FieldType} (C : Cx p l s m meth c Z x0 code maxL (some t)) (X : Stand p l e R s m args below meth c T locs cells slots) {pc : Nat} {Ls : Array Slot} {st : List Value} {w : Value} (hd : decode code pc = .ok (.areturn, 1)) (ht : t.isReference = true) (hw : w.isRef = true) (hna : narrow t w = w)
    (hQ : Q (some w) T.heap locs) (hk : cells ≤ k) (hn : slots ≤ n) : Go p.tables e below (End s Q k n) T (mkF m pc Ls (w :: st)) :=
  g_out C X (v := some w) (fun q => by cases q) (fun fs hr => retOut X C.exec C.rets hna (Or.inr (Or.inr (Or.inr (Or.inr ⟨rfl, ht, hw⟩)))) (C.at hd) hr) hQ hk hn
theorem g_return {k n : Nat} {Q : Option Value → Heap → List Loc → Prop} (C : Cx p l s m meth c Z x0 code maxL none) (X : Stand p l e R s m args below meth c T locs cells slots) {pc : Nat} {Ls : Array Slot} (hd : decode code pc = .ok (.return_, 1))
    (hQ : Q none T.heap locs) (hk : cells ≤ k) (hn : slots ≤ n) : Go p.tables e below (End s Q k n) T (mkF m pc Ls []) :=
  g_out C X (v := none) (fun _ => rfl) (fun fs hr => X.returnOut C.exec C.rets (C.at hd) hr) hQ hk hn
/-! calls -/
theorem g_callS (C : Cx p l s m meth c Z x0 code maxL ret) (X : Stand p l e R s m args below meth c T locs cells slots) {index : Nat} {y : MethodName} {bytes : ByteArray} {mL : Nat} {rt : Option FieldType} {rm : Room} {as : Array Value} {Q : Option Value → Heap → List Loc → Prop} (K0 : Con l Z y bytes mL rt rm as h Q)
    (w1 : (Cond.methodLink x0.cls index y).before a0 Z = true) (w2 : (Cond.static y).before a0 Z = true) (w3 : (Cond.initialized y.cls).before a0 Z = true) (w4 : (Cond.code y bytes mL rt).before a0 Z = true)
    (hy : y.cls ≠ "java/lang/invoke/MethodHandle" ∧ y.cls ≠ "java/lang/invoke/VarHandle") (eT : T.heap = h) {pc pc' : Nat} {Ls : Array Slot} {st : List Value} (hd : decode code pc = .ok (.invokestatic index, 3)) (hsz : Ls.size = maxL)
    {ps : List FieldType} {r : Option FieldType} (hpd : parseMethodDescriptor y.desc = some ⟨ps, r⟩) (argsL rest : List Value) (hlen : argsL.length = ps.length) (has : argsL.toArray = as) (hst : st = argsL.reverse ++ rest) (W : Nat) (hW : (rest.map fun v => v.category).sum = W)
    (hfr : rm.frames + 1 ≤ R.frames) (hlo : W + (mL + 11) + rm.locals ≤ R.locals) (hce : cells + rm.cells ≤ R.cells) (hsl : slots + rm.slots ≤ R.slots) (hp : pc + 3 = pc')
    (K : ∀ v T' L, Stand p l e R s m args below meth c T' (locs ++ L) (cells + rm.cells) (slots + rm.slots) → Q v T'.heap L → Go p.tables e below G T' (mkF m pc' Ls (v.toList ++ rest))) : Go p.tables e below G T (mkF m pc Ls st) := by
  subst hp has
  obtain ⟨v, _, ⟨T1, L1, k1, n1⟩, -, X1, ⟨Lc, hQ, q1, q2, q3⟩, st1⟩ := Jvm.LawKit.callS X C.exec (y := y) C.own (mvT C.warm w1) (mvT C.warm w2) (mvT C.warm w3) (mvT C.warm w4) hy (backOf (W := W) (K0 []) C.warm w4 w3 hfr hlo)
    (g := mkF m pc Ls st) rfl (by rw [C.maxl]; exact hsz) (argsL := argsL) (rest := rest) (lenOf hpd hlen) hst (by show 2 * 0 + _ ≤ _; rw [hW]; omega) (C.at hd) (fun _ _ => ⟨rfl, eT, hce, hsl⟩)
  dsimp only [Pt.U, Pt.locs, Pt.cells, Pt.slots] at X1 q1 q2 q3 st1 hQ
  subst q1 q2 q3
  exact Go.step st1 (K v T1 Lc X1 hQ)
theorem go_trans {tb : Tables} {T1 : State} {g g1 : JFrame} (st : Steps tb e below (T.setTop g) (T1.setTop g1)) (k : Go tb e below G T1 g1) : Go tb e below G T g := by
  obtain ⟨s2, o, h1, h2⟩ := k
  exact ⟨s2, o, st.trans h1, h2⟩
theorem g_callI (C : Cx p l s m meth c Z x0 code maxL ret) (X : Stand p l e R s m args below meth c T locs cells slots) {index : Nat} {y : MethodName} {bytes : ByteArray} {mL : Nat} {rm : Room} {as : Array Value} {Q : Option Value → Heap → List Loc → Prop} (K0 : Con l Z y bytes mL none rm as h Q) (hy1 : y.name = "<init>")
    (w1 : (Cond.methodLink x0.cls index y).before a0 Z = true) (w2 : (Cond.instanceMethod y).before a0 Z = true) (w3 : (Cond.initialized y.cls).before a0 Z = true) (w4 : (Cond.code y bytes mL none).before a0 Z = true)
    (hy : y.cls ≠ "java/lang/invoke/MethodHandle" ∧ y.cls ≠ "java/lang/invoke/VarHandle") (eT : T.heap = h) {pc pc' : Nat} {Ls : Array Slot} {st : List Value} (hd : decode code pc = .ok (.invokespecial index, 3)) (hsz : Ls.size = maxL)
    {ps : List FieldType} {r : Option FieldType} (hpd : parseMethodDescriptor y.desc = some ⟨ps, r⟩) (a : Addr) (argsL rest : List Value) (hlen : argsL.length = ps.length) (has : (.ref a :: argsL).toArray = as) (hst : st = argsL.reverse ++ .ref a :: rest) (W : Nat) (hW : (rest.map fun v => v.category).sum = W)
    (hfr : rm.frames + 1 ≤ R.frames) (hlo : W + (mL + 11) + rm.locals ≤ R.locals) (hce : cells + rm.cells ≤ R.cells) (hsl : slots + rm.slots ≤ R.slots) (hp : pc + 3 = pc')
    (K : ∀ v T' L, Stand p l e R s m args below meth c T' (locs ++ L) (cells + rm.cells) (slots + rm.slots) → Q v T'.heap L → Go p.tables e below G T' (mkF m pc' Ls (v.toList ++ rest))) : Go p.tables e below G T (mkF m pc Ls st) := by
  subst hp has
  obtain ⟨v, _, ⟨T1, L1, k1, n1⟩, -, X1, ⟨Lc, hQ, q1, q2, q3⟩, st1⟩ := X.specialBack C.exec (y := y) hy1 C.own (mvT C.warm w1) (mvT C.warm w2) (mvT C.warm w4) hy (backOf (W := W) (K0 []) C.warm w4 w3 hfr hlo)
    (g := mkF m pc Ls st) rfl (by rw [C.maxl]; exact hsz) (Steps.refl _) (a := a) (argsL := argsL) (rest := rest) (lenOf hpd hlen) hst (by show 2 * 0 + _ ≤ _; rw [hW]; omega) (C.at hd) (fun _ _ => ⟨rfl, eT, hce, hsl⟩)
  dsimp only [Pt.U, Pt.locs, Pt.cells, Pt.slots] at X1 q1 q2 q3 st1 hQ
  subst q1 q2 q3
  exact go_trans st1 (K v T1 Lc X1 hQ)
theorem g_callV (C : Cx p l s m meth c Z x0 code maxL ret) (X : Stand p l e R s m args below meth c T locs cells slots) {index : Nat} {y : MethodName} {cls : String} {bytes : ByteArray} {mL : Nat} {rt : Option FieldType} {rm : Room} {as : Array Value} {Q : Option Value → Heap → List Loc → Prop} (K0 : Con l Z y bytes mL rt rm as h Q)
    (w1 : (Cond.methodLink x0.cls index y).before a0 Z = true) (w2 : (Cond.declares y).before a0 Z = true) (w5 : (Cond.selects cls y y).before a0 Z = true) (w6 : (Cond.instanceMethod y).before a0 Z = true) (w3 : (Cond.initialized y.cls).before a0 Z = true) (w4 : (Cond.code y bytes mL rt).before a0 Z = true)
    (hy : y.cls ≠ "java/lang/invoke/MethodHandle" ∧ y.cls ≠ "java/lang/invoke/VarHandle") (eT : T.heap = h) {a : Addr} (E : Exa Z h a cls) {pc pc' : Nat} {Ls : Array Slot} {st : List Value} (hd : decode code pc = .ok (.invokevirtual index, 3)) (hsz : Ls.size = maxL)
    {ps : List FieldType} {r : Option FieldType} (hpd : parseMethodDescriptor y.desc = some ⟨ps, r⟩) (argsL rest : List Value) (hlen : argsL.length = ps.length) (has : (.ref a :: argsL).toArray = as) (hst : st = argsL.reverse ++ .ref a :: rest) (W : Nat) (hW : (rest.map fun v => v.category).sum = W)
    (hfr : rm.frames + 1 ≤ R.frames) (hlo : W + (mL + 11) + rm.locals ≤ R.locals) (hce : cells + rm.cells ≤ R.cells) (hsl : slots + rm.slots ≤ R.slots) (hp : pc + 3 = pc')
    (K : ∀ v T' L, Stand p l e R s m args below meth c T' (locs ++ L) (cells + rm.cells) (slots + rm.slots) → Q v T'.heap L → Go p.tables e below G T' (mkF m pc' Ls (v.toList ++ rest))) : Go p.tables e below G T (mkF m pc Ls st) := by
  subst hp has
  obtain ⟨cq, kq, qa, qb, qc⟩ := isOf C.warm eT E
  obtain ⟨v, _, ⟨T1, L1, k1, n1⟩, -, X1, ⟨Lc, hQ, q1, q2, q3⟩, st1⟩ := X.virtualBack C.exec (y := y) (z := y) C.own (mvT C.warm w1) (mvT C.warm w2) (notFace_of_selects (args := #[]) (mvT C.warm w5)) (mvT C.warm w5) (mvT C.warm w6) hy (backOf (W := W) (K0 []) C.warm w4 w3 hfr hlo) qa qc
    (g := mkF m pc Ls st) rfl (by rw [C.maxl]; exact hsz) (Steps.refl _) (argsL := argsL) (rest := rest) (lenOf hpd hlen) hst (by show 2 * 0 + _ ≤ _; rw [hW]; omega) (C.at hd) (fun _ _ => ⟨rfl, eT, hce, hsl⟩)
  dsimp only [Pt.U, Pt.locs, Pt.cells, Pt.slots] at X1 q1 q2 q3 st1 hQ
  subst q1 q2 q3
  exact go_trans st1 (K v T1 Lc X1 hQ)
theorem g_initO (C : Cx p l s m meth c Z x0 code maxL ret) (X : Stand p l e R s m args below meth c T locs cells slots) {index : Nat} (w1 : (Cond.methodLink x0.cls index Lib.objectInit).before a0 Z = true) (w2 : (Cond.instanceMethod Lib.objectInit).before a0 Z = true) (w3 : (Cond.code Lib.objectInit ⟨#[0xb1]⟩ 1 none).before a0 Z = true) (eT : T.heap = h)
    {pc pc' : Nat} {Ls : Array Slot} {a : Addr} {rest : List Value} (hd : decode code pc = .ok (.invokespecial index, 3)) (hsz : Ls.size = maxL) (W : Nat) (hW : (rest.map fun v => v.category).sum = W) (hfr : 1 ≤ R.frames) (hlo : W + 12 ≤ R.locals) (hp : pc + 3 = pc')
    (K : ∀ T', Stand p l e R s m args below meth c T' locs cells slots → T'.heap = h → Go p.tables e below G T' (mkF m pc' Ls rest)) : Go p.tables e below G T (mkF m pc Ls (.ref a :: rest)) := by
  subst hp
  obtain ⟨T1, X1, e1, st1⟩ := initO X C.exec C.warm C.own w1 w2 w3 eT (g := mkF m pc Ls (.ref a :: rest)) rfl (by rw [C.maxl]; exact hsz) rfl (C.at hd) hfr (W := W) (by show 2 * 0 + _ ≤ _; rw [hW]; omega) hlo
  exact Go.step st1 (K T1 X1 e1)
/-! the heap -/
theorem g_new (C : Cx p l s m meth c Z x0 code maxL ret) (X : Stand p l e R s m args below meth c T locs cells slots) {cls : String} {index n : Nat} (w : (Cond.classLink x0.cls index cls).before a0 Z = true) (wi : (Cond.instantiable cls n).before a0 Z = true) (wz : (Cond.initialized cls).before a0 Z = true) (eT : T.heap = h)
    {pc pc' : Nat} {Ls : Array Slot} {st : List Value} (hd : decode code pc = .ok (.new index, 3)) (hc : cells + 1 ≤ R.cells) (hl : slots + n ≤ R.slots) (hp : pc + 3 = pc')
    (K : ∀ T' h' a, a = h.size → Stand p l e R s m args below meth c T' locs (cells + 1) (slots + n) → T'.heap = h' → Ext h h' → Exa Z h' a cls → (∀ {O nm d : String} {ty : FieldType}, Laid Z a0 cls O nm d → parseFieldDescriptor d = some ty → Fld Z h' a O nm d (defaultValue ty)) → Go p.tables e below G T' (mkF m pc' Ls (.ref a :: st))) :
    Go p.tables e below G T (mkF m pc Ls st) := by
  subst hp
  obtain ⟨T1, h1, X1, e1, E1, A1, D1, -, st1⟩ := newO X C.exec C.warm C.own w wi wz eT (g := mkF m pc Ls st) rfl (C.at hd) hc hl
  exact Go.step st1 (K T1 h1 h.size rfl X1 e1 E1 A1 D1)
theorem g_newP (C : Cx p l s m meth c Z x0 code maxL ret) (X : Stand p l e R s m args below meth c T locs cells slots) {aty : ArrayType} (w : (Cond.arrayClass (newarray.typeOf aty)).before a0 Z = true) (eT : T.heap = h)
    {pc pc' : Nat} {Ls : Array Slot} {st : List Value} {z : Int32} (hd : decode code pc = .ok (.newarray aty, 2)) (hz : ¬ z < 0) (cap : Nat) (hcap : z.toNatClampNeg ≤ cap) (hb : cap * 8 ≤ 536870912) (hc : cells + 1 ≤ R.cells) (hl : slots + cap ≤ R.slots) (hp : pc + 2 = pc')
    (K : ∀ T' h' a k, a = h.size → Stand p l e R s m args below meth c T' locs (cells + 1) (slots + cap) → T'.heap = h' → Ext h h' → Arv Z h' a k (newarray.typeOf aty) z [] (defaultValue (newarray.typeOf aty)) → Go p.tables e below G T' (mkF m pc' Ls (.ref a :: st))) :
    Go p.tables e below G T (mkF m pc Ls (.int z :: st)) := by
  subst hp
  obtain ⟨T1, h1, cA, X1, e1, E1, A1, st1⟩ := newP X C.exec C.warm w eT (g := mkF m pc Ls (.int z :: st)) rfl (C.at hd) rfl hz hcap hb hc hl
  exact Go.step st1 (K T1 h1 h.size cA rfl X1 e1 E1 (Arv.new A1 hz))
theorem g_getF (C : Cx p l s m meth c Z x0 code maxL ret) (X : Stand p l e R s m args below meth c T locs cells slots) {R0 O n d host : String} {index : Nat} (w : (Cond.fieldLink x0.cls index R0 n d).before a0 Z = true ∨ (Cond.fieldLinkNest x0.cls index R0 n d host).before a0 Z = true) (via : Via Z R0 O n d) (eT : T.heap = h) {a : Addr} {v : Value} (F : Fld Z h a O n d v)
    {pc pc' : Nat} {Ls : Array Slot} {st : List Value} (hd : decode code pc = .ok (.getfield index, 3)) (hp : pc + 3 = pc')
    (K : ∀ T', Stand p l e R s m args below meth c T' locs cells slots → T'.heap = h → Go p.tables e below G T' (mkF m pc' Ls (v :: st))) : Go p.tables e below G T (mkF m pc Ls (.ref a :: st)) := by
  subst hp
  obtain ⟨T1, X1, e1, st1⟩ := getF X C.exec C.warm C.own w via eT F (g := mkF m pc Ls (.ref a :: st)) rfl rfl (C.at hd)
  exact Go.step st1 (K T1 X1 e1)
theorem g_putF (C : Cx p l s m meth c Z x0 code maxL ret) (X : Stand p l e R s m args below meth c T locs cells slots) {R0 O n d host cls : String} {index kk : Nat} {ty : FieldType} (w : (Cond.fieldLink x0.cls index R0 n d).before a0 Z = true ∨ (Cond.fieldLinkNest x0.cls index R0 n d host).before a0 Z = true) (via : Via Z R0 O n d) (eT : T.heap = h) {a : Addr} {v old : Value} (F : Fld Z h a O n d old) (E : Exa Z h a cls)
    (L : (Cond.lays cls O n d).before a0 Z = true ∨ ((Cond.laysFinal cls O n d).before a0 Z = true ∧ x0.cls = O ∧ x0.name = "<init>")) (wi : (Cond.instantiable cls kk).before a0 Z = true) (hty : parseFieldDescriptor d = some ty) (hn : narrow ty v = v) (hf : fits ty v = true)
    {pc pc' : Nat} {Ls : Array Slot} {st : List Value} (hd : decode code pc = .ok (.putfield index, 3)) (hp : pc + 3 = pc')
    (K : ∀ T' h', Stand p l e R s m args below meth c T' (locs ++ [⟨a, RoadKit.slotOf Z O n d⟩]) cells slots → T'.heap = h' → Wr h h' a (RoadKit.slotOf Z O n d) v → Go p.tables e below G T' (mkF m pc' Ls st)) : Go p.tables e below G T (mkF m pc Ls (v :: .ref a :: st)) := by
  subst hp
  obtain ⟨T1, h1, X1, e1, W1, st1⟩ := putF X C.exec C.warm C.own w via eT F E (L.imp id fun q => ⟨q.1, q.2.1, C.nm.trans q.2.2⟩) wi hty hn hf (g := mkF m pc Ls (v :: .ref a :: st)) rfl rfl (C.at hd)
  exact Go.step st1 (K T1 h1 X1 e1 W1)
/-- an array whose values are a list: read, length, store -/
theorem Arv.cell {a : Addr} {k : ClassId} {ty : FieldType} {z : Int32} {vs : List Value} {d : Value} (A : Arv Z h a k ty z vs d) : ∃ cl : Cell, Arr Z h a cl ty ∧ cl.slots.size = z.toNatClampNeg ∧ ¬ z < 0 ∧ Has cl vs d := by
  obtain ⟨cl, A1, -, S, N, H, -⟩ := A
  exact ⟨cl, A1, S, N, H⟩
theorem g_len (C : Cx p l s m meth c Z x0 code maxL ret) (X : Stand p l e R s m args below meth c T locs cells slots) {a : Addr} {k : ClassId} {ty : FieldType} {z : Int32} {vs : List Value} {d : Value} (eT : T.heap = h) (A : Arv Z h a k ty z vs d) {pc pc' : Nat} {Ls : Array Slot} {st : List Value} (hd : decode code pc = .ok (.arraylength, 1)) (hp : pc + 1 = pc')
    (K : Go p.tables e below G T (mkF m pc' Ls (.int z :: st))) : Go p.tables e below G T (mkF m pc Ls (.ref a :: st)) := by
  subst hp
  obtain ⟨cl, A1, S, N, H⟩ := Arv.cell A
  refine Go.step (fun t q => X.arraylength C.exec (cell := cl) (by rw [eT]; exact A1.1) (State.isArrayOf_alike C.warm.alike A1.2.1) (g := mkF m pc Ls (.ref a :: st)) rfl rfl (C.at hd) t ?_) K
  rw [len_of S N]; exact q
theorem inb {cl : Cell} {z j : Int32} (S : cl.slots.size = z.toNatClampNeg) (h0 : 0 ≤ j.toInt) (h1 : j.toInt < z.toInt) : ¬ (j < 0 ∨ cl.slots.size ≤ j.toNatClampNeg) :=
  inb_of S ⟨fun q => by rw [Int32.lt_iff_toInt_lt] at q; exact absurd q (Int.not_lt.mpr h0), Int32.lt_iff_toInt_lt.mpr h1⟩
theorem g_iaload (C : Cx p l s m meth c Z x0 code maxL ret) (X : Stand p l e R s m args below meth c T locs cells slots) {a : Addr} {k : ClassId} {z j : Int32} {vs : List Value} {d : Value} {v : Int32} (eT : T.heap = h) (A : Arv Z h a k .int z vs d) (h0 : 0 ≤ j.toInt) (h1 : j.toInt < z.toInt) (i : Nat) (hj : j.toNatClampNeg = i) (hv : vs.getD i d = .int v) {pc pc' : Nat} {Ls : Array Slot} {st : List Value} (hd : decode code pc = .ok (.iaload, 1)) (hp : pc + 1 = pc')
    (K : Go p.tables e below G T (mkF m pc' Ls (.int v :: st))) : Go p.tables e below G T (mkF m pc Ls (.int j :: .ref a :: st)) := by
  subst hp
  obtain ⟨cl, A1, S, N, H⟩ := Arv.cell A
  exact Go.step (fun t q => X.iaload C.exec (j := j) (v := .int v) (by rw [eT]; exact A1.1) (State.isArrayOf_alike C.warm.alike A1.2.1) A1.2.2 (inb S h0 h1) (H.at (inb S h0 h1) (by rw [hj]; exact hv)) (g := mkF m pc Ls (.int j :: .ref a :: st)) rfl rfl (C.at hd) t q) K
theorem g_daload (C : Cx p l s m meth c Z x0 code maxL ret) (X : Stand p l e R s m args below meth c T locs cells slots) {a : Addr} {k : ClassId} {z j : Int32} {vs : List Value} {d : Value} {v : UInt64} (eT : T.heap = h) (A : Arv Z h a k .double z vs d) (h0 : 0 ≤ j.toInt) (h1 : j.toInt < z.toInt) (i : Nat) (hj : j.toNatClampNeg = i) (hv : vs.getD i d = .double v) {pc pc' : Nat} {Ls : Array Slot} {st : List Value} (hd : decode code pc = .ok (.daload, 1)) (hp : pc + 1 = pc')
    (K : Go p.tables e below G T (mkF m pc' Ls (.double v :: st))) : Go p.tables e below G T (mkF m pc Ls (.int j :: .ref a :: st)) := by
  subst hp
  obtain ⟨cl, A1, S, N, H⟩ := Arv.cell A
  exact Go.step (fun t q => X.daload C.exec (j := j) (v := .double v) (by rw [eT]; exact A1.1) (State.isArrayOf_alike C.warm.alike A1.2.1) A1.2.2 (inb S h0 h1) (H.at (inb S h0 h1) (by rw [hj]; exact hv)) (g := mkF m pc Ls (.int j :: .ref a :: st)) rfl rfl (C.at hd) t q) K
theorem g_aaload (C : Cx p l s m meth c Z x0 code maxL ret) (X : Stand p l e R s m args below meth c T locs cells slots) {a : Addr} {k : ClassId} {z j : Int32} {ty : FieldType} {vs : List Value} {d v : Value} (eT : T.heap = h) (A : Arv Z h a k ty z vs d) (hty : ty.isReference = true) (hr : v.isRef = true) (h0 : 0 ≤ j.toInt) (h1 : j.toInt < z.toInt) (i : Nat) (hj : j.toNatClampNeg = i) (hv : vs.getD i d = v) {pc pc' : Nat} {Ls : Array Slot} {st : List Value} (hd : decode code pc = .ok (.aaload, 1)) (hp : pc + 1 = pc')
    (K : Go p.tables e below G T (mkF m pc' Ls (v :: st))) : Go p.tables e below G T (mkF m pc Ls (.int j :: .ref a :: st)) := by
  subst hp
  obtain ⟨cl, A1, S, N, H⟩ := Arv.cell A
  exact Go.step (fun t q => X.aaload C.exec (j := j) (v := v) (by rw [eT]; exact A1.1) (State.isArrayOf_alike C.warm.alike A1.2.1) hty A1.2.2 (inb S h0 h1) (H.at (inb S h0 h1) (by rw [hj]; exact hv)) (g := mkF m pc Ls (.int j :: .ref a :: st)) rfl rfl (C.at hd) t q) K
theorem Arv.put {h' : Heap} {a : Addr} {k : ClassId} {ty : FieldType} {z j : Int32} {vs : List Value} {d v : Value} (A : Arv Z h a k ty z vs d) (W : Wr h h' a j.toNatClampNeg v) (hv : fits ty v = true) (i : Nat) (hj : j.toNatClampNeg = i) (n : Nat) (hi : i < vs.length + n) : Arv Z h' a k ty z ((vs ++ List.replicate n d).set i v) d := by
  obtain ⟨cl, A1, q1, S, N, H, Gf⟩ := Arv.pad A (pad_rep vs d n)
  exact Arv.set A1 q1 S N H Gf hv W i hj (by rw [List.length_append, List.length_replicate]; exact hi)
theorem g_iastore (C : Cx p l s m meth c Z x0 code maxL ret) (X : Stand p l e R s m args below meth c T locs cells slots) {a : Addr} {k : ClassId} {z j x : Int32} {vs : List Value} {d : Value} (eT : T.heap = h) (A : Arv Z h a k .int z vs d) (h0 : 0 ≤ j.toInt) (h1 : j.toInt < z.toInt) (i n : Nat) (hj : j.toNatClampNeg = i) (hi : i < vs.length + n) {pc pc' : Nat} {Ls : Array Slot} {st : List Value} (hd : decode code pc = .ok (.iastore, 1)) (hp : pc + 1 = pc')
    (K : ∀ T' h', Stand p l e R s m args below meth c T' (locs ++ [⟨a, j.toNatClampNeg⟩]) cells slots → T'.heap = h' → Wr h h' a j.toNatClampNeg (.int x) → Arv Z h' a k .int z ((vs ++ List.replicate n d).set i (.int x)) d → Go p.tables e below G T' (mkF m pc' Ls st)) : Go p.tables e below G T (mkF m pc Ls (.int x :: .int j :: .ref a :: st)) := by
  subst hp
  obtain ⟨cl, A1, S, N, H⟩ := Arv.cell A
  obtain ⟨T1, h2, X1, e1, W1, st1⟩ := stI X C.exec C.warm eT A1 (inb S h0 h1) (g := mkF m pc Ls (.int x :: .int j :: .ref a :: st)) rfl rfl (C.at hd)
  exact Go.step st1 (K T1 h2 X1 e1 W1 (Arv.put A W1 rfl i hj n hi))
theorem g_dastore (C : Cx p l s m meth c Z x0 code maxL ret) (X : Stand p l e R s m args below meth c T locs cells slots) {a : Addr} {k : ClassId} {z j : Int32} {x : UInt64} {vs : List Value} {d : Value} (eT : T.heap = h) (A : Arv Z h a k .double z vs d) (h0 : 0 ≤ j.toInt) (h1 : j.toInt < z.toInt) (i n : Nat) (hj : j.toNatClampNeg = i) (hi : i < vs.length + n) {pc pc' : Nat} {Ls : Array Slot} {st : List Value} (hd : decode code pc = .ok (.dastore, 1)) (hp : pc + 1 = pc')
    (K : ∀ T' h', Stand p l e R s m args below meth c T' (locs ++ [⟨a, j.toNatClampNeg⟩]) cells slots → T'.heap = h' → Wr h h' a j.toNatClampNeg (.double x) → Arv Z h' a k .double z ((vs ++ List.replicate n d).set i (.double x)) d → Go p.tables e below G T' (mkF m pc' Ls st)) : Go p.tables e below G T (mkF m pc Ls (.double x :: .int j :: .ref a :: st)) := by
  subst hp
  obtain ⟨cl, A1, S, N, H⟩ := Arv.cell A
  obtain ⟨T1, h2, X1, e1, W1, st1⟩ := stD X C.exec C.warm eT A1 (inb S h0 h1) (g := mkF m pc Ls (.double x :: .int j :: .ref a :: st)) rfl rfl (C.at hd)
  exact Go.step st1 (K T1 h2 X1 e1 W1 (Arv.put A W1 rfl i hj n hi))
theorem g_ldc2J (C : Cx p l s m meth c Z x0 code maxL ret) (X : Stand p l e R s m args below meth c T locs cells slots) {index : Nat} {v : Int64} (w : (Cond.constantLong x0.cls index v).before a0 Z = true) {pc pc' : Nat} {Ls : Array Slot} {st : List Value} (hd : decode code pc = .ok (.ldc2_w index, 3)) (hp : pc + 3 = pc')
    (K : Go p.tables e below G T (mkF m pc' Ls (.long v :: st))) : Go p.tables e below G T (mkF m pc Ls st) := by
  subst hp
  exact Go.step (fun t q => X.ldc2Long C.exec C.own (mvT C.warm w) (g := mkF m pc Ls st) rfl (C.at hd) t q) K
theorem g_ldcI (C : Cx p l s m meth c Z x0 code maxL ret) (X : Stand p l e R s m args below meth c T locs cells slots) {index : Nat} {v : Int32} (w : (Cond.constant x0.cls index v).before a0 Z = true) {pc pc' : Nat} {Ls : Array Slot} {st : List Value} (hd : decode code pc = .ok (.ldc index, 2)) (hp : pc + 2 = pc')
    (K : Go p.tables e below G T (mkF m pc' Ls (.int v :: st))) : Go p.tables e below G T (mkF m pc Ls st) := by
  subst hp
  exact Go.step (fun t q => X.ldcInt C.exec C.own (mvT C.warm w) (g := mkF m pc Ls st) rfl (C.at hd) t q) K
theorem FldE.wr {h' : Heap} {a b : Addr} {C n d : String} {sl : Nat} {v : Value} (W : Wr h h' b sl v) (F : ∃ w, Fld Z h a C n d w) : ∃ w, Fld Z h' a C n d w := by
  obtain ⟨w, F⟩ := F
  by_cases q : a ≠ b ∨ RoadKit.slotOf Z C n d ≠ sl
  · exact ⟨w, F.other W q⟩
  · have q1 : a = b := Decidable.not_not.mp fun z => q (Or.inl z)
    have q2 : RoadKit.slotOf Z C n d = sl := Decidable.not_not.mp fun z => q (Or.inr z)
    subst q1 q2
    exact ⟨v, F.same W⟩
theorem g_ldc2D (C : Cx p l s m meth c Z x0 code maxL ret) (X : Stand p l e R s m args below meth c T locs cells slots) {index : Nat} {b : UInt64} (w : (Cond.constantDouble x0.cls index b).before a0 Z = true) {pc pc' : Nat} {Ls : Array Slot} {st : List Value} (hd : decode code pc = .ok (.ldc2_w index, 3)) (hp : pc + 3 = pc')
    (K : Go p.tables e below G T (mkF m pc' Ls (.double b :: st))) : Go p.tables e below G T (mkF m pc Ls st) := by
  subst hp
  exact Go.step (fun t q => X.ldc2DoubleC C.exec C.own (mvT C.warm w) (g := mkF m pc Ls st) rfl (C.at hd) t q) K
end Walk
/-! doubles that are whole numbers -/
section Dbl
open Jvm.FP.Core Jvm.Free.Fl
theorem nn_of_int {i : Int} {a : UInt64} (q : DInt i a) : NoNaN64 a := val64_no.mpr (DInt_ne_nan q)
def cmpI (i j : Int) : Int32 := if j < i then 1 else if i = j then 0 else -1
theorem cmpI_lt (i j : Int) : (cmpI i j).toInt < 0 ↔ i < j := by
  unfold cmpI
  split
  · exact ⟨fun q => absurd q (by decide), fun q => by omega⟩
  · split
    · exact ⟨fun q => absurd q (by decide), fun q => by omega⟩
    · exact ⟨fun _ => by omega, fun _ => by decide⟩
theorem cmpI_gt (i j : Int) : 0 < (cmpI i j).toInt ↔ j < i := by
  unfold cmpI
  split
  · exact ⟨fun _ => by assumption, fun _ => by decide⟩
  · split
    · exact ⟨fun q => absurd q (by decide), fun q => by omega⟩
    · exact ⟨fun q => absurd q (by decide), fun q => by omega⟩
theorem cmpI_eq (i j : Int) : (cmpI i j).toInt = 0 ↔ i = j := by
  unfold cmpI
  split
  · exact ⟨fun q => absurd q (by decide), fun q => by omega⟩
  · split
    · exact ⟨fun _ => by assumption, fun _ => by decide⟩
    · exact ⟨fun q => absurd q (by decide), fun q => by omega⟩
theorem cmpI_self (i : Int) : cmpI i i = 0 := by
  unfold cmpI
  rw [if_neg (Int.lt_irrefl i), if_pos rfl]
theorem cmpL_lt (x y : Int64) : (XT.cmpL x y).toInt < 0 ↔ x.toInt < y.toInt := by
  unfold XT.cmpL
  rw [← Int64.lt_iff_toInt_lt]
  split
  · rename_i q; exact ⟨fun q => absurd q (by decide), fun q' => absurd q' (Int64.lt_asymm q)⟩
  · split
    · rename_i q; subst q; exact ⟨fun q => absurd q (by decide), fun q' => absurd q' Int64.lt_irrefl⟩
    · rename_i q1 q2; exact ⟨fun _ => by have q3 : ¬ x.toInt = y.toInt := fun q => q2 (Int64.toInt_inj.mp q); rw [Int64.lt_iff_toInt_lt] at q1 ⊢; omega, fun _ => by decide⟩
theorem cmpL_gt (x y : Int64) : 0 < (XT.cmpL x y).toInt ↔ y.toInt < x.toInt := by
  unfold XT.cmpL
  rw [← Int64.lt_iff_toInt_lt]
  split
  · rename_i q; exact ⟨fun _ => q, fun _ => by decide⟩
  · split
    · rename_i q0 q; exact ⟨fun q => absurd q (by decide), fun q' => absurd q' q0⟩
    · rename_i q0 q; exact ⟨fun q => absurd q (by decide), fun q' => absurd q' q0⟩
theorem cmpL_eq (x y : Int64) : (XT.cmpL x y).toInt = 0 ↔ x.toInt = y.toInt := by
  unfold XT.cmpL
  rw [Int64.toInt_inj]
  split
  · rename_i q; exact ⟨fun q => absurd q (by decide), fun q' => absurd q (by rw [q']; exact Int64.lt_irrefl)⟩
  · split
    · rename_i q; exact ⟨fun _ => q, fun _ => by decide⟩
    · rename_i q0 q; exact ⟨fun q => absurd q (by decide), fun q' => absurd q' q⟩
theorem cmpV_of {r : Option Ordering} {i j : Int} (q : r = some (compare i j)) (o : CmpOp) : cmpValue r o = cmpI i j := by
  subst q
  unfold cmpI
  split
  · rename_i q; rw [(compare_gt_iff i j).mpr q]; rfl
  · split
    · rename_i q; rw [(compare_eq_iff i j).mpr q]; rfl
    · rename_i q1 q2; rw [(compare_lt_iff i j).mpr (by omega)]; rfl
theorem dcmp_cmpI {i j : Int} {a b : UInt64} (ha : DInt i a) (hb : DInt j b) (o : CmpOp) : cmpValue (FP.dcmp a b) o = cmpI i j := cmpV_of (dcmp_int ha hb) o
theorem dint_zero : DInt 0 FP.dconst0 := by
  unfold DInt
  rw [show val64 FP.dconst0 = _ from val64_dconst0]
  show signed false (0 * _) = 0 * _
  rw [Nat.zero_mul, Int.zero_mul]; rfl
end Dbl
end Jvm.OwnKit
namespace Jvm.OwnKit
open Sem ClassFile Op Lib Jvm.Stand Jvm.Free Jvm.LawKit Jvm.RoadKit
section More
variable {p : Program} {l : Launch} {e : Env} {R : Room} {s : State} {m : MethodId} {args : Array Value} {below : List Frame} {meth : Method} {c : Code} {T : State} {locs : List Loc} {cells slots : Nat} {Z : State} {a0 : Array Value} {h : Heap} {G : Outcome → State → Prop}
variable {x0 : MethodName} {code : ByteArray} {maxL : Nat} {ret : Option FieldType}
theorem g_newPE (C : Cx p l s m meth c Z x0 code maxL ret) (X : Stand p l e R s m args below meth c T locs cells slots) {aty : ArrayType} {ad : String} (had : "[" ++ (newarray.typeOf aty).toString = ad) (w : (Cond.arrayClass (newarray.typeOf aty)).before a0 Z = true) (eT : T.heap = h)
    {pc pc' : Nat} {Ls : Array Slot} {st : List Value} {z : Int32} (hd : decode code pc = .ok (.newarray aty, 2)) (hz : ¬ z < 0) (cap : Nat) (hcap : z.toNatClampNeg ≤ cap) (hb : cap * 8 ≤ 536870912) (hc : cells + 1 ≤ R.cells) (hl : slots + cap ≤ R.slots) (hp : pc + 2 = pc')
    (K : ∀ T' h' a k, a = h.size → Stand p l e R s m args below meth c T' locs (cells + 1) (slots + cap) → T'.heap = h' → Ext h h' → Arv Z h' a k (newarray.typeOf aty) z [] (defaultValue (newarray.typeOf aty)) → Exa Z h' a ad → Go p.tables e below G T' (mkF m pc' Ls (.ref a :: st))) :
    Go p.tables e below G T (mkF m pc Ls (.int z :: st)) := by
  subst hp
  obtain ⟨T1, h1, cA, X1, e1, E1, A1, B1, st1⟩ := newPE X C.exec C.warm w eT (g := mkF m pc Ls (.int z :: st)) rfl (C.at hd) rfl hz hcap hb hc hl had
  exact Go.step st1 (K T1 h1 h.size cA rfl X1 e1 E1 (Arv.new A1 hz) B1)
theorem g_clone (C : Cx p l s m meth c Z x0 code maxL ret) (X : Stand p l e R s m args below meth c T locs cells slots) {index : Nat} {ad : String} {ty : FieldType} (w1 : (Cond.methodLink x0.cls index ⟨ad, "clone", "()Ljava/lang/Object;"⟩).before a0 Z = true) (w2 : (Cond.sameMethod ad "java/lang/Object" "clone" "()Ljava/lang/Object;").before a0 Z = true) (w3 : (Cond.native ⟨"java/lang/Object", "clone", "()Ljava/lang/Object;"⟩).before a0 Z = true)
    (w4 : (Cond.instanceMethod ⟨"java/lang/Object", "clone", "()Ljava/lang/Object;"⟩).before a0 Z = true) (w5 : (Cond.selects ad ⟨ad, "clone", "()Ljava/lang/Object;"⟩ ⟨"java/lang/Object", "clone", "()Ljava/lang/Object;"⟩).before a0 Z = true) (w6 : (Cond.castable ad "java/lang/Cloneable").before a0 Z = true) (eT : T.heap = h)
    {a : Addr} {k : ClassId} {z : Int32} {vs : List Value} {d : Value} (A : Arv Z h a k ty z vs d) (E : Exa Z h a ad) {pc pc' : Nat} {Ls : Array Slot} {rest : List Value} (hd : decode code pc = .ok (.invokevirtual index, 3)) (hsz : Ls.size = maxL) (W : Nat) (hW : (rest.map fun v => v.category).sum = W) (hfr : 1 ≤ R.frames) (hlo : W + 14 ≤ R.locals)
    (cap : Nat) (hcap : z.toNatClampNeg ≤ cap) (hc : cells + 1 ≤ R.cells) (hl : slots + cap ≤ R.slots) (hp : pc + 3 = pc')
    (K : ∀ T' h' a', a' = h.size → Stand p l e R s m args below meth c T' locs (cells + 1) (slots + cap) → T'.heap = h' → Ext h h' → Arv Z h' a' k ty z vs d → Exa Z h' a' ad → Go p.tables e below G T' (mkF m pc' Ls (.ref a' :: rest))) :
    Go p.tables e below G T (mkF m pc Ls (.ref a :: rest)) := by
  subst hp
  obtain ⟨T1, h1, X1, e1, E1, A1, B1, st1⟩ := cloneH X C.exec C.warm C.own w1 w2 w3 w4 w5 w6 eT A.arh E (g := mkF m pc Ls (.ref a :: rest)) rfl (by rw [C.maxl]; exact hsz) rfl (C.at hd) hfr (W := W) (by show 2 * 0 + _ ≤ _; rw [hW]; omega) hlo hcap hc hl
  exact Go.step st1 (K T1 h1 h.size rfl X1 e1 E1 A1 B1)
theorem g_cast (C : Cx p l s m meth c Z x0 code maxL ret) (X : Stand p l e R s m args below meth c T locs cells slots) {cls : String} {index : Nat} (w : (Cond.classLink x0.cls index cls).before a0 Z = true) (eT : T.heap = h) {a : Addr} (F : Ins Z h a cls true) {pc pc' : Nat} {Ls : Array Slot} {rest : List Value} (hd : decode code pc = .ok (.checkcast index, 3)) (hp : pc + 3 = pc')
    (K : ∀ T', Stand p l e R s m args below meth c T' locs cells slots → T'.heap = h → Go p.tables e below G T' (mkF m pc' Ls (.ref a :: rest))) : Go p.tables e below G T (mkF m pc Ls (.ref a :: rest)) := by
  subst hp
  obtain ⟨T1, X1, e1, st1⟩ := castY X C.exec C.warm C.own w eT F (g := mkF m pc Ls (.ref a :: rest)) rfl rfl (C.at hd)
  exact Go.step st1 (K T1 X1 e1)
theorem g_acmpY (C : Cx p l s m meth c Z x0 code maxL ret) (X : Stand p l e R s m args below meth c T locs cells slots) {pc pc' : Nat} {Ls : Array Slot} {st : List Value} {cd : ClassFile.ACond} {v w : Value} {o : Int} (hd : decode code pc = .ok (.if_acmp cd o, 3)) (hv : v.isRef = true) (hw : w.isRef = true) (hc : XT.acmp cd v w = true) (ho : 0 ≤ (pc : Int) + o) (hp : ((pc : Int) + o).toNat = pc')
    (K : Go p.tables e below G T (mkF m pc' Ls st)) : Go p.tables e below G T (mkF m pc Ls (w :: v :: st)) :=
  Go.step (fun _ k => XT.acmpYes X.here C.exec rfl rfl (C.at hd) rfl hv hw hc ho hp k) K
theorem g_acmpN (C : Cx p l s m meth c Z x0 code maxL ret) (X : Stand p l e R s m args below meth c T locs cells slots) {pc pc' : Nat} {Ls : Array Slot} {st : List Value} {cd : ClassFile.ACond} {v w : Value} {o : Int} (hd : decode code pc = .ok (.if_acmp cd o, 3)) (hv : v.isRef = true) (hw : w.isRef = true) (hc : XT.acmp cd v w = false) (hp : pc + 3 = pc')
    (K : Go p.tables e below G T (mkF m pc' Ls st)) : Go p.tables e below G T (mkF m pc Ls (w :: v :: st)) := by
  subst hp
  exact Go.step (fun _ k => XT.acmpNo X.here C.exec rfl (C.at hd) rfl hv hw hc k) K
theorem ac_same (v : Value) : XT.acmp .eq v v = true ∧ XT.acmp .ne v v = false := by simp [XT.acmp]
theorem ac_diff {v w : Value} (q : v ≠ w) : XT.acmp .eq v w = false ∧ XT.acmp .ne v w = true := by simp [XT.acmp, q]
theorem ref_ne {a b : Addr} (q : a ≠ b) : Value.ref a ≠ Value.ref b := fun z => q (Value.ref.inj z)
theorem g_ifnullY (C : Cx p l s m meth c Z x0 code maxL ret) (X : Stand p l e R s m args below meth c T locs cells slots) {pc pc' : Nat} {Ls : Array Slot} {st : List Value} {o : Int} (hd : decode code pc = .ok (.ifnull o, 3)) (ho : 0 ≤ (pc : Int) + o) (hp : ((pc : Int) + o).toNat = pc')
    (K : Go p.tables e below G T (mkF m pc' Ls st)) : Go p.tables e below G T (mkF m pc Ls (.null :: st)) :=
  Go.step (fun _ k => XS.ifnullYes X.here C.exec rfl rfl (C.at hd) rfl ho hp k) K
theorem g_ifnullN (C : Cx p l s m meth c Z x0 code maxL ret) (X : Stand p l e R s m args below meth c T locs cells slots) {pc pc' : Nat} {Ls : Array Slot} {st : List Value} {a : Addr} {o : Int} (hd : decode code pc = .ok (.ifnull o, 3)) (hp : pc + 3 = pc')
    (K : Go p.tables e below G T (mkF m pc' Ls st)) : Go p.tables e below G T (mkF m pc Ls (.ref a :: st)) := by
  subst hp
  exact Go.step (fun _ k => XS.ifnullNo X.here C.exec rfl (C.at hd) rfl k) K
theorem g_ifnonnullN (C : Cx p l s m meth c Z x0 code maxL ret) (X : Stand p l e R s m args below meth c T locs cells slots) {pc pc' : Nat} {Ls : Array Slot} {st : List Value} {o : Int} (hd : decode code pc = .ok (.ifnonnull o, 3)) (hp : pc + 3 = pc')
    (K : Go p.tables e below G T (mkF m pc' Ls st)) : Go p.tables e below G T (mkF m pc Ls (.null :: st)) := by
  subst hp
  exact Go.step (fun _ k => XT.ifnonnullNo X.here C.exec rfl (C.at hd) rfl k) K
theorem g_ifnonnullY (C : Cx p l s m meth c Z x0 code maxL ret) (X : Stand p l e R s m args below meth c T locs cells slots) {pc pc' : Nat} {Ls : Array Slot} {st : List Value} {a : Addr} {o : Int} (hd : decode code pc = .ok (.ifnonnull o, 3)) (ho : 0 ≤ (pc : Int) + o) (hp : ((pc : Int) + o).toNat = pc')
    (K : Go p.tables e below G T (mkF m pc' Ls st)) : Go p.tables e below G T (mkF m pc Ls (.ref a :: st)) :=
  Go.step (fun _ k => XT.ifnonnullYes X.here C.exec rfl rfl (C.at hd) rfl ho hp k) K
theorem g_getS (C : Cx p l s m meth c Z x0 code maxL ret) (X : Stand p l e R s m args below meth c T locs cells slots) {R0 O n d : String} {index : Nat} (w : (Cond.fieldLink x0.cls index R0 n d).before a0 Z = true) (via : Via Z R0 O n d) (eT : T.heap = h) {v : Value} (F : Sta Z h O n d v)
    {pc pc' : Nat} {Ls : Array Slot} {st : List Value} (hd : decode code pc = .ok (.getstatic index, 3)) (hp : pc + 3 = pc')
    (K : ∀ T', Stand p l e R s m args below meth c T' locs cells slots → T'.heap = h → Go p.tables e below G T' (mkF m pc' Ls (v :: st))) : Go p.tables e below G T (mkF m pc Ls st) := by
  subst hp
  obtain ⟨T1, X1, e1, st1⟩ := getS (host := "") X C.exec C.warm C.own w via eT F (g := mkF m pc Ls st) rfl (C.at hd)
  exact Go.step st1 (K T1 X1 e1)
theorem g_lshl (C : Cx p l s m meth c Z x0 code maxL ret) (X : Stand p l e R s m args below meth c T locs cells slots) {pc pc' : Nat} {Ls : Array Slot} {st : List Value} {x : Int64} {y : Int32} (hd : decode code pc = .ok (.lshl, 1)) (hp : pc + 1 = pc')
    (K : Go p.tables e below G T (mkF m pc' Ls (.long (x <<< (y.toInt64 &&& 63)) :: st))) : Go p.tables e below G T (mkF m pc Ls (.int y :: .long x :: st)) := by
  subst hp; exact Go.step (fun _ k => XT.lshl X.here C.exec rfl (C.at hd) rfl k) K
end More
end Jvm.OwnKit
namespace Jvm.OwnKit
section Dbl
open Jvm.FP.Core Jvm.Free.Fl
theorem i2d_D (x : Int32) : DInt x.toInt (FP.i2d x) := i2d_int x
theorem l2d_D {x : Int64} (h : x.toInt.natAbs ≤ 2 ^ 53) : DInt x.toInt (FP.l2d x) := l2d_int h
theorem dadd_D {i j : Int} {a b : UInt64} (ha : DInt i a) (hb : DInt j b) (h : (i + j).natAbs ≤ 2 ^ 53) : DInt (i + j) (FP.dadd a b) := dadd_int ha hb h
theorem dsub_D {i j : Int} {a b : UInt64} (ha : DInt i a) (hb : DInt j b) (h : (i - j).natAbs ≤ 2 ^ 53) : DInt (i - j) (FP.dsub a b) := dsub_int ha hb h
theorem dmul_D {i j : Int} {a b : UInt64} (ha : DInt i a) (hb : DInt j b) (h : (i * j).natAbs ≤ 2 ^ 53) : DInt (i * j) (FP.dmul a b) := dmul_int ha hb h
theorem dint_one' : DInt 1 FP.dconst1 := dint_one
theorem dneg_int' {i : Int} {a : UInt64} (ha : DInt i a) : DInt (-i) (FP.dneg a) := by
  unfold DInt
  rw [FP.val64_dneg]
  exact whole_negate ha
theorem own_pow_cancel {c k d q1 q2 r1 r2 : Nat} {q r : Int} (hq : (q1 : Int) - q2 = q) (hr : (r1 : Int) - r2 = r) (h : c * 2 ^ (q1 + r2) = k * d * 2 ^ (q2 + r1)) : c * 2 ^ (q - r).toNat = k * d * 2 ^ (r - q).toNat := by
  obtain ⟨n, hn⟩ : ∃ n : Nat, n = min (q1 + r2) (q2 + r1) := ⟨_, rfl⟩
  have e1 : q1 + r2 = (q - r).toNat + n := by omega
  have e2 : q2 + r1 = (r - q).toNat + n := by omega
  rw [e1, e2, Nat.pow_add, Nat.pow_add, ← Nat.mul_assoc, ← Nat.mul_assoc] at h
  exact Nat.eq_of_mul_eq_mul_right (Nat.two_pow_pos n) h
theorem ddiv_int {i j k : Int} {a b : UInt64} (ha : DInt i a) (hb : DInt j b) (hj : j ≠ 0) (hk : i = k * j) (h : k.natAbs ≤ 2 ^ 53) : DInt k (FP.ddiv a b) := by
  unfold DInt at *
  show Whole k (val64 (ddiv a b))
  rw [val64_ddiv]
  cases hva : val64 a with
  | nan => rw [hva] at ha; exact ha.elim
  | inf => rw [hva] at ha; exact ha.elim
  | fin s c q =>
    cases hvb : val64 b with
    | nan => rw [hvb] at hb; exact hb.elim
    | inf => rw [hvb] at hb; exact hb.elim
    | fin t d r =>
      rw [hva] at ha
      rw [hvb] at hb
      have hd : d ≠ 0 := fun q => hj ((whole_zero hb).mp q)
      have h1 := whole_natAbs ha
      have h2 := whole_natAbs hb
      have e1 : quotient b64 (.fin s c q) (.fin t d r) = round b64 (.fin (s != t) k.natAbs 0) := by
        show (if d = 0 then _ else roundRatio b64 (s != t) c d (q - r)) = roundRatio b64 (s != t) k.natAbs 1 0
        rw [if_neg hd]
        refine roundRatio_congr (by omega) (by decide) ?_
        have e2 : c * 2 ^ (q.toNat + (-r).toNat) = k.natAbs * d * 2 ^ ((-q).toNat + r.toNat) := by
          rw [Nat.pow_add, Nat.pow_add, ← Nat.mul_assoc, h1, hk, Int.natAbs_mul]
          calc k.natAbs * j.natAbs * 2 ^ (-q).toNat * 2 ^ (-r).toNat = k.natAbs * 2 ^ (-q).toNat * (j.natAbs * 2 ^ (-r).toNat) := by ac_rfl
            _ = k.natAbs * 2 ^ (-q).toNat * (d * 2 ^ r.toNat) := by rw [h2]
            _ = k.natAbs * d * (2 ^ (-q).toNat * 2 ^ r.toNat) := by ac_rfl
        have e3 := own_pow_cancel (q := q) (r := r) (by omega) (by omega) e2
        rw [Nat.mul_one, show (q - r - 0).toNat = (q - r).toNat by omega, show (0 - (q - r)).toNat = (r - q).toNat by omega]
        exact e3
      rw [e1]
      refine whole_round good_b64 wide_b64 h ?_
      show signed (s != t) (k.natAbs * 2 ^ 0) = k * ((2 ^ 0 : Nat) : Int)
      rw [Nat.pow_zero, Nat.mul_one]
      by_cases hk0 : k = 0
      · subst hk0; exact signed_zero _
      · have hi : i ≠ 0 := by rw [hk]; exact Int.mul_ne_zero hk0 hj
        rw [whole_sign ha hi, whole_sign hb hj]
        unfold signed
        rcases Int.lt_or_gt_of_ne hj with q1 | q1 <;> rcases Int.lt_or_gt_of_ne hk0 with q2 | q2
        · have q3 := Int.mul_pos_of_neg_of_neg q2 q1
          rw [← hk] at q3
          simp [q1, show ¬ i < 0 by omega]; omega
        · have q3 := Int.mul_neg_of_pos_of_neg q2 q1
          rw [← hk] at q3
          simp [q1, q3]; omega
        · have q3 := Int.mul_neg_of_neg_of_pos q2 q1
          rw [← hk] at q3
          simp [show ¬ j < 0 by omega, q3]; omega
        · have q3 := Int.mul_pos q2 q1
          rw [← hk] at q3
          simp [show ¬ j < 0 by omega, show ¬ i < 0 by omega]; omega
end Dbl
end Jvm.OwnKit
namespace Jvm.OwnKit
section Dq
open Jvm.FP.Core Jvm.Free.Fl Op ClassFile
/-- the double a is i / 2^k -/
def DQ (k : Nat) (i : Int) (a : UInt64) : Prop := ∃ s c q, val64 a = .fin s c q ∧ Whole i (.fin s c (q + k))
theorem whole_up {s : Bool} {c : Nat} {q i : Int} (k : Nat) (h : Whole i (.fin s c q)) : Whole (i * ((2 ^ k : Nat) : Int)) (.fin s c (q + k)) := by
  show signed s (c * 2 ^ (q + k).toNat) = i * ((2 ^ k : Nat) : Int) * ((2 ^ (-(q + k)).toNat : Nat) : Int)
  have h : signed s (c * 2 ^ q.toNat) = i * ((2 ^ (-q).toNat : Nat) : Int) := h
  have p : ((2 ^ q.toNat : Nat) : Int) ≠ 0 := by have := Nat.two_pow_pos q.toNat; omega
  rw [signed_mul] at h ⊢
  refine Int.eq_of_mul_eq_mul_right p ?_
  calc signed s c * ((2 ^ (q + k).toNat : Nat) : Int) * ((2 ^ q.toNat : Nat) : Int) = signed s c * ((2 ^ q.toNat : Nat) : Int) * ((2 ^ (q + k).toNat : Nat) : Int) := by ac_rfl
    _ = i * (((2 ^ (-q).toNat : Nat) : Int) * ((2 ^ (q + k).toNat : Nat) : Int)) := by rw [h]; ac_rfl
    _ = i * (((2 ^ k : Nat) : Int) * ((2 ^ (-(q + k)).toNat : Nat) : Int) * ((2 ^ q.toNat : Nat) : Int)) := by
      congr 1
      rw [← Int.natCast_mul, ← Int.natCast_mul, ← Int.natCast_mul, ← Nat.pow_add, ← Nat.pow_add, ← Nat.pow_add]
      congr 2; omega
    _ = i * ((2 ^ k : Nat) : Int) * ((2 ^ (-(q + k)).toNat : Nat) : Int) * ((2 ^ q.toNat : Nat) : Int) := by ac_rfl
theorem whole_inj {s : Bool} {c : Nat} {q i j : Int} (h : Whole i (.fin s c q)) (h' : Whole j (.fin s c q)) : i = j := by
  have h : signed s (c * 2 ^ q.toNat) = i * ((2 ^ (-q).toNat : Nat) : Int) := h
  have h' : signed s (c * 2 ^ q.toNat) = j * ((2 ^ (-q).toNat : Nat) : Int) := h'
  have p : ((2 ^ (-q).toNat : Nat) : Int) ≠ 0 := by have := Nat.two_pow_pos (-q).toNat; omega
  exact Int.eq_of_mul_eq_mul_right p (h.symm.trans h')
theorem whole_down {s : Bool} {c : Nat} {q i : Int} (k : Nat) (h : Whole (i * ((2 ^ k : Nat) : Int)) (.fin s c (q + k))) : Whole i (.fin s c q) := by
  show signed s (c * 2 ^ q.toNat) = i * ((2 ^ (-q).toNat : Nat) : Int)
  have h : signed s (c * 2 ^ (q + k).toNat) = i * ((2 ^ k : Nat) : Int) * ((2 ^ (-(q + k)).toNat : Nat) : Int) := h
  have p : ((2 ^ (q + k).toNat : Nat) : Int) ≠ 0 := by have := Nat.two_pow_pos (q + k).toNat; omega
  rw [signed_mul] at h ⊢
  refine Int.eq_of_mul_eq_mul_right p ?_
  calc signed s c * ((2 ^ q.toNat : Nat) : Int) * ((2 ^ (q + k).toNat : Nat) : Int) = signed s c * ((2 ^ (q + k).toNat : Nat) : Int) * ((2 ^ q.toNat : Nat) : Int) := by ac_rfl
    _ = i * (((2 ^ k : Nat) : Int) * ((2 ^ (-(q + k)).toNat : Nat) : Int) * ((2 ^ q.toNat : Nat) : Int)) := by rw [h]; ac_rfl
    _ = i * (((2 ^ (-q).toNat : Nat) : Int) * ((2 ^ (q + k).toNat : Nat) : Int)) := by
      congr 1
      rw [← Int.natCast_mul, ← Int.natCast_mul, ← Int.natCast_mul, ← Nat.pow_add, ← Nat.pow_add, ← Nat.pow_add]
      congr 2; omega
    _ = i * ((2 ^ (-q).toNat : Nat) : Int) * ((2 ^ (q + k).toNat : Nat) : Int) := by ac_rfl
theorem DQ.of_int {i : Int} {a : UInt64} (k : Nat) (h : DInt i a) : DQ k (i * ((2 ^ k : Nat) : Int)) a := by
  unfold DInt at h
  cases hv : val64 a with
  | nan => rw [hv] at h; exact h.elim
  | inf => rw [hv] at h; exact h.elim
  | fin s c q => rw [hv] at h; exact ⟨s, c, q, hv, whole_up k h⟩
theorem DQ.int {i : Int} {a : UInt64} {k : Nat} (h : DQ k (i * ((2 ^ k : Nat) : Int)) a) : DInt i a := by
  obtain ⟨s, c, q, hv, hw⟩ := h
  unfold DInt
  rw [hv]
  exact whole_down k hw
theorem DQ.ne_nan {k : Nat} {i : Int} {a : UInt64} (h : DQ k i a) : val64 a ≠ .nan := by
  obtain ⟨s, c, q, hv, -⟩ := h
  rw [hv]; exact Datum.noConfusion
theorem nn_of_q {k : Nat} {i : Int} {a : UInt64} (h : DQ k i a) : NoNaN64 a := val64_no.mpr h.ne_nan
/-- a number of up to 53 digits over 2^k is a double -/
theorem q_round {k : Nat} (hk : k ≤ 1022) {s : Bool} {c : Nat} {q i : Int} (h : Whole i (.fin s c (q + k))) (hi : i.natAbs ≤ 2 ^ 53) : ∃ c' q', round b64 (.fin s c q) = .fin s c' q' ∧ Whole i (.fin s c' (q' + k)) := by
  by_cases h0 : i = 0
  · have hc : c = 0 := (whole_zero h).mpr h0
    subst hc h0
    refine ⟨0, b64.qmin, rfl, ?_⟩
    show signed s (0 * _) = 0 * _
    rw [Nat.zero_mul, Int.zero_mul]; exact signed_zero s
  · obtain ⟨c', q', hfit, hv⟩ := natFit good_b64 wide_b64 s (n := i.natAbs) hi
    have hpos : 0 < i.natAbs := Int.natAbs_pos.mpr h0
    have hv' : i.natAbs * 2 ^ (-q').toNat = c' * 2 ^ q'.toNat := by
      rw [show (0 - q').toNat = (-q').toNat by omega, show (q' - 0).toNat = q'.toNat by omega, Nat.mul_one] at hv
      exact hv
    obtain ⟨f1, f2, f3, f4⟩ := hfit
    have f1 : c' < 2 ^ 53 := f1
    have hq : -53 < q' := by
      refine Int.lt_of_not_ge fun hle => ?_
      have e1 : q'.toNat = 0 := by omega
      rw [e1, Nat.pow_zero, Nat.mul_one] at hv'
      have e2 : 2 ^ 53 ≤ 2 ^ (-q').toNat := Nat.pow_le_pow_right (by decide) (by omega)
      have e3 : 2 ^ (-q').toNat ≤ i.natAbs * 2 ^ (-q').toNat := Nat.le_mul_of_pos_left _ hpos
      omega
    have hqm : b64.qmin = -1074 := qmin_b64
    have f5 : b64.tails ≤ c' := by
      rcases f4 with f4 | f4
      · omega
      · exact f4
    have hfit' : FP.Core.fits b64 (.fin s c' (q' - k)) := ⟨f1, by omega, by omega, Or.inr f5⟩
    refine ⟨c', q' - k, ?_, ?_⟩
    · have hn := whole_natAbs h
      refine roundRatio_exact good_b64 (by decide) hfit' ?_
      rw [Nat.mul_one]
      -- c 2^(q+k)+ = |i| 2^(q+k)- and |i| 2^(-q')+ = c' 2^q'+
      have e1 : c * 2 ^ ((q + k).toNat + (-q').toNat) = c' * 1 * 2 ^ ((-(q + k)).toNat + q'.toNat) := by
        rw [Nat.pow_add, Nat.pow_add, ← Nat.mul_assoc, hn, Nat.mul_one]
        calc i.natAbs * 2 ^ (-(q + k)).toNat * 2 ^ (-q').toNat = i.natAbs * 2 ^ (-q').toNat * 2 ^ (-(q + k)).toNat := by ac_rfl
          _ = c' * (2 ^ (-(q + k)).toNat * 2 ^ q'.toNat) := by rw [hv']; ac_rfl
      have e2 := own_pow_cancel (q := q + k) (r := q') (by omega) (by omega) e1
      rw [Nat.mul_one] at e2
      rw [show (q - (q' - (k : Int))).toNat = (q + k - q').toNat by omega, show (q' - (k : Int) - q).toNat = (q' - (q + k)).toNat by omega]
      exact e2
    · rw [show q' - (k : Int) + k = q' by omega]
      show signed s (c' * 2 ^ q'.toNat) = i * ((2 ^ (-q').toNat : Nat) : Int)
      rw [← hv', signed_mul]
      congr 1
      rw [whole_sign h h0]
      unfold signed
      by_cases h : i < 0 <;> simp [h] <;> omega
theorem dadd_q {k : Nat} (hk : k ≤ 1022) {i j : Int} {a b : UInt64} (ha : DQ k i a) (hb : DQ k j b) (h : (i + j).natAbs ≤ 2 ^ 53) : DQ k (i + j) (FP.dadd a b) := by
  obtain ⟨s, c, q, hva, wa⟩ := ha
  obtain ⟨t, d, r, hvb, wb⟩ := hb
  have w := whole_sum wa wb
  have e : exactSum (.fin s c (q + k)) (.fin t d (r + k)) = .fin (sumSign s t (sumUnits s c q t d r (min q r))) (sumUnits s c q t d r (min q r)).natAbs (min q r + k) := by
    have e1 : min (q + k) (r + (k : Int)) = min q r + k := by omega
    have e2 : sumUnits s c (q + k) t d (r + k) (min q r + k) = sumUnits s c q t d r (min q r) := by
      unfold sumUnits inUnits
      rw [show (q + (k : Int) - (min q r + k)).toNat = (q - min q r).toNat by omega, show (r + (k : Int) - (min q r + k)).toNat = (r - min q r).toNat by omega]
    show Datum.fin _ _ _ = _
    rw [e1, e2]
  rw [e] at w
  obtain ⟨c', q', hr, hw⟩ := q_round hk w h
  refine ⟨_, c', q', ?_, hw⟩
  show val64 (dadd a b) = _
  rw [val64_dadd, hva, hvb]
  exact hr
theorem dneg_q {k : Nat} {i : Int} {a : UInt64} (ha : DQ k i a) : DQ k (-i) (FP.dneg a) := by
  obtain ⟨s, c, q, hva, wa⟩ := ha
  exact ⟨!s, c, q, by rw [FP.val64_dneg, hva]; rfl, whole_negate wa⟩
theorem dsub_q {k : Nat} (hk : k ≤ 1022) {i j : Int} {a b : UInt64} (ha : DQ k i a) (hb : DQ k j b) (h : (i - j).natAbs ≤ 2 ^ 53) : DQ k (i - j) (FP.dsub a b) := by
  obtain ⟨t, d, r, hvb, wb⟩ := hb
  have hb' : DQ k (-j) (FP.Core.dneg b) := ⟨!t, d, r, by rw [FP.Core.val64_dneg, hvb]; rfl, whole_negate wb⟩
  rw [show FP.dsub a b = FP.dadd a (FP.Core.dneg b) from dsub_eq a b]
  exact dadd_q hk ha hb' h
theorem dmul_q {k : Nat} (hk : k ≤ 1022) {i j n : Int} {a b : UInt64} (ha : DQ k i a) (hb : DQ k j b) (hn : i * j = n * ((2 ^ k : Nat) : Int)) (h : n.natAbs ≤ 2 ^ 53) : DQ k n (FP.dmul a b) := by
  obtain ⟨s, c, q, hva, wa⟩ := ha
  obtain ⟨t, d, r, hvb, wb⟩ := hb
  have w := whole_product wa wb
  rw [hn] at w
  have w' : Whole n (.fin (s != t) (c * d) (q + r + k)) := by
    refine whole_down k ?_
    rw [show q + r + (k : Int) + k = q + k + (r + k) by omega]
    exact w
  obtain ⟨c', q', hr, hw⟩ := q_round hk w' h
  refine ⟨_, c', q', ?_, hw⟩
  show val64 (dmul a b) = _
  rw [val64_dmul, hva, hvb]
  exact hr
theorem ddiv_q {k : Nat} (hk : k ≤ 1022) {i j n : Int} {a b : UInt64} (ha : DQ k i a) (hb : DQ k j b) (hj : j ≠ 0) (hn : i * ((2 ^ k : Nat) : Int) = n * j) (h : n.natAbs ≤ 2 ^ 53) : DQ k n (FP.ddiv a b) := by
  obtain ⟨s, c, q, hva, wa⟩ := ha
  obtain ⟨t, d, r, hvb, wb⟩ := hb
  have hd : d ≠ 0 := fun q => hj ((whole_zero wb).mp q)
  have h1 := whole_natAbs wa
  have h2 := whole_natAbs wb
  have h3 : i.natAbs * 2 ^ k = n.natAbs * j.natAbs := by
    have := congrArg Int.natAbs hn
    rw [Int.natAbs_mul, Int.natAbs_mul, Int.natAbs_natCast] at this
    exact this
  have w : Whole n (.fin (s != t) n.natAbs (-(k : Int) + k)) := by
    rw [show -(k : Int) + k = 0 by omega]
    show signed (s != t) (n.natAbs * 2 ^ 0) = n * ((2 ^ 0 : Nat) : Int)
    rw [Nat.pow_zero, Nat.mul_one]
    by_cases hn0 : n = 0
    · subst hn0; exact signed_zero _
    · have pk : (0 : Int) < ((2 ^ k : Nat) : Int) := by have := Nat.two_pow_pos k; omega
      have hi : i ≠ 0 := fun hi => by
        rw [hi, Int.zero_mul] at hn
        exact Int.mul_ne_zero hn0 hj hn.symm
      rw [whole_sign wa hi, whole_sign wb hj]
      have si : i < 0 ↔ n * j < 0 := by
        rw [← hn]
        constructor
        · intro q; exact Int.mul_neg_of_neg_of_pos q pk
        · intro q
          refine Int.lt_of_not_ge fun q2 => ?_
          have := Int.mul_nonneg q2 (Int.le_of_lt pk)
          omega
      unfold signed
      rcases Int.lt_or_gt_of_ne hj with q1 | q1 <;> rcases Int.lt_or_gt_of_ne hn0 with q2 | q2
      · have q3 := Int.mul_pos_of_neg_of_neg q2 q1
        simp [q1, show ¬ i < 0 by rw [si]; omega]; omega
      · have q3 := Int.mul_neg_of_pos_of_neg q2 q1
        simp [q1, si.mpr q3]; omega
      · have q3 := Int.mul_neg_of_neg_of_pos q2 q1
        simp [show ¬ j < 0 by omega, si.mpr q3]; omega
      · have q3 := Int.mul_pos q2 q1
        simp [show ¬ j < 0 by omega, show ¬ i < 0 by rw [si]; omega]; omega
  obtain ⟨c', q', hr, hw⟩ := q_round hk w h
  refine ⟨_, c', q', ?_, hw⟩
  show val64 (ddiv a b) = _
  rw [val64_ddiv, hva, hvb, ← hr]
  show (if d = 0 then _ else roundRatio b64 (s != t) c d (q - r)) = roundRatio b64 (s != t) n.natAbs 1 (-(k : Int))
  rw [if_neg hd]
  refine roundRatio_congr (by omega) (by decide) ?_
  rw [Nat.mul_one]
  have e2 : c * 2 ^ (((q + k).toNat + k) + (-(r + k)).toNat) = n.natAbs * d * 2 ^ ((-(q + k)).toNat + (r + k).toNat) := by
    calc c * 2 ^ (((q + k).toNat + k) + (-(r + k)).toNat) = c * 2 ^ (q + k).toNat * 2 ^ k * 2 ^ (-(r + k)).toNat := by rw [Nat.pow_add, Nat.pow_add]; ac_rfl
      _ = i.natAbs * 2 ^ k * 2 ^ (-(q + k)).toNat * 2 ^ (-(r + k)).toNat := by rw [h1]; ac_rfl
      _ = n.natAbs * 2 ^ (-(q + k)).toNat * (j.natAbs * 2 ^ (-(r + k)).toNat) := by rw [h3]; ac_rfl
      _ = n.natAbs * d * (2 ^ (-(q + k)).toNat * 2 ^ (r + k).toNat) := by rw [← h2]; ac_rfl
      _ = _ := by rw [Nat.pow_add]
  have e3 := own_pow_cancel (q := q + k + k) (r := r + k) (q1 := (q + k).toNat + k) (by omega) (by omega) e2
  rw [show (q - r - -(k : Int)).toNat = (q + k + k - (r + k)).toNat by omega, show (-(k : Int) - (q - r)).toNat = (r + k - (q + k + k)).toNat by omega]
  exact e3
theorem dcmp_q {k : Nat} {i j : Int} {a b : UInt64} (ha : DQ k i a) (hb : DQ k j b) : dcmp a b = some (compare i j) := by
  obtain ⟨s, c, q, hva, wa⟩ := ha
  obtain ⟨t, d, r, hvb, wb⟩ := hb
  have w := order_whole wa wb
  show order (val64 a) (val64 b) = _
  rw [hva, hvb, ← w]
  show some (compare _ _) = some (compare _ _)
  have e1 : min (q + k) (r + (k : Int)) = min q r + k := by omega
  rw [e1]
  unfold inUnits
  rw [show (q + (k : Int) - (min q r + k)).toNat = (q - min q r).toNat by omega, show (r + (k : Int) - (min q r + k)).toNat = (r - min q r).toNat by omega]
theorem dcmp_cmpQ {k : Nat} {i j : Int} {a b : UInt64} (ha : DQ k i a) (hb : DQ k j b) (o : CmpOp) : cmpValue (FP.dcmp a b) o = cmpI i j := cmpV_of (dcmp_q ha hb) o
end Dq
end Jvm.OwnKit
namespace Jvm.Pilot.@@N@@
open Jvm Jvm.ClassFile Sem Op Lib Jvm.Free Jvm.Stand Jvm.LawKit Jvm.RoadKit Jvm.OwnKit Bundle Jvm.Pilot.@@N@@.Jvm.D
theorem d1_0 : decode prog_2_method_3_code 0 = .ok (.dload 6, 2) := by decide +kernel
theorem d1_2 : decode prog_2_method_3_code 2 = .ok (.dload_n 0, 1) := by decide +kernel
theorem d1_3 : decode prog_2_method_3_code 3 = .ok (.dsub, 1) := by decide +kernel
theorem d1_4 : decode prog_2_method_3_code 4 = .ok (.dstore 10, 2) := by decide +kernel
theorem d1_6 : decode prog_2_method_3_code 6 = .ok (.dload 8, 2) := by decide +kernel
theorem d1_8 : decode prog_2_method_3_code 8 = .ok (.dload_n 2, 1) := by decide +kernel
theorem d1_9 : decode prog_2_method_3_code 9 = .ok (.dsub, 1) := by decide +kernel
theorem d1_10 : decode prog_2_method_3_code 10 = .ok (.dload 4, 2) := by decide +kernel
theorem d1_12 : decode prog_2_method_3_code 12 = .ok (.dload 10, 2) := by decide +kernel
theorem d1_14 : decode prog_2_method_3_code 14 = .ok (.dmul, 1) := by decide +kernel
theorem d1_15 : decode prog_2_method_3_code 15 = .ok (.dsub, 1) := by decide +kernel
theorem d1_16 : decode prog_2_method_3_code 16 = .ok (.dstore 12, 2) := by decide +kernel
theorem d1_18 : decode prog_2_method_3_code 18 = .ok (.dload_n 0, 1) := by decide +kernel
theorem d1_19 : decode prog_2_method_3_code 19 = .ok (.dload 4, 2) := by decide +kernel
theorem d1_21 : decode prog_2_method_3_code 21 = .ok (.dload 10, 2) := by decide +kernel
theorem d1_23 : decode prog_2_method_3_code 23 = .ok (.dmul, 1) := by decide +kernel
theorem d1_24 : decode prog_2_method_3_code 24 = .ok (.ldc2_w 29, 3) := by decide +kernel
theorem d1_27 : decode prog_2_method_3_code 27 = .ok (.dload 12, 2) := by decide +kernel
theorem d1_29 : decode prog_2_method_3_code 29 = .ok (.dmul, 1) := by decide +kernel
theorem d1_30 : decode prog_2_method_3_code 30 = .ok (.ddiv, 1) := by decide +kernel
theorem d1_31 : decode prog_2_method_3_code 31 = .ok (.dload 10, 2) := by decide +kernel
theorem d1_33 : decode prog_2_method_3_code 33 = .ok (.dmul, 1) := by decide +kernel
theorem d1_34 : decode prog_2_method_3_code 34 = .ok (.dsub, 1) := by decide +kernel
theorem d1_35 : decode prog_2_method_3_code 35 = .ok (.dreturn, 1) := by decide +kernel
theorem pn1 : plainName "com/example/nadir/nadir/linesearch/Interpolation" = true := by first | (simp [plainName, overriddenIn]; done) | decide +kernel
theorem pn0 : plainName x.cls = true := by first | (simp [x, plainName, overriddenIn]; done) | decide +kernel
theorem pd1 : parseMethodDescriptor "(DDDDD)D" = some ⟨[.double, .double, .double, .double, .double], some .double⟩ := by decide +kernel
section Num
open FP.Core
theorem own_dint2 : DInt 2 (4611686018427387904 : UInt64) := by
  unfold DInt
  rw [show val64 4611686018427387904 = .fin false (2 ^ 52) (-51) from by decide +kernel]
  show signed _ _ = _
  decide +kernel
theorem own_div15 {P D n : Int} {a b : UInt64} (ha : DInt P a) (hb : DInt D b) (hD : D ≠ 0) (hn : P * 32768 = n * D) (h : n.natAbs ≤ 2 ^ 53) : DQ 15 n (FP.ddiv a b) := by
  have e : ((2 ^ 15 : Nat) : Int) = 32768 := by decide
  refine ddiv_q (by decide) (DQ.of_int 15 ha) (DQ.of_int 15 hb) ?_ ?_ h
  · rw [e]; omega
  · rw [e, hn]; exact Int.mul_assoc n D 32768
theorem own_mul15 {n H K : Int} {a b : UInt64} (ha : DQ 15 n a) (hb : DInt H b) (hK : n * H = K * 32768) (h : K.natAbs ≤ 274877906944) : DInt K (FP.dmul a b) := by
  have e : ((2 ^ 15 : Nat) : Int) = 32768 := by decide
  refine DQ.int (k := 15) (dmul_q (by decide) ha (DQ.of_int 15 hb) ?_ ?_)
  · rw [e, ← Int.mul_assoc, hK]
  · rw [e]; show _ ≤ 9007199254740992; omega
def own_inf (s : Bool) : UInt64 := if s then 18442240474082181120 else 9218868437227405312
theorem val_inf (s : Bool) : val64 (own_inf s) = .inf s := by cases s <;> decide +kernel
theorem nn_inf (s : Bool) : Jvm.Free.Fl.NoNaN64 (own_inf s) := Jvm.Free.Fl.val64_no.mpr (by rw [val_inf]; exact Datum.noConfusion)
theorem fin_of {i : Int} {a : UInt64} (h : DInt i a) : ∃ s c q, val64 a = .fin s c q ∧ Whole i (.fin s c q) := by
  unfold DInt at h
  cases hv : val64 a with
  | nan => rw [hv] at h; exact h.elim
  | inf => rw [hv] at h; exact h.elim
  | fin s c q => rw [hv] at h; exact ⟨s, c, q, rfl, h⟩
theorem own_self {i : Int} {a : UInt64} (h : DInt i a) : FP.dsub a a = 0 := by
  obtain ⟨s, c, q, hv, -⟩ := fin_of h
  have e : val64 (FP.dsub a a) = val64 0 := by
    show val64 (FP.Core.dsub a a) = _
    rw [val64_dsub, hv, val64_zero]
    show round b64 (.fin (sumSign s (!s) (sumUnits s c q (!s) c q (min q q))) (sumUnits s c q (!s) c q (min q q)).natAbs (min q q)) = _
    have e1 : sumUnits s c q (!s) c q (min q q) = 0 := by
      unfold sumUnits
      cases s <;> simp [signed] <;> omega
    rw [e1]
    unfold sumSign
    rw [if_pos rfl]
    cases s <;> rfl
  exact val64_inj (by rw [e, val64_zero]; exact Datum.noConfusion) e
theorem own_div0 {P : Int} {a : UInt64} (h : DInt P a) (hP : P ≠ 0) : FP.ddiv a 0 = own_inf (decide (P < 0)) := by
  obtain ⟨s, c, q, hv, hw⟩ := fin_of h
  have hc : c ≠ 0 := fun z => hP ((whole_zero hw).mp z)
  have e : val64 (FP.ddiv a 0) = val64 (own_inf (decide (P < 0))) := by
    show val64 (FP.Core.ddiv a 0) = _
    rw [val64_ddiv, hv, val64_zero, val_inf, ← whole_sign hw hP]
    show (if (0 : Nat) = 0 then (if c = 0 then Datum.nan else .inf (s != false)) else roundRatio b64 (s != false) c 0 (q - b64.qmin)) = _
    rw [if_pos rfl, if_neg hc]
    cases s <;> rfl
  exact val64_inj (by rw [e, val_inf]; exact Datum.noConfusion) e
theorem own_infmul {H : Int} {b : UInt64} (s : Bool) (h : DInt H b) (hH : H ≠ 0) : FP.dmul (own_inf s) b = own_inf (s != decide (H < 0)) := by
  obtain ⟨t, d, r, hv, hw⟩ := fin_of h
  have hd : d ≠ 0 := fun z => hH ((whole_zero hw).mp z)
  have e : val64 (FP.dmul (own_inf s) b) = val64 (own_inf (s != decide (H < 0))) := by
    show val64 (FP.Core.dmul (own_inf s) b) = _
    rw [val64_dmul, hv, val_inf, val_inf, ← whole_sign hw hH]
    show round b64 (if d = 0 then Datum.nan else .inf (s != t)) = _
    rw [if_neg hd]
    rfl
  exact val64_inj (by rw [e, val_inf]; exact Datum.noConfusion) e
theorem own_subinf {A : Int} {a : UInt64} (s : Bool) (h : DInt A a) : FP.dsub a (own_inf s) = own_inf (!s) := by
  obtain ⟨t, d, r, hv, hw⟩ := fin_of h
  have e : val64 (FP.dsub a (own_inf s)) = val64 (own_inf (!s)) := by
    show val64 (FP.Core.dsub a (own_inf s)) = _
    rw [val64_dsub, hv, val_inf, val_inf]
    rfl
  exact val64_inj (by rw [e, val_inf]; exact Datum.noConfusion) e
theorem own_signs {S H : Int} (hS : S ≠ 0) (hH : H ≠ 0) : (decide (S * H < 0) != decide (H < 0)) = decide (S < 0) := by
  rcases Int.lt_or_gt_of_ne hS with q1 | q1 <;> rcases Int.lt_or_gt_of_ne hH with q2 | q2
  · have := Int.mul_pos_of_neg_of_neg q1 q2
    simp [q1, q2, show ¬ S * H < 0 by omega]
  · have := Int.mul_neg_of_neg_of_pos q1 q2
    simp [q1, this, show ¬ H < 0 by omega]
  · have := Int.mul_neg_of_pos_of_neg q1 q2
    simp [q2, this, show ¬ S < 0 by omega]
  · have := Int.mul_pos q1 q2
    simp [show ¬ S < 0 by omega, show ¬ H < 0 by omega, show ¬ S * H < 0 by omega]
end Num
theorem own_m {x y X Y : Int} (h1 : -X ≤ x) (h2 : x ≤ X) (h3 : -Y ≤ y) (h4 : y ≤ Y) : -(X * Y) ≤ x * y ∧ x * y ≤ X * Y := by
  have q := mc h1 h2 h3 h4
  have q1 := Int.mul_le_mul_of_nonneg_left h4 (show 0 ≤ X + x by omega)
  have q2 := Int.mul_le_mul_of_nonneg_left h4 (show 0 ≤ X - x by omega)
  have q3 := Int.mul_le_mul_of_nonneg_left h3 (show 0 ≤ X + x by omega)
  have q4 := Int.mul_le_mul_of_nonneg_left h3 (show 0 ≤ X - x by omega)
  simp only [Int.add_mul, Int.sub_mul, Int.mul_neg] at q1 q2 q3 q4
  omega
theorem ef1 (m : MethodId) (x0 x1 x2 x3 x4 : UInt64) : entryFrame m #[(.double x0), (.double x1), (.double x2), (.double x3), (.double x4)] 14 = mkF m 0 #[.val (.double x0), .second, .val (.double x1), .second, .val (.double x2), .second, .val (.double x3), .second, .val (.double x4), .second, .unset, .unset, .unset, .unset] [] := by first | (simp [entryFrame, mkF, argsToLocals, Value.category, maxLocals]; done) | rfl
theorem ef0 (m : MethodId) (x0 x1 x2 x3 x4 x5 : Int32) : entryFrame m #[(.int x0), (.int x1), (.int x2), (.int x3), (.int x4), (.int x5)] maxLocals = mkF m 0 #[.val (.int x0), .val (.int x1), .val (.int x2), .val (.int x3), .val (.int x4), .val (.int x5), .unset, .unset, .unset, .unset, .unset, .unset, .unset, .unset, .unset, .unset, .unset, .unset, .unset, .unset, .unset, .unset, .unset, .unset, .unset, .unset, .unset] [] := by first | (simp [entryFrame, mkF, argsToLocals, Value.category, maxLocals]; done) | rfl
set_option maxRecDepth 65536 in
set_option maxHeartbeats 40000000 in
theorem c_par (l : Launch) (Z : State) (a0 : Array Value) (hw : ∀ d ∈ tables_1, d.before a0 Z = true) (h : Heap) (x0 x1 x2 x3 x4 : UInt64) (A FA DA B FB n M : Int) (h0 : FP.Core.DInt A x0) (h1 : FP.Core.DInt FA x1) (h2 : FP.Core.DInt DA x2) (h3 : FP.Core.DInt B x3) (h4 : FP.Core.DInt FB x4)
    (b1 : (B - A).natAbs ≤ 2 ^ 53) (b2 : (FB - FA).natAbs ≤ 2 ^ 53) (b3 : (DA * (B - A)).natAbs ≤ 2 ^ 53) (b4 : (FB - FA - DA * (B - A)).natAbs ≤ 2 ^ 53) (b5 : (2 * (FB - FA - DA * (B - A))).natAbs ≤ 2 ^ 53) (hD : 2 * (FB - FA - DA * (B - A)) ≠ 0) (hn : DA * (B - A) * 32768 = n * (2 * (FB - FA - DA * (B - A)))) (bn : n.natAbs ≤ 2 ^ 53) (hK : n * (B - A) = (A - M) * 32768) (bK : (A - M).natAbs ≤ 274877906944) (bM : M.natAbs ≤ 2 ^ 53) :
    Con l Z (⟨"com/example/nadir/nadir/linesearch/Interpolation", "quadraticMinimizer", "(DDDDD)D"⟩ : MethodName) prog_2_method_3_code 14 (some .double) ⟨0, 0, 0, 0⟩ #[.double x0, .double x1, .double x2, .double x3, .double x4] h (fun v h' L => ∃ r, v = some (.double r) ∧ FP.Core.DInt M r ∧ L = [] ∧ h' = h) := by
  refine con_of_go pn1 (fun m => ef1 m x0 x1 x2 x3 x4) ?_
  intro p e s m below meth c T0 C X0 e0
  refine g_dload C X0 (pc' := 2) d1_0 rfl rfl ?_
  refine g_dloadN C X0 (pc' := 3) d1_2 rfl rfl ?_
  have D1 : FP.Core.DInt (B - A) (FP.dsub x3 x0) := dsub_D h3 h0 b1
  refine g_dsub C X0 (pc' := 4) d1_3 (nn_of_int D1) rfl ?_
  obtain ⟨d2, e_d2⟩ : ∃ z : UInt64, z = FP.dsub x3 x0 := ⟨_, rfl⟩
  have D_d2 : FP.Core.DInt (B - A) d2 := e_d2 ▸ D1
  refine g_dstore C X0 (pc' := 6) d1_4 (x := d2) e_d2 (l' := #[.val (.double x0), .second, .val (.double x1), .second, .val (.double x2), .second, .val (.double x3), .second, .val (.double x4), .second, .val (.double d2), .second, .unset, .unset]) rfl rfl ?_
  refine g_dload C X0 (pc' := 8) d1_6 rfl rfl ?_
  refine g_dloadN C X0 (pc' := 9) d1_8 rfl rfl ?_
  have D3 : FP.Core.DInt (FB - FA) (FP.dsub x4 x1) := dsub_D h4 h1 b2
  refine g_dsub C X0 (pc' := 10) d1_9 (nn_of_int D3) rfl ?_
  refine g_dload C X0 (pc' := 12) d1_10 rfl rfl ?_
  refine g_dload C X0 (pc' := 14) d1_12 rfl rfl ?_
  have D4 : FP.Core.DInt (DA * (B - A)) (FP.dmul x2 d2) := dmul_D h2 D_d2 b3
  refine g_dmul C X0 (pc' := 15) d1_14 (nn_of_int D4) rfl ?_
  have D5 : FP.Core.DInt ((FB - FA) - (DA * (B - A))) (FP.dsub (FP.dsub x4 x1) (FP.dmul x2 d2)) := dsub_D D3 D4 b4
  refine g_dsub C X0 (pc' := 16) d1_15 (nn_of_int D5) rfl ?_
  obtain ⟨d6, e_d6⟩ : ∃ z : UInt64, z = FP.dsub (FP.dsub x4 x1) (FP.dmul x2 d2) := ⟨_, rfl⟩
  have D_d6 : FP.Core.DInt ((FB - FA) - (DA * (B - A))) d6 := e_d6 ▸ D5
  refine g_dstore C X0 (pc' := 18) d1_16 (x := d6) e_d6 (l' := #[.val (.double x0), .second, .val (.double x1), .second, .val (.double x2), .second, .val (.double x3), .second, .val (.double x4), .second, .val (.double d2), .second, .val (.double d6), .second]) rfl rfl ?_
  refine g_dloadN C X0 (pc' := 19) d1_18 rfl rfl ?_
  refine g_dload C X0 (pc' := 21) d1_19 rfl rfl ?_
  refine g_dload C X0 (pc' := 23) d1_21 rfl rfl ?_
  have D7 : FP.Core.DInt (DA * (B - A)) (FP.dmul x2 d2) := dmul_D h2 D_d2 b3
  refine g_dmul C X0 (pc' := 24) d1_23 (nn_of_int D7) rfl ?_
  refine g_ldc2D C X0 (pc' := 27) (hw _ (List.mem_of_getElem? (i := 4) rfl)) d1_24 rfl ?_
  refine g_dload C X0 (pc' := 29) d1_27 rfl rfl ?_
  have D8 : FP.Core.DInt (2 * ((FB - FA) - (DA * (B - A)))) (FP.dmul (4611686018427387904 : UInt64) d6) := dmul_D own_dint2 D_d6 b5
  refine g_dmul C X0 (pc' := 30) d1_29 (nn_of_int D8) rfl ?_
  have Q30 : DQ 15 n (FP.ddiv (FP.dmul x2 d2) (FP.dmul (4611686018427387904 : UInt64) d6)) := own_div15 D7 D8 hD hn bn
  refine g_ddiv C X0 (pc' := 31) d1_30 (nn_of_q Q30) rfl ?_
  refine g_dload C X0 (pc' := 33) d1_31 rfl rfl ?_
  have D9 : FP.Core.DInt (A - M) (FP.dmul (FP.ddiv (FP.dmul x2 d2) (FP.dmul (4611686018427387904 : UInt64) d6)) d2) := own_mul15 Q30 D_d2 hK bK
  refine g_dmul C X0 (pc' := 34) d1_33 (nn_of_int D9) rfl ?_
  have D10 : FP.Core.DInt (A - (A - M)) (FP.dsub x0 (FP.dmul (FP.ddiv (FP.dmul x2 d2) (FP.dmul (4611686018427387904 : UInt64) d6)) d2)) := dsub_D h0 D9 (by rw [show A - (A - M) = M by omega]; exact bM)
  refine g_dsub C X0 (pc' := 35) d1_34 (nn_of_int D10) rfl ?_
  exact g_dreturn C X0 d1_35 ⟨_, rfl, by have q := D10; rw [show A - (A - M) = M by omega] at q; exact q, rfl, e0⟩ (by decide) (by decide)
theorem own_nn0 : Jvm.Free.Fl.NoNaN64 (0 : UInt64) := by unfold Jvm.Free.Fl.NoNaN64; decide
set_option maxRecDepth 65536 in
set_option maxHeartbeats 40000000 in
theorem c_line (l : Launch) (Z : State) (a0 : Array Value) (hw : ∀ d ∈ tables_1, d.before a0 Z = true) (h : Heap) (x0 x1 x2 x3 x4 : UInt64) (A FA DA B FB : Int) (h0 : FP.Core.DInt A x0) (h1 : FP.Core.DInt FA x1) (h2 : FP.Core.DInt DA x2) (h3 : FP.Core.DInt B x3) (h4 : FP.Core.DInt FB x4)
    (b1 : (B - A).natAbs ≤ 2 ^ 53) (b2 : (FB - FA).natAbs ≤ 2 ^ 53) (b3 : (DA * (B - A)).natAbs ≤ 2 ^ 53) (hF : FB - FA = DA * (B - A)) (hS : DA ≠ 0) (hH : B - A ≠ 0) (hP : DA * (B - A) ≠ 0) :
    Con l Z (⟨"com/example/nadir/nadir/linesearch/Interpolation", "quadraticMinimizer", "(DDDDD)D"⟩ : MethodName) prog_2_method_3_code 14 (some .double) ⟨0, 0, 0, 0⟩ #[.double x0, .double x1, .double x2, .double x3, .double x4] h (fun v h' L => v = some (.double (own_inf (!decide (DA < 0)))) ∧ L = [] ∧ h' = h) := by
  refine con_of_go pn1 (fun m => ef1 m x0 x1 x2 x3 x4) ?_
  intro p e s m below meth c T0 C X0 e0
  refine g_dload C X0 (pc' := 2) d1_0 rfl rfl ?_
  refine g_dloadN C X0 (pc' := 3) d1_2 rfl rfl ?_
  have D1 : FP.Core.DInt (B - A) (FP.dsub x3 x0) := dsub_D h3 h0 b1
  refine g_dsub C X0 (pc' := 4) d1_3 (nn_of_int D1) rfl ?_
  obtain ⟨d2, e_d2⟩ : ∃ z : UInt64, z = FP.dsub x3 x0 := ⟨_, rfl⟩
  have D_d2 : FP.Core.DInt (B - A) d2 := e_d2 ▸ D1
  refine g_dstore C X0 (pc' := 6) d1_4 (x := d2) e_d2 (l' := #[.val (.double x0), .second, .val (.double x1), .second, .val (.double x2), .second, .val (.double x3), .second, .val (.double x4), .second, .val (.double d2), .second, .unset, .unset]) rfl rfl ?_
  refine g_dload C X0 (pc' := 8) d1_6 rfl rfl ?_
  refine g_dloadN C X0 (pc' := 9) d1_8 rfl rfl ?_
  have D3 : FP.Core.DInt (FB - FA) (FP.dsub x4 x1) := dsub_D h4 h1 b2
  refine g_dsub C X0 (pc' := 10) d1_9 (nn_of_int D3) rfl ?_
  refine g_dload C X0 (pc' := 12) d1_10 rfl rfl ?_
  refine g_dload C X0 (pc' := 14) d1_12 rfl rfl ?_
  have D4 : FP.Core.DInt (DA * (B - A)) (FP.dmul x2 d2) := dmul_D h2 D_d2 b3
  refine g_dmul C X0 (pc' := 15) d1_14 (nn_of_int D4) rfl ?_
  have z15 : FP.dsub (FP.dsub x4 x1) (FP.dmul x2 d2) = (0 : UInt64) := (FP.Core.dint_unique hP (hF ▸ D3) D4) ▸ own_self D3
  refine g_dsub C X0 d1_15 (by rw [z15]; exact own_nn0) rfl ?_
  rw [z15]
  refine g_dstore C X0 (pc' := 18) d1_16 (x := (0 : UInt64)) rfl (l' := #[.val (.double x0), .second, .val (.double x1), .second, .val (.double x2), .second, .val (.double x3), .second, .val (.double x4), .second, .val (.double d2), .second, .val (.double (0 : UInt64)), .second]) rfl rfl ?_
  refine g_dloadN C X0 (pc' := 19) d1_18 rfl rfl ?_
  refine g_dload C X0 (pc' := 21) d1_19 rfl rfl ?_
  refine g_dload C X0 (pc' := 23) d1_21 rfl rfl ?_
  have D5 : FP.Core.DInt (DA * (B - A)) (FP.dmul x2 d2) := dmul_D h2 D_d2 b3
  refine g_dmul C X0 (pc' := 24) d1_23 (nn_of_int D5) rfl ?_
  refine g_ldc2D C X0 (pc' := 27) (hw _ (List.mem_of_getElem? (i := 4) rfl)) d1_24 rfl ?_
  refine g_dload C X0 (pc' := 29) d1_27 rfl rfl ?_
  have z29 : FP.dmul (4611686018427387904 : UInt64) (0 : UInt64) = (0 : UInt64) := by decide +kernel
  refine g_dmul C X0 d1_29 (by rw [z29]; exact own_nn0) rfl ?_
  rw [z29]
  have z30 : FP.ddiv (FP.dmul x2 d2) (0 : UInt64) = own_inf (decide (DA * (B - A) < 0)) := own_div0 D5 hP
  refine g_ddiv C X0 d1_30 (by rw [z30]; exact nn_inf _) rfl ?_
  rw [z30]
  refine g_dload C X0 (pc' := 33) d1_31 rfl rfl ?_
  have z33 : FP.dmul (own_inf (decide (DA * (B - A) < 0))) d2 = own_inf (decide (DA < 0)) := by rw [own_infmul _ D_d2 hH, own_signs hS hH]
  refine g_dmul C X0 d1_33 (by rw [z33]; exact nn_inf _) rfl ?_
  rw [z33]
  have z34 : FP.dsub x0 (own_inf (decide (DA < 0))) = own_inf (!decide (DA < 0)) := own_subinf _ h0
  refine g_dsub C X0 d1_34 (by rw [z34]; exact nn_inf _) rfl ?_
  rw [z34]
  exact g_dreturn C X0 d1_35 ⟨rfl, rfl, e0⟩ (by decide) (by decide)
theorem own_16 (x : Int32) : -32768 ≤ ((x <<< ((16 : Int32) &&& 31)) >>> ((16 : Int32) &&& 31)).toInt64.toInt ∧ ((x <<< ((16 : Int32) &&& 31)) >>> ((16 : Int32) &&& 31)).toInt64.toInt ≤ 32767 := by
  have h1 := c_ishr (x <<< ((16 : Int32) &&& 31)) 16 16 (by decide)
  have h2 := rng32 (x <<< ((16 : Int32) &&& 31))
  rw [c_i2l, h1]
  omega
theorem own_h0 : ∀ k : Fin 16, ∃ g ∈ [1, 2, 4, 8, 16, 32, 64, 128, 256, 512, 1024, 2048, 4096, 8192, 16384, (32768 : Int)], ((1 : Int64) <<< ((Int32.ofNat k.1).toInt64 &&& 63)).toInt * g = 32768 ∧ 1 ≤ ((1 : Int64) <<< ((Int32.ofNat k.1).toInt64 &&& 63)).toInt ∧ ((1 : Int64) <<< ((Int32.ofNat k.1).toInt64 &&& 63)).toInt ≤ 32768 ∧ 1 ≤ g ∧ g ≤ 32768 := by decide +kernel
theorem own_h (x : Int32) : ∃ g : Int, ((1 : Int64) <<< ((x &&& 15).toInt64 &&& 63)).toInt * g = 32768 ∧ 1 ≤ ((1 : Int64) <<< ((x &&& 15).toInt64 &&& 63)).toInt ∧ ((1 : Int64) <<< ((x &&& 15).toInt64 &&& 63)).toInt ≤ 32768 ∧ 1 ≤ g ∧ g ≤ 32768 := by
  have h1 := c_and x 15 (by decide)
  have h2 : (15 : Int32).toInt = 15 := by decide
  obtain ⟨g, -, hg⟩ := own_h0 ⟨(x &&& 15).toInt.toNat, by omega⟩
  have e : Int32.ofNat (x &&& 15).toInt.toNat = x &&& 15 := by
    rw [← Int32.toInt_inj, Int32.toInt_ofNat_of_lt (by omega)]
    omega
  dsimp only at hg
  rw [e] at hg
  exact ⟨g, hg⟩
theorem own_k (x : Int32) : 1 ≤ ((x &&& 255) + 1).toInt64.toInt ∧ ((x &&& 255) + 1).toInt64.toInt ≤ 256 := by
  have h1 := c_and x 255 (by decide)
  have h2 := c_iadd (x &&& 255) 1
  have h3 := rng32 ((x &&& 255) + 1)
  have h4 : (255 : Int32).toInt = 255 := by decide
  have h5 : (1 : Int32).toInt = 1 := by decide
  rw [c_i2l]
  omega
theorem own_add {x y : Int64} (h1 : -9223372036854775808 ≤ x.toInt + y.toInt) (h2 : x.toInt + y.toInt < 9223372036854775808) : (x + y).toInt = x.toInt + y.toInt := FP.Core.int64_add h1 h2
theorem own_sub {x y : Int64} (h1 : -9223372036854775808 ≤ x.toInt - y.toInt) (h2 : x.toInt - y.toInt < 9223372036854775808) : (x - y).toInt = x.toInt - y.toInt := FP.Core.int64_sub h1 h2
theorem own_mul {x y : Int64} (h1 : -9223372036854775808 ≤ x.toInt * y.toInt) (h2 : x.toInt * y.toInt < 9223372036854775808) : (x * y).toInt = x.toInt * y.toInt := FP.Core.int64_mul h1 h2
theorem own_neg {x : Int64} (h1 : -9223372036854775808 < x.toInt) : (-x).toInt = -x.toInt := FP.Core.int64_neg h1
theorem own_poly {k a m c : Int64} (hk : -256 ≤ k.toInt ∧ k.toInt ≤ 256) (ha : -65536 ≤ a.toInt ∧ a.toInt ≤ 65536) (hm : -32768 ≤ m.toInt ∧ m.toInt ≤ 32767) (hc : -2147483648 ≤ c.toInt ∧ c.toInt < 2147483648) :
    (k * (a - m) * (a - m) + c).toInt = k.toInt * (a.toInt - m.toInt) * (a.toInt - m.toInt) + c.toInt ∧ -2475881660416 ≤ k.toInt * (a.toInt - m.toInt) * (a.toInt - m.toInt) ∧ k.toInt * (a.toInt - m.toInt) * (a.toInt - m.toInt) ≤ 2475881660416 := by
  have e1 := own_sub (x := a) (y := m) (by omega) (by omega)
  have q1 := own_m (X := 256) (Y := 98304) hk.1 hk.2 (show -98304 ≤ (a - m).toInt by omega) (show (a - m).toInt ≤ 98304 by omega)
  have e2 := own_mul (x := k) (y := a - m) (by omega) (by omega)
  have q2 := own_m (X := 25165824) (Y := 98304) (show -25165824 ≤ (k * (a - m)).toInt by omega) (show (k * (a - m)).toInt ≤ 25165824 by omega) (show -98304 ≤ (a - m).toInt by omega) (show (a - m).toInt ≤ 98304 by omega)
  have e3 := own_mul (x := k * (a - m)) (y := a - m) (by omega) (by omega)
  have e4 := own_add (x := k * (a - m) * (a - m)) (y := c) (by omega) (by omega)
  rw [e3, e2, e1] at e4
  rw [e2, e1] at q2
  exact ⟨e4, by omega, by omega⟩
theorem own_lin {k a m : Int64} (hk : -256 ≤ k.toInt ∧ k.toInt ≤ 256) (ha : -32768 ≤ a.toInt ∧ a.toInt ≤ 32767) (hm : -32768 ≤ m.toInt ∧ m.toInt ≤ 32767) :
    ((2 : Int64) * k * (a - m)).toInt = 2 * k.toInt * (a.toInt - m.toInt) := by
  have e1 := own_sub (x := a) (y := m) (by omega) (by omega)
  have h2 : (2 : Int64).toInt = 2 := by decide
  have e0 := own_mul (x := 2) (y := k) (by rw [h2]; omega) (by rw [h2]; omega)
  rw [h2] at e0
  have q1 := own_m (X := 512) (Y := 65536) (show -512 ≤ ((2 : Int64) * k).toInt by omega) (show ((2 : Int64) * k).toInt ≤ 512 by omega) (show -65536 ≤ (a - m).toInt by omega) (show (a - m).toInt ≤ 65536 by omega)
  have e2 := own_mul (x := 2 * k) (y := a - m) (by omega) (by omega)
  rw [e0, e1] at e2
  exact e2
theorem own_alg1 (K A M C H : Int) : K * (A + H - M) * (A + H - M) + C - (K * (A - M) * (A - M) + C) - 2 * K * (A - M) * H = K * H * H := by grind
theorem own_alg2 (K A M H G : Int) (h : H * G = 32768) : 2 * K * (A - M) * H * 32768 = (A - M) * G * (2 * (K * H * H)) := by
  rw [← h]; grind
theorem own_alg3 (A M H G : Int) (h : H * G = 32768) : (A - M) * G * H = (A - M) * 32768 := by rw [← h]; grind
set_option maxRecDepth 65536 in
set_option maxHeartbeats 40000000 in
theorem law (l : Launch) (Z : State) (a0 : Array Value) (hw : ∀ d ∈ tables_1, d.before a0 Z = true) (p0 p1 p2 p3 p4 p5 : Int32) (h : Heap) (n0 : Nat) (Z0 : n0 ≤ h.size) :
    Con l Z x code maxLocals ret room_1 #[.int p0, .int p1, .int p2, .int p3, .int p4, .int p5] h (fun v _ L => v = some (.int 1) ∧ Fr n0 L) := by
  refine con_of_go pn0 (fun m => ef0 m p0 p1 p2 p3 p4 p5) ?_
  intro p e s m below meth c T0 C X0 e0
  refine g_iloadN C X0 (pc' := 1) at_0 rfl rfl ?_
  refine g_bipush C X0 (pc' := 3) at_1 (v := (16 : Int32)) (by decide) rfl ?_
  refine g_ishl C X0 (pc' := 4) at_3 rfl ?_
  refine g_bipush C X0 (pc' := 6) at_4 (v := (16 : Int32)) (by decide) rfl ?_
  refine g_ishr C X0 (pc' := 7) at_6 rfl ?_
  refine g_i2l C X0 (pc' := 8) at_7 rfl ?_
  obtain ⟨j1, e_j1⟩ : ∃ z : Int64, z = ((p0 <<< ((16 : Int32) &&& 31)) >>> ((16 : Int32) &&& 31)).toInt64 := ⟨_, rfl⟩
  refine g_lstore C X0 (pc' := 10) at_8 (x := j1) e_j1 (l' := #[.val (.int p0), .val (.int p1), .val (.int p2), .val (.int p3), .val (.int p4), .val (.int p5), .val (.long j1), .second, .unset, .unset, .unset, .unset, .unset, .unset, .unset, .unset, .unset, .unset, .unset, .unset, .unset, .unset, .unset, .unset, .unset, .unset, .unset]) rfl rfl ?_
  have ba := own_16 p0
  rw [← e_j1] at ba
  refine g_iloadN C X0 (pc' := 11) at_10 rfl rfl ?_
  refine g_bipush C X0 (pc' := 13) at_11 (v := (16 : Int32)) (by decide) rfl ?_
  refine g_ishl C X0 (pc' := 14) at_13 rfl ?_
  refine g_bipush C X0 (pc' := 16) at_14 (v := (16 : Int32)) (by decide) rfl ?_
  refine g_ishr C X0 (pc' := 17) at_16 rfl ?_
  refine g_i2l C X0 (pc' := 18) at_17 rfl ?_
  obtain ⟨j2, e_j2⟩ : ∃ z : Int64, z = ((p1 <<< ((16 : Int32) &&& 31)) >>> ((16 : Int32) &&& 31)).toInt64 := ⟨_, rfl⟩
  refine g_lstore C X0 (pc' := 20) at_18 (x := j2) e_j2 (l' := #[.val (.int p0), .val (.int p1), .val (.int p2), .val (.int p3), .val (.int p4), .val (.int p5), .val (.long j1), .second, .val (.long j2), .second, .unset, .unset, .unset, .unset, .unset, .unset, .unset, .unset, .unset, .unset, .unset, .unset, .unset, .unset, .unset, .unset, .unset]) rfl rfl ?_
  have bm := own_16 p1
  rw [← e_j2] at bm
  refine g_lconst C X0 (pc' := 21) at_20 (v := (1 : Int64)) (by decide) rfl ?_
  refine g_iloadN C X0 (pc' := 22) at_21 rfl rfl ?_
  refine g_bipush C X0 (pc' := 24) at_22 (v := (15 : Int32)) (by decide) rfl ?_
  refine g_iand C X0 (pc' := 25) at_24 rfl ?_
  refine g_lshl C X0 (pc' := 26) at_25 rfl ?_
  obtain ⟨j3, e_j3⟩ : ∃ z : Int64, z = (1 : Int64) <<< ((p3 &&& (15 : Int32)).toInt64 &&& 63) := ⟨_, rfl⟩
  refine g_lstore C X0 (pc' := 28) at_26 (x := j3) e_j3 (l' := #[.val (.int p0), .val (.int p1), .val (.int p2), .val (.int p3), .val (.int p4), .val (.int p5), .val (.long j1), .second, .val (.long j2), .second, .val (.long j3), .second, .unset, .unset, .unset, .unset, .unset, .unset, .unset, .unset, .unset, .unset, .unset, .unset, .unset, .unset, .unset]) rfl rfl ?_
  obtain ⟨g, hg, bh1, bh2, bg1, bg2⟩ := own_h p3
  rw [← e_j3] at hg bh1 bh2
  refine g_iloadN C X0 (pc' := 29) at_28 rfl rfl ?_
  refine g_bipush C X0 (pc' := 31) at_29 (v := (16 : Int32)) (by decide) rfl ?_
  refine g_iand C X0 (pc' := 32) at_31 rfl ?_
  refine g_if C X0 at_32 (pc' := 40) (pc'' := 35) (by decide) (by decide) rfl (fun c32 => ?_) (fun c32 => ?_)
  · have c32 : (p3 &&& (16 : Int32)).toInt = 0 := c32
    obtain ⟨G, hG, bG1, bG2⟩ : ∃ G : Int, j3.toInt * G = 32768 ∧ -32768 ≤ G ∧ G ≤ 32768 := ⟨g, hg, by omega, by omega⟩
    have bH : -32768 ≤ j3.toInt ∧ j3.toInt ≤ 32768 ∧ j3.toInt ≠ 0 := by omega
    refine g_lload C X0 (pc' := 42) at_40 rfl rfl ?_
    refine g_lload C X0 (pc' := 44) at_42 rfl rfl ?_
    refine g_ladd C X0 (pc' := 45) at_44 rfl ?_
    obtain ⟨j4, e_j4⟩ : ∃ z : Int64, z = j1 + j3 := ⟨_, rfl⟩
    refine g_lstore C X0 (pc' := 47) at_45 (x := j4) e_j4 (l' := #[.val (.int p0), .val (.int p1), .val (.int p2), .val (.int p3), .val (.int p4), .val (.int p5), .val (.long j1), .second, .val (.long j2), .second, .val (.long j3), .second, .val (.long j4), .second, .unset, .unset, .unset, .unset, .unset, .unset, .unset, .unset, .unset, .unset, .unset, .unset, .unset]) rfl rfl ?_
    have eB : j4.toInt = j1.toInt + j3.toInt := by rw [e_j4]; exact own_add (by omega) (by omega)
    refine g_iload C X0 (pc' := 49) at_47 rfl rfl ?_
    refine g_i2l C X0 (pc' := 50) at_49 rfl ?_
    obtain ⟨j5, e_j5⟩ : ∃ z : Int64, z = p4.toInt64 := ⟨_, rfl⟩
    refine g_lstore C X0 (pc' := 52) at_50 (x := j5) e_j5 (l' := #[.val (.int p0), .val (.int p1), .val (.int p2), .val (.int p3), .val (.int p4), .val (.int p5), .val (.long j1), .second, .val (.long j2), .second, .val (.long j3), .second, .val (.long j4), .second, .val (.long j5), .second, .unset, .unset, .unset, .unset, .unset, .unset, .unset, .unset, .unset, .unset, .unset]) rfl rfl ?_
    have bC : -2147483648 ≤ j5.toInt ∧ j5.toInt < 2147483648 := by rw [e_j5, c_i2l]; exact rng32 p4
    refine g_iloadN C X0 (pc' := 53) at_52 rfl rfl ?_
    refine g_bipush C X0 (pc' := 55) at_53 (v := (9 : Int32)) (by decide) rfl ?_
    refine g_ishr C X0 (pc' := 56) at_55 rfl ?_
    refine g_iconst C X0 (pc' := 57) at_56 (v := (3 : Int32)) (by decide) rfl ?_
    refine g_iand C X0 (pc' := 58) at_57 rfl ?_
    refine g_if C X0 at_58 (pc' := 65) (pc'' := 61) (by decide) (by decide) rfl (fun c58 => ?_) (fun c58 => ?_)
    · have c58 : ¬ (((p2 >>> ((9 : Int32) &&& 31)) &&& (3 : Int32)).toInt = 0) := c58
      refine g_iconst C X0 (pc' := 66) at_65 (v := (0 : Int32)) (by decide) rfl ?_
      refine g_istore C X0 (pc' := 68) at_66 (x := (0 : Int32)) rfl (l' := #[.val (.int p0), .val (.int p1), .val (.int p2), .val (.int p3), .val (.int p4), .val (.int p5), .val (.long j1), .second, .val (.long j2), .second, .val (.long j3), .second, .val (.long j4), .second, .val (.long j5), .second, .val (.int (0 : Int32)), .unset, .unset, .unset, .unset, .unset, .unset, .unset, .unset, .unset, .unset]) rfl rfl ?_
      refine g_iload C X0 (pc' := 70) at_68 rfl rfl ?_
      refine g_ifY C X0 at_70 (pc' := 183) (by decide) (by decide) (by decide) ?_
      refine g_iloadN C X0 (pc' := 184) at_183 rfl rfl ?_
      refine g_sipush C X0 (pc' := 187) at_184 (v := (255 : Int32)) (by decide) rfl ?_
      refine g_iand C X0 (pc' := 188) at_187 rfl ?_
      refine g_iconst C X0 (pc' := 189) at_188 (v := (1 : Int32)) (by decide) rfl ?_
      refine g_iadd C X0 (pc' := 190) at_189 rfl ?_
      refine g_i2l C X0 (pc' := 191) at_190 rfl ?_
      obtain ⟨j6, e_j6⟩ : ∃ z : Int64, z = ((p2 &&& (255 : Int32)) + (1 : Int32)).toInt64 := ⟨_, rfl⟩
      refine g_lstore C X0 (pc' := 193) at_191 (x := j6) e_j6 (l' := #[.val (.int p0), .val (.int p1), .val (.int p2), .val (.int p3), .val (.int p4), .val (.int p5), .val (.long j1), .second, .val (.long j2), .second, .val (.long j3), .second, .val (.long j4), .second, .val (.long j5), .second, .val (.int (0 : Int32)), .val (.long j6), .second, .unset, .unset, .unset, .unset, .unset, .unset, .unset, .unset]) rfl rfl ?_
      have bk0 := own_k p2
      rw [← e_j6] at bk0
      refine g_iloadN C X0 (pc' := 194) at_193 rfl rfl ?_
      refine g_sipush C X0 (pc' := 197) at_194 (v := (256 : Int32)) (by decide) rfl ?_
      refine g_iand C X0 (pc' := 198) at_197 rfl ?_
      refine g_if C X0 at_198 (pc' := 206) (pc'' := 201) (by decide) (by decide) rfl (fun c198 => ?_) (fun c198 => ?_)
      · have c198 : (p2 &&& (256 : Int32)).toInt = 0 := c198
        have bk : -256 ≤ j6.toInt ∧ j6.toInt ≤ 256 := by omega
        have bk' : j6.toInt ≠ 0 := by omega
        refine g_lload C X0 (pc' := 208) at_206 rfl rfl ?_
        refine g_lload C X0 (pc' := 210) at_208 rfl rfl ?_
        refine g_lload C X0 (pc' := 212) at_210 rfl rfl ?_
        refine g_lsub C X0 (pc' := 213) at_212 rfl ?_
        refine g_lmul C X0 (pc' := 214) at_213 rfl ?_
        refine g_lload C X0 (pc' := 216) at_214 rfl rfl ?_
        refine g_lload C X0 (pc' := 218) at_216 rfl rfl ?_
        refine g_lsub C X0 (pc' := 219) at_218 rfl ?_
        refine g_lmul C X0 (pc' := 220) at_219 rfl ?_
        refine g_lload C X0 (pc' := 222) at_220 rfl rfl ?_
        refine g_ladd C X0 (pc' := 223) at_222 rfl ?_
        obtain ⟨j7, e_j7⟩ : ∃ z : Int64, z = ((j6 * (j1 - j2)) * (j1 - j2)) + j5 := ⟨_, rfl⟩
        refine g_lstore C X0 (pc' := 225) at_223 (x := j7) e_j7 (l' := #[.val (.int p0), .val (.int p1), .val (.int p2), .val (.int p3), .val (.int p4), .val (.int p5), .val (.long j1), .second, .val (.long j2), .second, .val (.long j3), .second, .val (.long j4), .second, .val (.long j5), .second, .val (.int (0 : Int32)), .val (.long j6), .second, .val (.long j7), .second, .unset, .unset, .unset, .unset, .unset, .unset]) rfl rfl ?_
        refine g_ldc2J C X0 (pc' := 228) (hw _ (List.mem_of_getElem? (i := 6) rfl)) at_225 rfl ?_
        refine g_lload C X0 (pc' := 230) at_228 rfl rfl ?_
        refine g_lmul C X0 (pc' := 231) at_230 rfl ?_
        refine g_lload C X0 (pc' := 233) at_231 rfl rfl ?_
        refine g_lload C X0 (pc' := 235) at_233 rfl rfl ?_
        refine g_lsub C X0 (pc' := 236) at_235 rfl ?_
        refine g_lmul C X0 (pc' := 237) at_236 rfl ?_
        obtain ⟨j8, e_j8⟩ : ∃ z : Int64, z = ((2 : Int64) * j6) * (j1 - j2) := ⟨_, rfl⟩
        refine g_lstore C X0 (pc' := 239) at_237 (x := j8) e_j8 (l' := #[.val (.int p0), .val (.int p1), .val (.int p2), .val (.int p3), .val (.int p4), .val (.int p5), .val (.long j1), .second, .val (.long j2), .second, .val (.long j3), .second, .val (.long j4), .second, .val (.long j5), .second, .val (.int (0 : Int32)), .val (.long j6), .second, .val (.long j7), .second, .val (.long j8), .second, .unset, .unset, .unset, .unset]) rfl rfl ?_
        refine g_lload C X0 (pc' := 241) at_239 rfl rfl ?_
        refine g_lload C X0 (pc' := 243) at_241 rfl rfl ?_
        refine g_lload C X0 (pc' := 245) at_243 rfl rfl ?_
        refine g_lsub C X0 (pc' := 246) at_245 rfl ?_
        refine g_lmul C X0 (pc' := 247) at_246 rfl ?_
        refine g_lload C X0 (pc' := 249) at_247 rfl rfl ?_
        refine g_lload C X0 (pc' := 251) at_249 rfl rfl ?_
        refine g_lsub C X0 (pc' := 252) at_251 rfl ?_
        refine g_lmul C X0 (pc' := 253) at_252 rfl ?_
        refine g_lload C X0 (pc' := 255) at_253 rfl rfl ?_
        refine g_ladd C X0 (pc' := 256) at_255 rfl ?_
        obtain ⟨j9, e_j9⟩ : ∃ z : Int64, z = ((j6 * (j4 - j2)) * (j4 - j2)) + j5 := ⟨_, rfl⟩
        refine g_lstore C X0 (pc' := 258) at_256 (x := j9) e_j9 (l' := #[.val (.int p0), .val (.int p1), .val (.int p2), .val (.int p3), .val (.int p4), .val (.int p5), .val (.long j1), .second, .val (.long j2), .second, .val (.long j3), .second, .val (.long j4), .second, .val (.long j5), .second, .val (.int (0 : Int32)), .val (.long j6), .second, .val (.long j7), .second, .val (.long j8), .second, .val (.long j9), .second, .unset, .unset]) rfl rfl ?_
        have eFA := own_poly (k := j6) (a := j1) (m := j2) (c := j5) bk (by omega) bm bC
        rw [← e_j7] at eFA
        have eDA := own_lin (k := j6) (a := j1) (m := j2) bk ba bm
        rw [← e_j8] at eDA
        have eFB := own_poly (k := j6) (a := j4) (m := j2) (c := j5) bk (by omega) bm bC
        rw [← e_j9] at eFB
        have bDA := own_m (X := 512) (Y := 65536) (x := 2 * j6.toInt) (y := j1.toInt - j2.toInt) (by omega) (by omega) (by omega) (by omega)
        refine g_lload C X0 (pc' := 260) at_258 rfl rfl ?_
        refine g_l2d C X0 (pc' := 261) at_260 rfl ?_
        refine g_lload C X0 (pc' := 263) at_261 rfl rfl ?_
        refine g_l2d C X0 (pc' := 264) at_263 rfl ?_
        refine g_lload C X0 (pc' := 266) at_264 rfl rfl ?_
        refine g_l2d C X0 (pc' := 267) at_266 rfl ?_
        refine g_lload C X0 (pc' := 269) at_267 rfl rfl ?_
        refine g_l2d C X0 (pc' := 270) at_269 rfl ?_
        refine g_lload C X0 (pc' := 272) at_270 rfl rfl ?_
        refine g_l2d C X0 (pc' := 273) at_272 rfl ?_
        have hBA : j4.toInt - j1.toInt = j3.toInt := by omega
        have hD := own_alg1 j6.toInt j1.toInt j2.toInt j5.toInt j3.toInt
        rw [← eB, ← eFB.1, ← eFA.1, ← eDA] at hD
        have bP := own_m (X := 33554432) (Y := 32768) (x := j8.toInt) (y := j3.toInt) (by omega) (by omega) (by omega) (by omega)
        have bkh := own_m (X := 256) (Y := 32768) (x := j6.toInt) (y := j3.toInt) (by omega) (by omega) (by omega) (by omega)
        have bkhh := own_m (X := 8388608) (Y := 32768) (x := j6.toInt * j3.toInt) (y := j3.toInt) (by omega) (by omega) (by omega) (by omega)
        have bn := own_m (X := 65536) (Y := 32768) (x := j1.toInt - j2.toInt) (y := G) (by omega) (by omega) (by omega) (by omega)
        have hkh : j6.toInt * j3.toInt * j3.toInt ≠ 0 := Int.mul_ne_zero (Int.mul_ne_zero bk' bH.2.2) bH.2.2
        refine g_callS C X0 (c_par l Z a0 hw h (FP.l2d j1) (FP.l2d j7) (FP.l2d j8) (FP.l2d j4) (FP.l2d j9) _ _ _ _ _ ((j1.toInt - j2.toInt) * G) j2.toInt (l2d_D (x := j1) (by show _ ≤ 9007199254740992; omega)) (l2d_D (x := j7) (by show _ ≤ 9007199254740992; omega)) (l2d_D (x := j8) (by show _ ≤ 9007199254740992; omega)) (l2d_D (x := j4) (by show _ ≤ 9007199254740992; omega)) (l2d_D (x := j9) (by show _ ≤ 9007199254740992; omega)) (by rw [hBA]; show _ ≤ 9007199254740992; omega) (by show _ ≤ 9007199254740992; omega) (by rw [hBA]; show _ ≤ 9007199254740992; omega) (by rw [hBA, hD]; show _ ≤ 9007199254740992; omega) (by rw [hBA, hD]; show _ ≤ 9007199254740992; omega) (by rw [hBA, hD]; omega) (by rw [hBA, hD, eDA]; exact own_alg2 j6.toInt j1.toInt j2.toInt j3.toInt G hG) (by show _ ≤ 9007199254740992; omega) (by rw [hBA]; exact own_alg3 j1.toInt j2.toInt j3.toInt G hG) (by omega) (by show _ ≤ 9007199254740992; omega)) (hw _ (List.mem_of_getElem? (i := 0) rfl)) (hw _ (List.mem_of_getElem? (i := 1) rfl)) (hw _ (List.mem_of_getElem? (i := 2) rfl)) (hw _ (List.mem_of_getElem? (i := 3) rfl)) (by decide) e0 at_273 rfl pd1 [(.double (FP.l2d j1)), (.double (FP.l2d j7)), (.double (FP.l2d j8)), (.double (FP.l2d j4)), (.double (FP.l2d j9))] [] rfl rfl rfl 0 rfl (by decide) (by decide) (by decide) (by decide) rfl ?_
        rintro _ T1 _ X1 ⟨r1, rfl, D_r1, rfl, e1⟩
        rw [List.append_nil] at X1
        show Go p.tables e below _ T1 (mkF m 276 #[.val (.int p0), .val (.int p1), .val (.int p2), .val (.int p3), .val (.int p4), .val (.int p5), .val (.long j1), .second, .val (.long j2), .second, .val (.long j3), .second, .val (.long j4), .second, .val (.long j5), .second, .val (.int (0 : Int32)), .val (.long j6), .second, .val (.long j7), .second, .val (.long j8), .second, .val (.long j9), .second, .unset, .unset] [(.double r1)])
        refine g_dstore C X1 (pc' := 278) at_276 (x := r1) rfl (l' := #[.val (.int p0), .val (.int p1), .val (.int p2), .val (.int p3), .val (.int p4), .val (.int p5), .val (.long j1), .second, .val (.long j2), .second, .val (.long j3), .second, .val (.long j4), .second, .val (.long j5), .second, .val (.int (0 : Int32)), .val (.long j6), .second, .val (.long j7), .second, .val (.long j8), .second, .val (.long j9), .second, .val (.double r1), .second]) rfl rfl ?_
        refine g_dload C X1 (pc' := 280) at_278 rfl rfl ?_
        refine g_lload C X1 (pc' := 282) at_280 rfl rfl ?_
        refine g_l2d C X1 (pc' := 283) at_282 rfl ?_
        refine g_dcmpV C X1 at_283 (v := (0 : Int32)) ((dcmp_cmpI D_r1 (l2d_D (x := j2) (by show _ ≤ 9007199254740992; omega)) _).trans (cmpI_self _)) rfl ?_
        refine g_ifN C X1 at_284 (by decide) rfl ?_
        refine g_iconst C X1 (pc' := 288) at_287 (v := (1 : Int32)) (by decide) rfl ?_
        refine g_goto C X1 at_288 (pc' := 292) (by decide) (by decide) ?_
        exact g_zreturn C X1 at_292 (w := 1) (by decide) ⟨rfl, Fr.nil n0⟩ (by decide) (by decide)
      · have c198 : ¬ ((p2 &&& (256 : Int32)).toInt = 0) := c198
        refine g_lload C X0 (pc' := 203) at_201 rfl rfl ?_
        refine g_lneg C X0 (pc' := 204) at_203 rfl ?_
        obtain ⟨j10, e_j10⟩ : ∃ z : Int64, z = -j6 := ⟨_, rfl⟩
        refine g_lstore C X0 (pc' := 206) at_204 (x := j10) e_j10 (l' := #[.val (.int p0), .val (.int p1), .val (.int p2), .val (.int p3), .val (.int p4), .val (.int p5), .val (.long j1), .second, .val (.long j2), .second, .val (.long j3), .second, .val (.long j4), .second, .val (.long j5), .second, .val (.int (0 : Int32)), .val (.long j10), .second, .unset, .unset, .unset, .unset, .unset, .unset, .unset, .unset]) rfl rfl ?_
        have ek : j10.toInt = -j6.toInt := by rw [e_j10]; exact own_neg (by omega)
        have bk : -256 ≤ j10.toInt ∧ j10.toInt ≤ 256 := by omega
        have bk' : j10.toInt ≠ 0 := by omega
        refine g_lload C X0 (pc' := 208) at_206 rfl rfl ?_
        refine g_lload C X0 (pc' := 210) at_208 rfl rfl ?_
        refine g_lload C X0 (pc' := 212) at_210 rfl rfl ?_
        refine g_lsub C X0 (pc' := 213) at_212 rfl ?_
        refine g_lmul C X0 (pc' := 214) at_213 rfl ?_
        refine g_lload C X0 (pc' := 216) at_214 rfl rfl ?_
        refine g_lload C X0 (pc' := 218) at_216 rfl rfl ?_
        refine g_lsub C X0 (pc' := 219) at_218 rfl ?_
        refine g_lmul C X0 (pc' := 220) at_219 rfl ?_
        refine g_lload C X0 (pc' := 222) at_220 rfl rfl ?_
        refine g_ladd C X0 (pc' := 223) at_222 rfl ?_
        obtain ⟨j11, e_j11⟩ : ∃ z : Int64, z = ((j10 * (j1 - j2)) * (j1 - j2)) + j5 := ⟨_, rfl⟩
        refine g_lstore C X0 (pc' := 225) at_223 (x := j11) e_j11 (l' := #[.val (.int p0), .val (.int p1), .val (.int p2), .val (.int p3), .val (.int p4), .val (.int p5), .val (.long j1), .second, .val (.long j2), .second, .val (.long j3), .second, .val (.long j4), .second, .val (.long j5), .second, .val (.int (0 : Int32)), .val (.long j10), .second, .val (.long j11), .second, .unset, .unset, .unset, .unset, .unset, .unset]) rfl rfl ?_
        refine g_ldc2J C X0 (pc' := 228) (hw _ (List.mem_of_getElem? (i := 6) rfl)) at_225 rfl ?_
        refine g_lload C X0 (pc' := 230) at_228 rfl rfl ?_
        refine g_lmul C X0 (pc' := 231) at_230 rfl ?_
        refine g_lload C X0 (pc' := 233) at_231 rfl rfl ?_
        refine g_lload C X0 (pc' := 235) at_233 rfl rfl ?_
        refine g_lsub C X0 (pc' := 236) at_235 rfl ?_
        refine g_lmul C X0 (pc' := 237) at_236 rfl ?_
        obtain ⟨j12, e_j12⟩ : ∃ z : Int64, z = ((2 : Int64) * j10) * (j1 - j2) := ⟨_, rfl⟩
        refine g_lstore C X0 (pc' := 239) at_237 (x := j12) e_j12 (l' := #[.val (.int p0), .val (.int p1), .val (.int p2), .val (.int p3), .val (.int p4), .val (.int p5), .val (.long j1), .second, .val (.long j2), .second, .val (.long j3), .second, .val (.long j4), .second, .val (.long j5), .second, .val (.int (0 : Int32)), .val (.long j10), .second, .val (.long j11), .second, .val (.long j12), .second, .unset, .unset, .unset, .unset]) rfl rfl ?_
        refine g_lload C X0 (pc' := 241) at_239 rfl rfl ?_
        refine g_lload C X0 (pc' := 243) at_241 rfl rfl ?_
        refine g_lload C X0 (pc' := 245) at_243 rfl rfl ?_
        refine g_lsub C X0 (pc' := 246) at_245 rfl ?_
        refine g_lmul C X0 (pc' := 247) at_246 rfl ?_
        refine g_lload C X0 (pc' := 249) at_247 rfl rfl ?_
        refine g_lload C X0 (pc' := 251) at_249 rfl rfl ?_
        refine g_lsub C X0 (pc' := 252) at_251 rfl ?_
        refine g_lmul C X0 (pc' := 253) at_252 rfl ?_
        refine g_lload C X0 (pc' := 255) at_253 rfl rfl ?_
        refine g_ladd C X0 (pc' := 256) at_255 rfl ?_
        obtain ⟨j13, e_j13⟩ : ∃ z : Int64, z = ((j10 * (j4 - j2)) * (j4 - j2)) + j5 := ⟨_, rfl⟩
        refine g_lstore C X0 (pc' := 258) at_256 (x := j13) e_j13 (l' := #[.val (.int p0), .val (.int p1), .val (.int p2), .val (.int p3), .val (.int p4), .val (.int p5), .val (.long j1), .second, .val (.long j2), .second, .val (.long j3), .second, .val (.long j4), .second, .val (.long j5), .second, .val (.int (0 : Int32)), .val (.long j10), .second, .val (.long j11), .second, .val (.long j12), .second, .val (.long j13), .second, .unset, .unset]) rfl rfl ?_
        have eFA := own_poly (k := j10) (a := j1) (m := j2) (c := j5) bk (by omega) bm bC
        rw [← e_j11] at eFA
        have eDA := own_lin (k := j10) (a := j1) (m := j2) bk ba bm
        rw [← e_j12] at eDA
        have eFB := own_poly (k := j10) (a := j4) (m := j2) (c := j5) bk (by omega) bm bC
        rw [← e_j13] at eFB
        have bDA := own_m (X := 512) (Y := 65536) (x := 2 * j10.toInt) (y := j1.toInt - j2.toInt) (by omega) (by omega) (by omega) (by omega)
        refine g_lload C X0 (pc' := 260) at_258 rfl rfl ?_
        refine g_l2d C X0 (pc' := 261) at_260 rfl ?_
        refine g_lload C X0 (pc' := 263) at_261 rfl rfl ?_
        refine g_l2d C X0 (pc' := 264) at_263 rfl ?_
        refine g_lload C X0 (pc' := 266) at_264 rfl rfl ?_
        refine g_l2d C X0 (pc' := 267) at_266 rfl ?_
        refine g_lload C X0 (pc' := 269) at_267 rfl rfl ?_
        refine g_l2d C X0 (pc' := 270) at_269 rfl ?_
        refine g_lload C X0 (pc' := 272) at_270 rfl rfl ?_
        refine g_l2d C X0 (pc' := 273) at_272 rfl ?_
        have hBA : j4.toInt - j1.toInt = j3.toInt := by omega
        have hD := own_alg1 j10.toInt j1.toInt j2.toInt j5.toInt j3.toInt
        rw [← eB, ← eFB.1, ← eFA.1, ← eDA] at hD
        have bP := own_m (X := 33554432) (Y := 32768) (x := j12.toInt) (y := j3.toInt) (by omega) (by omega) (by omega) (by omega)
        have bkh := own_m (X := 256) (Y := 32768) (x := j10.toInt) (y := j3.toInt) (by omega) (by omega) (by omega) (by omega)
        have bkhh := own_m (X := 8388608) (Y := 32768) (x := j10.toInt * j3.toInt) (y := j3.toInt) (by omega) (by omega) (by omega) (by omega)
        have bn := own_m (X := 65536) (Y := 32768) (x := j1.toInt - j2.toInt) (y := G) (by omega) (by omega) (by omega) (by omega)
        have hkh : j10.toInt * j3.toInt * j3.toInt ≠ 0 := Int.mul_ne_zero (Int.mul_ne_zero bk' bH.2.2) bH.2.2
        refine g_callS C X0 (c_par l Z a0 hw h (FP.l2d j1) (FP.l2d j11) (FP.l2d j12) (FP.l2d j4) (FP.l2d j13) _ _ _ _ _ ((j1.toInt - j2.toInt) * G) j2.toInt (l2d_D (x := j1) (by show _ ≤ 9007199254740992; omega)) (l2d_D (x := j11) (by show _ ≤ 9007199254740992; omega)) (l2d_D (x := j12) (by show _ ≤ 9007199254740992; omega)) (l2d_D (x := j4) (by show _ ≤ 9007199254740992; omega)) (l2d_D (x := j13) (by show _ ≤ 9007199254740992; omega)) (by rw [hBA]; show _ ≤ 9007199254740992; omega) (by show _ ≤ 9007199254740992; omega) (by rw [hBA]; show _ ≤ 9007199254740992; omega) (by rw [hBA, hD]; show _ ≤ 9007199254740992; omega) (by rw [hBA, hD]; show _ ≤ 9007199254740992; omega) (by rw [hBA, hD]; omega) (by rw [hBA, hD, eDA]; exact own_alg2 j10.toInt j1.toInt j2.toInt j3.toInt G hG) (by show _ ≤ 9007199254740992; omega) (by rw [hBA]; exact own_alg3 j1.toInt j2.toInt j3.toInt G hG) (by omega) (by show _ ≤ 9007199254740992; omega)) (hw _ (List.mem_of_getElem? (i := 0) rfl)) (hw _ (List.mem_of_getElem? (i := 1) rfl)) (hw _ (List.mem_of_getElem? (i := 2) rfl)) (hw _ (List.mem_of_getElem? (i := 3) rfl)) (by decide) e0 at_273 rfl pd1 [(.double (FP.l2d j1)), (.double (FP.l2d j11)), (.double (FP.l2d j12)), (.double (FP.l2d j4)), (.double (FP.l2d j13))] [] rfl rfl rfl 0 rfl (by decide) (by decide) (by decide) (by decide) rfl ?_
        rintro _ T2 _ X2 ⟨r2, rfl, D_r2, rfl, e2⟩
        rw [List.append_nil] at X2
        show Go p.tables e below _ T2 (mkF m 276 #[.val (.int p0), .val (.int p1), .val (.int p2), .val (.int p3), .val (.int p4), .val (.int p5), .val (.long j1), .second, .val (.long j2), .second, .val (.long j3), .second, .val (.long j4), .second, .val (.long j5), .second, .val (.int (0 : Int32)), .val (.long j10), .second, .val (.long j11), .second, .val (.long j12), .second, .val (.long j13), .second, .unset, .unset] [(.double r2)])
        refine g_dstore C X2 (pc' := 278) at_276 (x := r2) rfl (l' := #[.val (.int p0), .val (.int p1), .val (.int p2), .val (.int p3), .val (.int p4), .val (.int p5), .val (.long j1), .second, .val (.long j2), .second, .val (.long j3), .second, .val (.long j4), .second, .val (.long j5), .second, .val (.int (0 : Int32)), .val (.long j10), .second, .val (.long j11), .second, .val (.long j12), .second, .val (.long j13), .second, .val (.double r2), .second]) rfl rfl ?_
        refine g_dload C X2 (pc' := 280) at_278 rfl rfl ?_
        refine g_lload C X2 (pc' := 282) at_280 rfl rfl ?_
        refine g_l2d C X2 (pc' := 283) at_282 rfl ?_
        refine g_dcmpV C X2 at_283 (v := (0 : Int32)) ((dcmp_cmpI D_r2 (l2d_D (x := j2) (by show _ ≤ 9007199254740992; omega)) _).trans (cmpI_self _)) rfl ?_
        refine g_ifN C X2 at_284 (by decide) rfl ?_
        refine g_iconst C X2 (pc' := 288) at_287 (v := (1 : Int32)) (by decide) rfl ?_
        refine g_goto C X2 at_288 (pc' := 292) (by decide) (by decide) ?_
        exact g_zreturn C X2 at_292 (w := 1) (by decide) ⟨rfl, Fr.nil n0⟩ (by decide) (by decide)
    · have c58 : ((p2 >>> ((9 : Int32) &&& 31)) &&& (3 : Int32)).toInt = 0 := Decidable.not_not.mp c58
      refine g_iconst C X0 (pc' := 62) at_61 (v := (1 : Int32)) (by decide) rfl ?_
      refine g_goto C X0 at_62 (pc' := 66) (by decide) (by decide) ?_
      refine g_istore C X0 (pc' := 68) at_66 (x := (1 : Int32)) rfl (l' := #[.val (.int p0), .val (.int p1), .val (.int p2), .val (.int p3), .val (.int p4), .val (.int p5), .val (.long j1), .second, .val (.long j2), .second, .val (.long j3), .second, .val (.long j4), .second, .val (.long j5), .second, .val (.int (1 : Int32)), .unset, .unset, .unset, .unset, .unset, .unset, .unset, .unset, .unset, .unset]) rfl rfl ?_
      refine g_iload C X0 (pc' := 70) at_68 rfl rfl ?_
      refine g_ifN C X0 at_70 (by decide) rfl ?_
      refine g_iload C X0 (pc' := 75) at_73 rfl rfl ?_
      refine g_i2l C X0 (pc' := 76) at_75 rfl ?_
      obtain ⟨j14, e_j14⟩ : ∃ z : Int64, z = p5.toInt64 := ⟨_, rfl⟩
      refine g_lstore C X0 (pc' := 78) at_76 (x := j14) e_j14 (l' := #[.val (.int p0), .val (.int p1), .val (.int p2), .val (.int p3), .val (.int p4), .val (.int p5), .val (.long j1), .second, .val (.long j2), .second, .val (.long j3), .second, .val (.long j4), .second, .val (.long j5), .second, .val (.int (1 : Int32)), .val (.long j14), .second, .unset, .unset, .unset, .unset, .unset, .unset, .unset, .unset]) rfl rfl ?_
      refine g_lload C X0 (pc' := 80) at_78 rfl rfl ?_
      refine g_lconst C X0 (pc' := 81) at_80 (v := (0 : Int64)) (by decide) rfl ?_
      refine g_lcmp C X0 (pc' := 82) at_81 rfl ?_
      refine g_if C X0 at_82 (pc' := 88) (pc'' := 85) (by decide) (by decide) rfl (fun c82 => ?_) (fun c82 => ?_)
      · have c82 : ¬ ((XT.cmpL j14 (0 : Int64)).toInt = 0) := c82
        have zl_0 : (0 : Int64).toInt = 0 := by decide
        have c82 : ¬ (j14.toInt = (0 : Int64).toInt) := fun q => c82 ((cmpL_eq _ _).mpr q)
        have bS0 := rng32 p5
        have bS1 : j14.toInt = p5.toInt := by rw [e_j14]; exact c_i2l p5
        have bS : -2147483648 ≤ j14.toInt ∧ j14.toInt < 2147483648 ∧ j14.toInt ≠ 0 := by omega
        refine g_lload C X0 (pc' := 90) at_88 rfl rfl ?_
        refine g_l2d C X0 (pc' := 91) at_90 rfl ?_
        refine g_lload C X0 (pc' := 93) at_91 rfl rfl ?_
        refine g_l2d C X0 (pc' := 94) at_93 rfl ?_
        refine g_lload C X0 (pc' := 96) at_94 rfl rfl ?_
        refine g_l2d C X0 (pc' := 97) at_96 rfl ?_
        refine g_lload C X0 (pc' := 99) at_97 rfl rfl ?_
        refine g_l2d C X0 (pc' := 100) at_99 rfl ?_
        refine g_lload C X0 (pc' := 102) at_100 rfl rfl ?_
        refine g_lload C X0 (pc' := 104) at_102 rfl rfl ?_
        refine g_lload C X0 (pc' := 106) at_104 rfl rfl ?_
        refine g_lmul C X0 (pc' := 107) at_106 rfl ?_
        refine g_ladd C X0 (pc' := 108) at_107 rfl ?_
        have mSH := own_m (X := 2147483648) (Y := 32768) (x := j14.toInt) (y := j3.toInt) (by omega) (by omega) (by omega) (by omega)
        have eSH := own_mul (x := j14) (y := j3) (by omega) (by omega)
        have eF : (j5 + (j14 * j3)).toInt = j5.toInt + j14.toInt * j3.toInt := by rw [own_add (by omega) (by omega), eSH]
        refine g_l2d C X0 (pc' := 109) at_108 rfl ?_
        have hBA : j4.toInt - j1.toInt = j3.toInt := by omega
        have hP : j14.toInt * j3.toInt ≠ 0 := Int.mul_ne_zero bS.2.2 bH.2.2
        rcases Int.lt_or_gt_of_ne bS.2.2 with hs | hs
        · refine g_callS C X0 (c_line l Z a0 hw h (FP.l2d j1) (FP.l2d j5) (FP.l2d j14) (FP.l2d j4) (FP.l2d (j5 + (j14 * j3))) _ _ _ _ _ (l2d_D (x := j1) (by show _ ≤ 9007199254740992; omega)) (l2d_D (x := j5) (by show _ ≤ 9007199254740992; omega)) (l2d_D (x := j14) (by show _ ≤ 9007199254740992; omega)) (l2d_D (x := j4) (by show _ ≤ 9007199254740992; omega)) (l2d_D (x := j5 + (j14 * j3)) (by show _ ≤ 9007199254740992; omega)) (by rw [hBA]; show _ ≤ 9007199254740992; omega) (by rw [eF]; show _ ≤ 9007199254740992; omega) (by rw [hBA]; show _ ≤ 9007199254740992; omega) (by rw [eF, hBA]; omega) bS.2.2 (by rw [hBA]; exact bH.2.2) (by rw [hBA]; exact hP)) (hw _ (List.mem_of_getElem? (i := 0) rfl)) (hw _ (List.mem_of_getElem? (i := 1) rfl)) (hw _ (List.mem_of_getElem? (i := 2) rfl)) (hw _ (List.mem_of_getElem? (i := 3) rfl)) (by decide) e0 at_109 rfl pd1 [(.double (FP.l2d j1)), (.double (FP.l2d j5)), (.double (FP.l2d j14)), (.double (FP.l2d j4)), (.double (FP.l2d (j5 + (j14 * j3))))] [] rfl rfl rfl 0 rfl (by decide) (by decide) (by decide) (by decide) rfl ?_
          rintro _ T3 _ X3 ⟨rfl, rfl, e3⟩
          rw [List.append_nil] at X3
          have hr : own_inf (!decide (j14.toInt < 0)) = (9218868437227405312 : UInt64) := by rw [show decide (j14.toInt < 0) = true from decide_eq_true hs]; rfl
          simp only [hr]
          show Go p.tables e below _ T3 (mkF m 112 #[.val (.int p0), .val (.int p1), .val (.int p2), .val (.int p3), .val (.int p4), .val (.int p5), .val (.long j1), .second, .val (.long j2), .second, .val (.long j3), .second, .val (.long j4), .second, .val (.long j5), .second, .val (.int (1 : Int32)), .val (.long j14), .second, .unset, .unset, .unset, .unset, .unset, .unset, .unset, .unset] [(.double (9218868437227405312 : UInt64))])
          refine g_dstore C X3 (pc' := 114) at_112 (x := (9218868437227405312 : UInt64)) rfl (l' := #[.val (.int p0), .val (.int p1), .val (.int p2), .val (.int p3), .val (.int p4), .val (.int p5), .val (.long j1), .second, .val (.long j2), .second, .val (.long j3), .second, .val (.long j4), .second, .val (.long j5), .second, .val (.int (1 : Int32)), .val (.long j14), .second, .val (.double (9218868437227405312 : UInt64)), .second, .unset, .unset, .unset, .unset, .unset, .unset]) rfl rfl ?_
          refine g_dload C X3 (pc' := 116) at_114 rfl rfl ?_
          refine g_ldc2D C X3 (pc' := 119) (hw _ (List.mem_of_getElem? (i := 5) rfl)) at_116 rfl ?_
          have z119 : FP.dmul (9218868437227405312 : UInt64) (4611686018427387904 : UInt64) = (9218868437227405312 : UInt64) := by decide +kernel
          refine g_dmul C X3 at_119 (by rw [z119]; unfold Jvm.Free.Fl.NoNaN64; decide) rfl ?_
          rw [z119]
          refine g_dload C X3 (pc' := 122) at_120 rfl rfl ?_
          refine g_dcmpV C X3 (pc' := 123) at_122 (v := (0 : Int32)) (by decide +kernel) rfl ?_
          refine g_ifN C X3 at_123 (by decide) rfl ?_
          refine g_dload C X3 (pc' := 128) at_126 rfl rfl ?_
          refine g_dconst0 C X3 (pc' := 129) at_128 rfl rfl ?_
          refine g_dcmpV C X3 (pc' := 130) at_129 (v := (1 : Int32)) (by decide +kernel) rfl ?_
          refine g_ifN C X3 at_130 (by decide) rfl ?_
          refine g_iconst C X3 (pc' := 134) at_133 (v := (1 : Int32)) (by decide) rfl ?_
          refine g_goto C X3 at_134 (pc' := 138) (by decide) (by decide) ?_
          refine g_istore C X3 (pc' := 140) at_138 (x := (1 : Int32)) rfl (l' := #[.val (.int p0), .val (.int p1), .val (.int p2), .val (.int p3), .val (.int p4), .val (.int p5), .val (.long j1), .second, .val (.long j2), .second, .val (.long j3), .second, .val (.long j4), .second, .val (.long j5), .second, .val (.int (1 : Int32)), .val (.long j14), .second, .val (.double (9218868437227405312 : UInt64)), .second, .val (.int (1 : Int32)), .unset, .unset, .unset, .unset, .unset]) rfl rfl ?_
          refine g_lload C X3 (pc' := 142) at_140 rfl rfl ?_
          refine g_lconst C X3 (pc' := 143) at_142 (v := (0 : Int64)) (by decide) rfl ?_
          refine g_lcmp C X3 (pc' := 144) at_143 rfl ?_
          refine g_if C X3 at_144 (pc' := 165) (pc'' := 147) (by decide) (by decide) rfl (fun c144 => ?_) (fun c144 => ?_)
          · have c144 : ¬ (0 < (XT.cmpL j14 (0 : Int64)).toInt) := c144
            have zl_0 : (0 : Int64).toInt = 0 := by decide
            have c144 : ¬ ((0 : Int64).toInt < j14.toInt) := fun q => c144 ((cmpL_gt _ _).mpr q)
            refine g_iload C X3 (pc' := 167) at_165 rfl rfl ?_
            refine g_ifN C X3 at_167 (by decide) rfl ?_
            refine g_dconst0 C X3 (pc' := 171) at_170 rfl rfl ?_
            refine g_dload C X3 (pc' := 173) at_171 rfl rfl ?_
            refine g_dcmpV C X3 (pc' := 174) at_173 (v := (-1 : Int32)) (by decide +kernel) rfl ?_
            refine g_ifN C X3 at_174 (by decide) rfl ?_
            refine g_iconst C X3 (pc' := 178) at_177 (v := (1 : Int32)) (by decide) rfl ?_
            refine g_goto C X3 at_178 (pc' := 182) (by decide) (by decide) ?_
            exact g_zreturn C X3 at_182 (w := 1) (by decide) ⟨rfl, Fr.nil n0⟩ (by decide) (by decide)
          · have c144 : 0 < (XT.cmpL j14 (0 : Int64)).toInt := Decidable.not_not.mp c144
            have zl_0 : (0 : Int64).toInt = 0 := by decide
            have c144 : (0 : Int64).toInt < j14.toInt := (cmpL_gt _ _).mp c144
            refine g_iload C X3 (pc' := 149) at_147 rfl rfl ?_
            refine g_ifN C X3 at_149 (by decide) rfl ?_
            refine g_dload C X3 (pc' := 154) at_152 rfl rfl ?_
            refine g_dconst0 C X3 (pc' := 155) at_154 rfl rfl ?_
            refine g_dcmpV C X3 (pc' := 156) at_155 (v := (1 : Int32)) (by decide +kernel) rfl ?_
            refine g_ifY C X3 at_156 (pc' := 163) (by decide) (by decide) (by decide) ?_
            refine g_iconst C X3 (pc' := 164) at_163 (v := (0 : Int32)) (by decide) rfl ?_
            exfalso; omega
        · refine g_callS C X0 (c_line l Z a0 hw h (FP.l2d j1) (FP.l2d j5) (FP.l2d j14) (FP.l2d j4) (FP.l2d (j5 + (j14 * j3))) _ _ _ _ _ (l2d_D (x := j1) (by show _ ≤ 9007199254740992; omega)) (l2d_D (x := j5) (by show _ ≤ 9007199254740992; omega)) (l2d_D (x := j14) (by show _ ≤ 9007199254740992; omega)) (l2d_D (x := j4) (by show _ ≤ 9007199254740992; omega)) (l2d_D (x := j5 + (j14 * j3)) (by show _ ≤ 9007199254740992; omega)) (by rw [hBA]; show _ ≤ 9007199254740992; omega) (by rw [eF]; show _ ≤ 9007199254740992; omega) (by rw [hBA]; show _ ≤ 9007199254740992; omega) (by rw [eF, hBA]; omega) bS.2.2 (by rw [hBA]; exact bH.2.2) (by rw [hBA]; exact hP)) (hw _ (List.mem_of_getElem? (i := 0) rfl)) (hw _ (List.mem_of_getElem? (i := 1) rfl)) (hw _ (List.mem_of_getElem? (i := 2) rfl)) (hw _ (List.mem_of_getElem? (i := 3) rfl)) (by decide) e0 at_109 rfl pd1 [(.double (FP.l2d j1)), (.double (FP.l2d j5)), (.double (FP.l2d j14)), (.double (FP.l2d j4)), (.double (FP.l2d (j5 + (j14 * j3))))] [] rfl rfl rfl 0 rfl (by decide) (by decide) (by decide) (by decide) rfl ?_
          rintro _ T4 _ X4 ⟨rfl, rfl, e4⟩
          rw [List.append_nil] at X4
          have hr : own_inf (!decide (j14.toInt < 0)) = (18442240474082181120 : UInt64) := by rw [show decide (j14.toInt < 0) = false from decide_eq_false (by omega)]; rfl
          simp only [hr]
          show Go p.tables e below _ T4 (mkF m 112 #[.val (.int p0), .val (.int p1), .val (.int p2), .val (.int p3), .val (.int p4), .val (.int p5), .val (.long j1), .second, .val (.long j2), .second, .val (.long j3), .second, .val (.long j4), .second, .val (.long j5), .second, .val (.int (1 : Int32)), .val (.long j14), .second, .unset, .unset, .unset, .unset, .unset, .unset, .unset, .unset] [(.double (18442240474082181120 : UInt64))])
          refine g_dstore C X4 (pc' := 114) at_112 (x := (18442240474082181120 : UInt64)) rfl (l' := #[.val (.int p0), .val (.int p1), .val (.int p2), .val (.int p3), .val (.int p4), .val (.int p5), .val (.long j1), .second, .val (.long j2), .second, .val (.long j3), .second, .val (.long j4), .second, .val (.long j5), .second, .val (.int (1 : Int32)), .val (.long j14), .second, .val (.double (18442240474082181120 : UInt64)), .second, .unset, .unset, .unset, .unset, .unset, .unset]) rfl rfl ?_
          refine g_dload C X4 (pc' := 116) at_114 rfl rfl ?_
          refine g_ldc2D C X4 (pc' := 119) (hw _ (List.mem_of_getElem? (i := 5) rfl)) at_116 rfl ?_
          have z119 : FP.dmul (18442240474082181120 : UInt64) (4611686018427387904 : UInt64) = (18442240474082181120 : UInt64) := by decide +kernel
          refine g_dmul C X4 at_119 (by rw [z119]; unfold Jvm.Free.Fl.NoNaN64; decide) rfl ?_
          rw [z119]
          refine g_dload C X4 (pc' := 122) at_120 rfl rfl ?_
          refine g_dcmpV C X4 (pc' := 123) at_122 (v := (0 : Int32)) (by decide +kernel) rfl ?_
          refine g_ifN C X4 at_123 (by decide) rfl ?_
          refine g_dload C X4 (pc' := 128) at_126 rfl rfl ?_
          refine g_dconst0 C X4 (pc' := 129) at_128 rfl rfl ?_
          refine g_dcmpV C X4 (pc' := 130) at_129 (v := (-1 : Int32)) (by decide +kernel) rfl ?_
          refine g_ifN C X4 at_130 (by decide) rfl ?_
          refine g_iconst C X4 (pc' := 134) at_133 (v := (1 : Int32)) (by decide) rfl ?_
          refine g_goto C X4 at_134 (pc' := 138) (by decide) (by decide) ?_
          refine g_istore C X4 (pc' := 140) at_138 (x := (1 : Int32)) rfl (l' := #[.val (.int p0), .val (.int p1), .val (.int p2), .val (.int p3), .val (.int p4), .val (.int p5), .val (.long j1), .second, .val (.long j2), .second, .val (.long j3), .second, .val (.long j4), .second, .val (.long j5), .second, .val (.int (1 : Int32)), .val (.long j14), .second, .val (.double (18442240474082181120 : UInt64)), .second, .val (.int (1 : Int32)), .unset, .unset, .unset, .unset, .unset]) rfl rfl ?_
          refine g_lload C X4 (pc' := 142) at_140 rfl rfl ?_
          refine g_lconst C X4 (pc' := 143) at_142 (v := (0 : Int64)) (by decide) rfl ?_
          refine g_lcmp C X4 (pc' := 144) at_143 rfl ?_
          refine g_if C X4 at_144 (pc' := 165) (pc'' := 147) (by decide) (by decide) rfl (fun c144 => ?_) (fun c144 => ?_)
          · have c144 : ¬ (0 < (XT.cmpL j14 (0 : Int64)).toInt) := c144
            have zl_0 : (0 : Int64).toInt = 0 := by decide
            have c144 : ¬ ((0 : Int64).toInt < j14.toInt) := fun q => c144 ((cmpL_gt _ _).mpr q)
            refine g_iload C X4 (pc' := 167) at_165 rfl rfl ?_
            refine g_ifN C X4 at_167 (by decide) rfl ?_
            refine g_dconst0 C X4 (pc' := 171) at_170 rfl rfl ?_
            refine g_dload C X4 (pc' := 173) at_171 rfl rfl ?_
            refine g_dcmpV C X4 (pc' := 174) at_173 (v := (1 : Int32)) (by decide +kernel) rfl ?_
            refine g_ifY C X4 at_174 (pc' := 181) (by decide) (by decide) (by decide) ?_
            refine g_iconst C X4 (pc' := 182) at_181 (v := (0 : Int32)) (by decide) rfl ?_
            exfalso; omega
          · have c144 : 0 < (XT.cmpL j14 (0 : Int64)).toInt := Decidable.not_not.mp c144
            have zl_0 : (0 : Int64).toInt = 0 := by decide
            have c144 : (0 : Int64).toInt < j14.toInt := (cmpL_gt _ _).mp c144
            refine g_iload C X4 (pc' := 149) at_147 rfl rfl ?_
            refine g_ifN C X4 at_149 (by decide) rfl ?_
            refine g_dload C X4 (pc' := 154) at_152 rfl rfl ?_
            refine g_dconst0 C X4 (pc' := 155) at_154 rfl rfl ?_
            refine g_dcmpV C X4 (pc' := 156) at_155 (v := (-1 : Int32)) (by decide +kernel) rfl ?_
            refine g_ifN C X4 at_156 (by decide) rfl ?_
            refine g_iconst C X4 (pc' := 160) at_159 (v := (1 : Int32)) (by decide) rfl ?_
            refine g_goto C X4 at_160 (pc' := 164) (by decide) (by decide) ?_
            exact g_zreturn C X4 at_164 (w := 1) (by decide) ⟨rfl, Fr.nil n0⟩ (by decide) (by decide)
      · have c82 : (XT.cmpL j14 (0 : Int64)).toInt = 0 := Decidable.not_not.mp c82
        have zl_0 : (0 : Int64).toInt = 0 := by decide
        have c82 : j14.toInt = (0 : Int64).toInt := (cmpL_eq _ _).mp c82
        refine g_lconst C X0 (pc' := 86) at_85 (v := (1 : Int64)) (by decide) rfl ?_
        refine g_lstore C X0 (pc' := 88) at_86 (x := (1 : Int64)) rfl (l' := #[.val (.int p0), .val (.int p1), .val (.int p2), .val (.int p3), .val (.int p4), .val (.int p5), .val (.long j1), .second, .val (.long j2), .second, .val (.long j3), .second, .val (.long j4), .second, .val (.long j5), .second, .val (.int (1 : Int32)), .val (.long (1 : Int64)), .second, .unset, .unset, .unset, .unset, .unset, .unset, .unset, .unset]) rfl rfl ?_
        have bS : -2147483648 ≤ (1 : Int64).toInt ∧ (1 : Int64).toInt < 2147483648 ∧ (1 : Int64).toInt ≠ 0 := by decide
        refine g_lload C X0 (pc' := 90) at_88 rfl rfl ?_
        refine g_l2d C X0 (pc' := 91) at_90 rfl ?_
        refine g_lload C X0 (pc' := 93) at_91 rfl rfl ?_
        refine g_l2d C X0 (pc' := 94) at_93 rfl ?_
        refine g_lload C X0 (pc' := 96) at_94 rfl rfl ?_
        refine g_l2d C X0 (pc' := 97) at_96 rfl ?_
        refine g_lload C X0 (pc' := 99) at_97 rfl rfl ?_
        refine g_l2d C X0 (pc' := 100) at_99 rfl ?_
        refine g_lload C X0 (pc' := 102) at_100 rfl rfl ?_
        refine g_lload C X0 (pc' := 104) at_102 rfl rfl ?_
        refine g_lload C X0 (pc' := 106) at_104 rfl rfl ?_
        refine g_lmul C X0 (pc' := 107) at_106 rfl ?_
        refine g_ladd C X0 (pc' := 108) at_107 rfl ?_
        have mSH := own_m (X := 2147483648) (Y := 32768) (x := (1 : Int64).toInt) (y := j3.toInt) (by omega) (by omega) (by omega) (by omega)
        have eSH := own_mul (x := (1 : Int64)) (y := j3) (by omega) (by omega)
        have eF : (j5 + ((1 : Int64) * j3)).toInt = j5.toInt + (1 : Int64).toInt * j3.toInt := by rw [own_add (by omega) (by omega), eSH]
        refine g_l2d C X0 (pc' := 109) at_108 rfl ?_
        have hBA : j4.toInt - j1.toInt = j3.toInt := by omega
        have hP : (1 : Int64).toInt * j3.toInt ≠ 0 := Int.mul_ne_zero bS.2.2 bH.2.2
        rcases Int.lt_or_gt_of_ne bS.2.2 with hs | hs
        · exact absurd hs (by decide)
        · refine g_callS C X0 (c_line l Z a0 hw h (FP.l2d j1) (FP.l2d j5) (FP.l2d (1 : Int64)) (FP.l2d j4) (FP.l2d (j5 + ((1 : Int64) * j3))) _ _ _ _ _ (l2d_D (x := j1) (by show _ ≤ 9007199254740992; omega)) (l2d_D (x := j5) (by show _ ≤ 9007199254740992; omega)) (l2d_D (x := (1 : Int64)) (by decide)) (l2d_D (x := j4) (by show _ ≤ 9007199254740992; omega)) (l2d_D (x := j5 + ((1 : Int64) * j3)) (by show _ ≤ 9007199254740992; omega)) (by rw [hBA]; show _ ≤ 9007199254740992; omega) (by rw [eF]; show _ ≤ 9007199254740992; omega) (by rw [hBA]; show _ ≤ 9007199254740992; omega) (by rw [eF, hBA]; omega) bS.2.2 (by rw [hBA]; exact bH.2.2) (by rw [hBA]; exact hP)) (hw _ (List.mem_of_getElem? (i := 0) rfl)) (hw _ (List.mem_of_getElem? (i := 1) rfl)) (hw _ (List.mem_of_getElem? (i := 2) rfl)) (hw _ (List.mem_of_getElem? (i := 3) rfl)) (by decide) e0 at_109 rfl pd1 [(.double (FP.l2d j1)), (.double (FP.l2d j5)), (.double (FP.l2d (1 : Int64))), (.double (FP.l2d j4)), (.double (FP.l2d (j5 + ((1 : Int64) * j3))))] [] rfl rfl rfl 0 rfl (by decide) (by decide) (by decide) (by decide) rfl ?_
          rintro _ T6 _ X6 ⟨rfl, rfl, e6⟩
          rw [List.append_nil] at X6
          have hr : own_inf (!decide ((1 : Int64).toInt < 0)) = (18442240474082181120 : UInt64) := by rw [show decide ((1 : Int64).toInt < 0) = false from decide_eq_false (by omega)]; rfl
          simp only [hr]
          show Go p.tables e below _ T6 (mkF m 112 #[.val (.int p0), .val (.int p1), .val (.int p2), .val (.int p3), .val (.int p4), .val (.int p5), .val (.long j1), .second, .val (.long j2), .second, .val (.long j3), .second, .val (.long j4), .second, .val (.long j5), .second, .val (.int (1 : Int32)), .val (.long (1 : Int64)), .second, .unset, .unset, .unset, .unset, .unset, .unset, .unset, .unset] [(.double (18442240474082181120 : UInt64))])
          refine g_dstore C X6 (pc' := 114) at_112 (x := (18442240474082181120 : UInt64)) rfl (l' := #[.val (.int p0), .val (.int p1), .val (.int p2), .val (.int p3), .val (.int p4), .val (.int p5), .val (.long j1), .second, .val (.long j2), .second, .val (.long j3), .second, .val (.long j4), .second, .val (.long j5), .second, .val (.int (1 : Int32)), .val (.long (1 : Int64)), .second, .val (.double (18442240474082181120 : UInt64)), .second, .unset, .unset, .unset, .unset, .unset, .unset]) rfl rfl ?_
          refine g_dload C X6 (pc' := 116) at_114 rfl rfl ?_
          refine g_ldc2D C X6 (pc' := 119) (hw _ (List.mem_of_getElem? (i := 5) rfl)) at_116 rfl ?_
          have z119 : FP.dmul (18442240474082181120 : UInt64) (4611686018427387904 : UInt64) = (18442240474082181120 : UInt64) := by decide +kernel
          refine g_dmul C X6 at_119 (by rw [z119]; unfold Jvm.Free.Fl.NoNaN64; decide) rfl ?_
          rw [z119]
          refine g_dload C X6 (pc' := 122) at_120 rfl rfl ?_
          refine g_dcmpV C X6 (pc' := 123) at_122 (v := (0 : Int32)) (by decide +kernel) rfl ?_
          refine g_ifN C X6 at_123 (by decide) rfl ?_
          refine g_dload C X6 (pc' := 128) at_126 rfl rfl ?_
          refine g_dconst0 C X6 (pc' := 129) at_128 rfl rfl ?_
          refine g_dcmpV C X6 (pc' := 130) at_129 (v := (-1 : Int32)) (by decide +kernel) rfl ?_
          refine g_ifN C X6 at_130 (by decide) rfl ?_
          refine g_iconst C X6 (pc' := 134) at_133 (v := (1 : Int32)) (by decide) rfl ?_
          refine g_goto C X6 at_134 (pc' := 138) (by decide) (by decide) ?_
          refine g_istore C X6 (pc' := 140) at_138 (x := (1 : Int32)) rfl (l' := #[.val (.int p0), .val (.int p1), .val (.int p2), .val (.int p3), .val (.int p4), .val (.int p5), .val (.long j1), .second, .val (.long j2), .second, .val (.long j3), .second, .val (.long j4), .second, .val (.long j5), .second, .val (.int (1 : Int32)), .val (.long (1 : Int64)), .second, .val (.double (18442240474082181120 : UInt64)), .second, .val (.int (1 : Int32)), .unset, .unset, .unset, .unset, .unset]) rfl rfl ?_
          refine g_lload C X6 (pc' := 142) at_140 rfl rfl ?_
          refine g_lconst C X6 (pc' := 143) at_142 (v := (0 : Int64)) (by decide) rfl ?_
          refine g_lcmp C X6 (pc' := 144) at_143 rfl ?_
          refine g_ifN C X6 at_144 (by decide) rfl ?_
          refine g_iload C X6 (pc' := 149) at_147 rfl rfl ?_
          refine g_ifN C X6 at_149 (by decide) rfl ?_
          refine g_dload C X6 (pc' := 154) at_152 rfl rfl ?_
          refine g_dconst0 C X6 (pc' := 155) at_154 rfl rfl ?_
          refine g_dcmpV C X6 (pc' := 156) at_155 (v := (-1 : Int32)) (by decide +kernel) rfl ?_
          refine g_ifN C X6 at_156 (by decide) rfl ?_
          refine g_iconst C X6 (pc' := 160) at_159 (v := (1 : Int32)) (by decide) rfl ?_
          refine g_goto C X6 at_160 (pc' := 164) (by decide) (by decide) ?_
          exact g_zreturn C X6 at_164 (w := 1) (by decide) ⟨rfl, Fr.nil n0⟩ (by decide) (by decide)
  · have c32 : ¬ ((p3 &&& (16 : Int32)).toInt = 0) := c32
    refine g_lload C X0 (pc' := 37) at_35 rfl rfl ?_
    refine g_lneg C X0 (pc' := 38) at_37 rfl ?_
    obtain ⟨j15, e_j15⟩ : ∃ z : Int64, z = -j3 := ⟨_, rfl⟩
    refine g_lstore C X0 (pc' := 40) at_38 (x := j15) e_j15 (l' := #[.val (.int p0), .val (.int p1), .val (.int p2), .val (.int p3), .val (.int p4), .val (.int p5), .val (.long j1), .second, .val (.long j2), .second, .val (.long j15), .second, .unset, .unset, .unset, .unset, .unset, .unset, .unset, .unset, .unset, .unset, .unset, .unset, .unset, .unset, .unset]) rfl rfl ?_
    have en : j15.toInt = -j3.toInt := by rw [e_j15]; exact own_neg (by omega)
    obtain ⟨G, hG, bG1, bG2⟩ : ∃ G : Int, j15.toInt * G = 32768 ∧ -32768 ≤ G ∧ G ≤ 32768 := ⟨-g, by rw [en, Int.neg_mul_neg]; exact hg, by omega, by omega⟩
    have bH : -32768 ≤ j15.toInt ∧ j15.toInt ≤ 32768 ∧ j15.toInt ≠ 0 := by omega
    refine g_lload C X0 (pc' := 42) at_40 rfl rfl ?_
    refine g_lload C X0 (pc' := 44) at_42 rfl rfl ?_
    refine g_ladd C X0 (pc' := 45) at_44 rfl ?_
    obtain ⟨j16, e_j16⟩ : ∃ z : Int64, z = j1 + j15 := ⟨_, rfl⟩
    refine g_lstore C X0 (pc' := 47) at_45 (x := j16) e_j16 (l' := #[.val (.int p0), .val (.int p1), .val (.int p2), .val (.int p3), .val (.int p4), .val (.int p5), .val (.long j1), .second, .val (.long j2), .second, .val (.long j15), .second, .val (.long j16), .second, .unset, .unset, .unset, .unset, .unset, .unset, .unset, .unset, .unset, .unset, .unset, .unset, .unset]) rfl rfl ?_
    have eB : j16.toInt = j1.toInt + j15.toInt := by rw [e_j16]; exact own_add (by omega) (by omega)
    refine g_iload C X0 (pc' := 49) at_47 rfl rfl ?_
    refine g_i2l C X0 (pc' := 50) at_49 rfl ?_
    obtain ⟨j17, e_j17⟩ : ∃ z : Int64, z = p4.toInt64 := ⟨_, rfl⟩
    refine g_lstore C X0 (pc' := 52) at_50 (x := j17) e_j17 (l' := #[.val (.int p0), .val (.int p1), .val (.int p2), .val (.int p3), .val (.int p4), .val (.int p5), .val (.long j1), .second, .val (.long j2), .second, .val (.long j15), .second, .val (.long j16), .second, .val (.long j17), .second, .unset, .unset, .unset, .unset, .unset, .unset, .unset, .unset, .unset, .unset, .unset]) rfl rfl ?_
    have bC : -2147483648 ≤ j17.toInt ∧ j17.toInt < 2147483648 := by rw [e_j17, c_i2l]; exact rng32 p4
    refine g_iloadN C X0 (pc' := 53) at_52 rfl rfl ?_
    refine g_bipush C X0 (pc' := 55) at_53 (v := (9 : Int32)) (by decide) rfl ?_
    refine g_ishr C X0 (pc' := 56) at_55 rfl ?_
    refine g_iconst C X0 (pc' := 57) at_56 (v := (3 : Int32)) (by decide) rfl ?_
    refine g_iand C X0 (pc' := 58) at_57 rfl ?_
    refine g_if C X0 at_58 (pc' := 65) (pc'' := 61) (by decide) (by decide) rfl (fun c58 => ?_) (fun c58 => ?_)
    · have c58 : ¬ (((p2 >>> ((9 : Int32) &&& 31)) &&& (3 : Int32)).toInt = 0) := c58
      refine g_iconst C X0 (pc' := 66) at_65 (v := (0 : Int32)) (by decide) rfl ?_
      refine g_istore C X0 (pc' := 68) at_66 (x := (0 : Int32)) rfl (l' := #[.val (.int p0), .val (.int p1), .val (.int p2), .val (.int p3), .val (.int p4), .val (.int p5), .val (.long j1), .second, .val (.long j2), .second, .val (.long j15), .second, .val (.long j16), .second, .val (.long j17), .second, .val (.int (0 : Int32)), .unset, .unset, .unset, .unset, .unset, .unset, .unset, .unset, .unset, .unset]) rfl rfl ?_
      refine g_iload C X0 (pc' := 70) at_68 rfl rfl ?_
      refine g_ifY C X0 at_70 (pc' := 183) (by decide) (by decide) (by decide) ?_
      refine g_iloadN C X0 (pc' := 184) at_183 rfl rfl ?_
      refine g_sipush C X0 (pc' := 187) at_184 (v := (255 : Int32)) (by decide) rfl ?_
      refine g_iand C X0 (pc' := 188) at_187 rfl ?_
      refine g_iconst C X0 (pc' := 189) at_188 (v := (1 : Int32)) (by decide) rfl ?_
      refine g_iadd C X0 (pc' := 190) at_189 rfl ?_
      refine g_i2l C X0 (pc' := 191) at_190 rfl ?_
      obtain ⟨j18, e_j18⟩ : ∃ z : Int64, z = ((p2 &&& (255 : Int32)) + (1 : Int32)).toInt64 := ⟨_, rfl⟩
      refine g_lstore C X0 (pc' := 193) at_191 (x := j18) e_j18 (l' := #[.val (.int p0), .val (.int p1), .val (.int p2), .val (.int p3), .val (.int p4), .val (.int p5), .val (.long j1), .second, .val (.long j2), .second, .val (.long j15), .second, .val (.long j16), .second, .val (.long j17), .second, .val (.int (0 : Int32)), .val (.long j18), .second, .unset, .unset, .unset, .unset, .unset, .unset, .unset, .unset]) rfl rfl ?_
      have bk0 := own_k p2
      rw [← e_j18] at bk0
      refine g_iloadN C X0 (pc' := 194) at_193 rfl rfl ?_
      refine g_sipush C X0 (pc' := 197) at_194 (v := (256 : Int32)) (by decide) rfl ?_
      refine g_iand C X0 (pc' := 198) at_197 rfl ?_
      refine g_if C X0 at_198 (pc' := 206) (pc'' := 201) (by decide) (by decide) rfl (fun c198 => ?_) (fun c198 => ?_)
      · have c198 : (p2 &&& (256 : Int32)).toInt = 0 := c198
        have bk : -256 ≤ j18.toInt ∧ j18.toInt ≤ 256 := by omega
        have bk' : j18.toInt ≠ 0 := by omega
        refine g_lload C X0 (pc' := 208) at_206 rfl rfl ?_
        refine g_lload C X0 (pc' := 210) at_208 rfl rfl ?_
        refine g_lload C X0 (pc' := 212) at_210 rfl rfl ?_
        refine g_lsub C X0 (pc' := 213) at_212 rfl ?_
        refine g_lmul C X0 (pc' := 214) at_213 rfl ?_
        refine g_lload C X0 (pc' := 216) at_214 rfl rfl ?_
        refine g_lload C X0 (pc' := 218) at_216 rfl rfl ?_
        refine g_lsub C X0 (pc' := 219) at_218 rfl ?_
        refine g_lmul C X0 (pc' := 220) at_219 rfl ?_
        refine g_lload C X0 (pc' := 222) at_220 rfl rfl ?_
        refine g_ladd C X0 (pc' := 223) at_222 rfl ?_
        obtain ⟨j19, e_j19⟩ : ∃ z : Int64, z = ((j18 * (j1 - j2)) * (j1 - j2)) + j17 := ⟨_, rfl⟩
        refine g_lstore C X0 (pc' := 225) at_223 (x := j19) e_j19 (l' := #[.val (.int p0), .val (.int p1), .val (.int p2), .val (.int p3), .val (.int p4), .val (.int p5), .val (.long j1), .second, .val (.long j2), .second, .val (.long j15), .second, .val (.long j16), .second, .val (.long j17), .second, .val (.int (0 : Int32)), .val (.long j18), .second, .val (.long j19), .second, .unset, .unset, .unset, .unset, .unset, .unset]) rfl rfl ?_
        refine g_ldc2J C X0 (pc' := 228) (hw _ (List.mem_of_getElem? (i := 6) rfl)) at_225 rfl ?_
        refine g_lload C X0 (pc' := 230) at_228 rfl rfl ?_
        refine g_lmul C X0 (pc' := 231) at_230 rfl ?_
        refine g_lload C X0 (pc' := 233) at_231 rfl rfl ?_
        refine g_lload C X0 (pc' := 235) at_233 rfl rfl ?_
        refine g_lsub C X0 (pc' := 236) at_235 rfl ?_
        refine g_lmul C X0 (pc' := 237) at_236 rfl ?_
        obtain ⟨j20, e_j20⟩ : ∃ z : Int64, z = ((2 : Int64) * j18) * (j1 - j2) := ⟨_, rfl⟩
        refine g_lstore C X0 (pc' := 239) at_237 (x := j20) e_j20 (l' := #[.val (.int p0), .val (.int p1), .val (.int p2), .val (.int p3), .val (.int p4), .val (.int p5), .val (.long j1), .second, .val (.long j2), .second, .val (.long j15), .second, .val (.long j16), .second, .val (.long j17), .second, .val (.int (0 : Int32)), .val (.long j18), .second, .val (.long j19), .second, .val (.long j20), .second, .unset, .unset, .unset, .unset]) rfl rfl ?_
        refine g_lload C X0 (pc' := 241) at_239 rfl rfl ?_
        refine g_lload C X0 (pc' := 243) at_241 rfl rfl ?_
        refine g_lload C X0 (pc' := 245) at_243 rfl rfl ?_
        refine g_lsub C X0 (pc' := 246) at_245 rfl ?_
        refine g_lmul C X0 (pc' := 247) at_246 rfl ?_
        refine g_lload C X0 (pc' := 249) at_247 rfl rfl ?_
        refine g_lload C X0 (pc' := 251) at_249 rfl rfl ?_
        refine g_lsub C X0 (pc' := 252) at_251 rfl ?_
        refine g_lmul C X0 (pc' := 253) at_252 rfl ?_
        refine g_lload C X0 (pc' := 255) at_253 rfl rfl ?_
        refine g_ladd C X0 (pc' := 256) at_255 rfl ?_
        obtain ⟨j21, e_j21⟩ : ∃ z : Int64, z = ((j18 * (j16 - j2)) * (j16 - j2)) + j17 := ⟨_, rfl⟩
        refine g_lstore C X0 (pc' := 258) at_256 (x := j21) e_j21 (l' := #[.val (.int p0), .val (.int p1), .val (.int p2), .val (.int p3), .val (.int p4), .val (.int p5), .val (.long j1), .second, .val (.long j2), .second, .val (.long j15), .second, .val (.long j16), .second, .val (.long j17), .second, .val (.int (0 : Int32)), .val (.long j18), .second, .val (.long j19), .second, .val (.long j20), .second, .val (.long j21), .second, .unset, .unset]) rfl rfl ?_
        have eFA := own_poly (k := j18) (a := j1) (m := j2) (c := j17) bk (by omega) bm bC
        rw [← e_j19] at eFA
        have eDA := own_lin (k := j18) (a := j1) (m := j2) bk ba bm
        rw [← e_j20] at eDA
        have eFB := own_poly (k := j18) (a := j16) (m := j2) (c := j17) bk (by omega) bm bC
        rw [← e_j21] at eFB
        have bDA := own_m (X := 512) (Y := 65536) (x := 2 * j18.toInt) (y := j1.toInt - j2.toInt) (by omega) (by omega) (by omega) (by omega)
        refine g_lload C X0 (pc' := 260) at_258 rfl rfl ?_
        refine g_l2d C X0 (pc' := 261) at_260 rfl ?_
        refine g_lload C X0 (pc' := 263) at_261 rfl rfl ?_
        refine g_l2d C X0 (pc' := 264) at_263 rfl ?_
        refine g_lload C X0 (pc' := 266) at_264 rfl rfl ?_
        refine g_l2d C X0 (pc' := 267) at_266 rfl ?_
        refine g_lload C X0 (pc' := 269) at_267 rfl rfl ?_
        refine g_l2d C X0 (pc' := 270) at_269 rfl ?_
        refine g_lload C X0 (pc' := 272) at_270 rfl rfl ?_
        refine g_l2d C X0 (pc' := 273) at_272 rfl ?_
        have hBA : j16.toInt - j1.toInt = j15.toInt := by omega
        have hD := own_alg1 j18.toInt j1.toInt j2.toInt j17.toInt j15.toInt
        rw [← eB, ← eFB.1, ← eFA.1, ← eDA] at hD
        have bP := own_m (X := 33554432) (Y := 32768) (x := j20.toInt) (y := j15.toInt) (by omega) (by omega) (by omega) (by omega)
        have bkh := own_m (X := 256) (Y := 32768) (x := j18.toInt) (y := j15.toInt) (by omega) (by omega) (by omega) (by omega)
        have bkhh := own_m (X := 8388608) (Y := 32768) (x := j18.toInt * j15.toInt) (y := j15.toInt) (by omega) (by omega) (by omega) (by omega)
        have bn := own_m (X := 65536) (Y := 32768) (x := j1.toInt - j2.toInt) (y := G) (by omega) (by omega) (by omega) (by omega)
        have hkh : j18.toInt * j15.toInt * j15.toInt ≠ 0 := Int.mul_ne_zero (Int.mul_ne_zero bk' bH.2.2) bH.2.2
        refine g_callS C X0 (c_par l Z a0 hw h (FP.l2d j1) (FP.l2d j19) (FP.l2d j20) (FP.l2d j16) (FP.l2d j21) _ _ _ _ _ ((j1.toInt - j2.toInt) * G) j2.toInt (l2d_D (x := j1) (by show _ ≤ 9007199254740992; omega)) (l2d_D (x := j19) (by show _ ≤ 9007199254740992; omega)) (l2d_D (x := j20) (by show _ ≤ 9007199254740992; omega)) (l2d_D (x := j16) (by show _ ≤ 9007199254740992; omega)) (l2d_D (x := j21) (by show _ ≤ 9007199254740992; omega)) (by rw [hBA]; show _ ≤ 9007199254740992; omega) (by show _ ≤ 9007199254740992; omega) (by rw [hBA]; show _ ≤ 9007199254740992; omega) (by rw [hBA, hD]; show _ ≤ 9007199254740992; omega) (by rw [hBA, hD]; show _ ≤ 9007199254740992; omega) (by rw [hBA, hD]; omega) (by rw [hBA, hD, eDA]; exact own_alg2 j18.toInt j1.toInt j2.toInt j15.toInt G hG) (by show _ ≤ 9007199254740992; omega) (by rw [hBA]; exact own_alg3 j1.toInt j2.toInt j15.toInt G hG) (by omega) (by show _ ≤ 9007199254740992; omega)) (hw _ (List.mem_of_getElem? (i := 0) rfl)) (hw _ (List.mem_of_getElem? (i := 1) rfl)) (hw _ (List.mem_of_getElem? (i := 2) rfl)) (hw _ (List.mem_of_getElem? (i := 3) rfl)) (by decide) e0 at_273 rfl pd1 [(.double (FP.l2d j1)), (.double (FP.l2d j19)), (.double (FP.l2d j20)), (.double (FP.l2d j16)), (.double (FP.l2d j21))] [] rfl rfl rfl 0 rfl (by decide) (by decide) (by decide) (by decide) rfl ?_
        rintro _ T7 _ X7 ⟨r7, rfl, D_r7, rfl, e7⟩
        rw [List.append_nil] at X7
        show Go p.tables e below _ T7 (mkF m 276 #[.val (.int p0), .val (.int p1), .val (.int p2), .val (.int p3), .val (.int p4), .val (.int p5), .val (.long j1), .second, .val (.long j2), .second, .val (.long j15), .second, .val (.long j16), .second, .val (.long j17), .second, .val (.int (0 : Int32)), .val (.long j18), .second, .val (.long j19), .second, .val (.long j20), .second, .val (.long j21), .second, .unset, .unset] [(.double r7)])
        refine g_dstore C X7 (pc' := 278) at_276 (x := r7) rfl (l' := #[.val (.int p0), .val (.int p1), .val (.int p2), .val (.int p3), .val (.int p4), .val (.int p5), .val (.long j1), .second, .val (.long j2), .second, .val (.long j15), .second, .val (.long j16), .second, .val (.long j17), .second, .val (.int (0 : Int32)), .val (.long j18), .second, .val (.long j19), .second, .val (.long j20), .second, .val (.long j21), .second, .val (.double r7), .second]) rfl rfl ?_
        refine g_dload C X7 (pc' := 280) at_278 rfl rfl ?_
        refine g_lload C X7 (pc' := 282) at_280 rfl rfl ?_
        refine g_l2d C X7 (pc' := 283) at_282 rfl ?_
        refine g_dcmpV C X7 at_283 (v := (0 : Int32)) ((dcmp_cmpI D_r7 (l2d_D (x := j2) (by show _ ≤ 9007199254740992; omega)) _).trans (cmpI_self _)) rfl ?_
        refine g_ifN C X7 at_284 (by decide) rfl ?_
        refine g_iconst C X7 (pc' := 288) at_287 (v := (1 : Int32)) (by decide) rfl ?_
        refine g_goto C X7 at_288 (pc' := 292) (by decide) (by decide) ?_
        exact g_zreturn C X7 at_292 (w := 1) (by decide) ⟨rfl, Fr.nil n0⟩ (by decide) (by decide)
      · have c198 : ¬ ((p2 &&& (256 : Int32)).toInt = 0) := c198
        refine g_lload C X0 (pc' := 203) at_201 rfl rfl ?_
        refine g_lneg C X0 (pc' := 204) at_203 rfl ?_
        obtain ⟨j22, e_j22⟩ : ∃ z : Int64, z = -j18 := ⟨_, rfl⟩
        refine g_lstore C X0 (pc' := 206) at_204 (x := j22) e_j22 (l' := #[.val (.int p0), .val (.int p1), .val (.int p2), .val (.int p3), .val (.int p4), .val (.int p5), .val (.long j1), .second, .val (.long j2), .second, .val (.long j15), .second, .val (.long j16), .second, .val (.long j17), .second, .val (.int (0 : Int32)), .val (.long j22), .second, .unset, .unset, .unset, .unset, .unset, .unset, .unset, .unset]) rfl rfl ?_
        have ek : j22.toInt = -j18.toInt := by rw [e_j22]; exact own_neg (by omega)
        have bk : -256 ≤ j22.toInt ∧ j22.toInt ≤ 256 := by omega
        have bk' : j22.toInt ≠ 0 := by omega
        refine g_lload C X0 (pc' := 208) at_206 rfl rfl ?_
        refine g_lload C X0 (pc' := 210) at_208 rfl rfl ?_
        refine g_lload C X0 (pc' := 212) at_210 rfl rfl ?_
        refine g_lsub C X0 (pc' := 213) at_212 rfl ?_
        refine g_lmul C X0 (pc' := 214) at_213 rfl ?_
        refine g_lload C X0 (pc' := 216) at_214 rfl rfl ?_
        refine g_lload C X0 (pc' := 218) at_216 rfl rfl ?_
        refine g_lsub C X0 (pc' := 219) at_218 rfl ?_
        refine g_lmul C X0 (pc' := 220) at_219 rfl ?_
        refine g_lload C X0 (pc' := 222) at_220 rfl rfl ?_
        refine g_ladd C X0 (pc' := 223) at_222 rfl ?_
        obtain ⟨j23, e_j23⟩ : ∃ z : Int64, z = ((j22 * (j1 - j2)) * (j1 - j2)) + j17 := ⟨_, rfl⟩
        refine g_lstore C X0 (pc' := 225) at_223 (x := j23) e_j23 (l' := #[.val (.int p0), .val (.int p1), .val (.int p2), .val (.int p3), .val (.int p4), .val (.int p5), .val (.long j1), .second, .val (.long j2), .second, .val (.long j15), .second, .val (.long j16), .second, .val (.long j17), .second, .val (.int (0 : Int32)), .val (.long j22), .second, .val (.long j23), .second, .unset, .unset, .unset, .unset, .unset, .unset]) rfl rfl ?_
        refine g_ldc2J C X0 (pc' := 228) (hw _ (List.mem_of_getElem? (i := 6) rfl)) at_225 rfl ?_
        refine g_lload C X0 (pc' := 230) at_228 rfl rfl ?_
        refine g_lmul C X0 (pc' := 231) at_230 rfl ?_
        refine g_lload C X0 (pc' := 233) at_231 rfl rfl ?_
        refine g_lload C X0 (pc' := 235) at_233 rfl rfl ?_
        refine g_lsub C X0 (pc' := 236) at_235 rfl ?_
        refine g_lmul C X0 (pc' := 237) at_236 rfl ?_
        obtain ⟨j24, e_j24⟩ : ∃ z : Int64, z = ((2 : Int64) * j22) * (j1 - j2) := ⟨_, rfl⟩
        refine g_lstore C X0 (pc' := 239) at_237 (x := j24) e_j24 (l' := #[.val (.int p0), .val (.int p1), .val (.int p2), .val (.int p3), .val (.int p4), .val (.int p5), .val (.long j1), .second, .val (.long j2), .second, .val (.long j15), .second, .val (.long j16), .second, .val (.long j17), .second, .val (.int (0 : Int32)), .val (.long j22), .second, .val (.long j23), .second, .val (.long j24), .second, .unset, .unset, .unset, .unset]) rfl rfl ?_
        refine g_lload C X0 (pc' := 241) at_239 rfl rfl ?_
        refine g_lload C X0 (pc' := 243) at_241 rfl rfl ?_
        refine g_lload C X0 (pc' := 245) at_243 rfl rfl ?_
        refine g_lsub C X0 (pc' := 246) at_245 rfl ?_
        refine g_lmul C X0 (pc' := 247) at_246 rfl ?_
        refine g_lload C X0 (pc' := 249) at_247 rfl rfl ?_
        refine g_lload C X0 (pc' := 251) at_249 rfl rfl ?_
        refine g_lsub C X0 (pc' := 252) at_251 rfl ?_
        refine g_lmul C X0 (pc' := 253) at_252 rfl ?_
        refine g_lload C X0 (pc' := 255) at_253 rfl rfl ?_
        refine g_ladd C X0 (pc' := 256) at_255 rfl ?_
        obtain ⟨j25, e_j25⟩ : ∃ z : Int64, z = ((j22 * (j16 - j2)) * (j16 - j2)) + j17 := ⟨_, rfl⟩
        refine g_lstore C X0 (pc' := 258) at_256 (x := j25) e_j25 (l' := #[.val (.int p0), .val (.int p1), .val (.int p2), .val (.int p3), .val (.int p4), .val (.int p5), .val (.long j1), .second, .val (.long j2), .second, .val (.long j15), .second, .val (.long j16), .second, .val (.long j17), .second, .val (.int (0 : Int32)), .val (.long j22), .second, .val (.long j23), .second, .val (.long j24), .second, .val (.long j25), .second, .unset, .unset]) rfl rfl ?_
        have eFA := own_poly (k := j22) (a := j1) (m := j2) (c := j17) bk (by omega) bm bC
        rw [← e_j23] at eFA
        have eDA := own_lin (k := j22) (a := j1) (m := j2) bk ba bm
        rw [← e_j24] at eDA
        have eFB := own_poly (k := j22) (a := j16) (m := j2) (c := j17) bk (by omega) bm bC
        rw [← e_j25] at eFB
        have bDA := own_m (X := 512) (Y := 65536) (x := 2 * j22.toInt) (y := j1.toInt - j2.toInt) (by omega) (by omega) (by omega) (by omega)
        refine g_lload C X0 (pc' := 260) at_258 rfl rfl ?_
        refine g_l2d C X0 (pc' := 261) at_260 rfl ?_
        refine g_lload C X0 (pc' := 263) at_261 rfl rfl ?_
        refine g_l2d C X0 (pc' := 264) at_263 rfl ?_
        refine g_lload C X0 (pc' := 266) at_264 rfl rfl ?_
        refine g_l2d C X0 (pc' := 267) at_266 rfl ?_
        refine g_lload C X0 (pc' := 269) at_267 rfl rfl ?_
        refine g_l2d C X0 (pc' := 270) at_269 rfl ?_
        refine g_lload C X0 (pc' := 272) at_270 rfl rfl ?_
        refine g_l2d C X0 (pc' := 273) at_272 rfl ?_
        have hBA : j16.toInt - j1.toInt = j15.toInt := by omega
        have hD := own_alg1 j22.toInt j1.toInt j2.toInt j17.toInt j15.toInt
        rw [← eB, ← eFB.1, ← eFA.1, ← eDA] at hD
        have bP := own_m (X := 33554432) (Y := 32768) (x := j24.toInt) (y := j15.toInt) (by omega) (by omega) (by omega) (by omega)
        have bkh := own_m (X := 256) (Y := 32768) (x := j22.toInt) (y := j15.toInt) (by omega) (by omega) (by omega) (by omega)
        have bkhh := own_m (X := 8388608) (Y := 32768) (x := j22.toInt * j15.toInt) (y := j15.toInt) (by omega) (by omega) (by omega) (by omega)
        have bn := own_m (X := 65536) (Y := 32768) (x := j1.toInt - j2.toInt) (y := G) (by omega) (by omega) (by omega) (by omega)
        have hkh : j22.toInt * j15.toInt * j15.toInt ≠ 0 := Int.mul_ne_zero (Int.mul_ne_zero bk' bH.2.2) bH.2.2
        refine g_callS C X0 (c_par l Z a0 hw h (FP.l2d j1) (FP.l2d j23) (FP.l2d j24) (FP.l2d j16) (FP.l2d j25) _ _ _ _ _ ((j1.toInt - j2.toInt) * G) j2.toInt (l2d_D (x := j1) (by show _ ≤ 9007199254740992; omega)) (l2d_D (x := j23) (by show _ ≤ 9007199254740992; omega)) (l2d_D (x := j24) (by show _ ≤ 9007199254740992; omega)) (l2d_D (x := j16) (by show _ ≤ 9007199254740992; omega)) (l2d_D (x := j25) (by show _ ≤ 9007199254740992; omega)) (by rw [hBA]; show _ ≤ 9007199254740992; omega) (by show _ ≤ 9007199254740992; omega) (by rw [hBA]; show _ ≤ 9007199254740992; omega) (by rw [hBA, hD]; show _ ≤ 9007199254740992; omega) (by rw [hBA, hD]; show _ ≤ 9007199254740992; omega) (by rw [hBA, hD]; omega) (by rw [hBA, hD, eDA]; exact own_alg2 j22.toInt j1.toInt j2.toInt j15.toInt G hG) (by show _ ≤ 9007199254740992; omega) (by rw [hBA]; exact own_alg3 j1.toInt j2.toInt j15.toInt G hG) (by omega) (by show _ ≤ 9007199254740992; omega)) (hw _ (List.mem_of_getElem? (i := 0) rfl)) (hw _ (List.mem_of_getElem? (i := 1) rfl)) (hw _ (List.mem_of_getElem? (i := 2) rfl)) (hw _ (List.mem_of_getElem? (i := 3) rfl)) (by decide) e0 at_273 rfl pd1 [(.double (FP.l2d j1)), (.double (FP.l2d j23)), (.double (FP.l2d j24)), (.double (FP.l2d j16)), (.double (FP.l2d j25))] [] rfl rfl rfl 0 rfl (by decide) (by decide) (by decide) (by decide) rfl ?_
        rintro _ T8 _ X8 ⟨r8, rfl, D_r8, rfl, e8⟩
        rw [List.append_nil] at X8
        show Go p.tables e below _ T8 (mkF m 276 #[.val (.int p0), .val (.int p1), .val (.int p2), .val (.int p3), .val (.int p4), .val (.int p5), .val (.long j1), .second, .val (.long j2), .second, .val (.long j15), .second, .val (.long j16), .second, .val (.long j17), .second, .val (.int (0 : Int32)), .val (.long j22), .second, .val (.long j23), .second, .val (.long j24), .second, .val (.long j25), .second, .unset, .unset] [(.double r8)])
        refine g_dstore C X8 (pc' := 278) at_276 (x := r8) rfl (l' := #[.val (.int p0), .val (.int p1), .val (.int p2), .val (.int p3), .val (.int p4), .val (.int p5), .val (.long j1), .second, .val (.long j2), .second, .val (.long j15), .second, .val (.long j16), .second, .val (.long j17), .second, .val (.int (0 : Int32)), .val (.long j22), .second, .val (.long j23), .second, .val (.long j24), .second, .val (.long j25), .second, .val (.double r8), .second]) rfl rfl ?_
        refine g_dload C X8 (pc' := 280) at_278 rfl rfl ?_
        refine g_lload C X8 (pc' := 282) at_280 rfl rfl ?_
        refine g_l2d C X8 (pc' := 283) at_282 rfl ?_
        refine g_dcmpV C X8 at_283 (v := (0 : Int32)) ((dcmp_cmpI D_r8 (l2d_D (x := j2) (by show _ ≤ 9007199254740992; omega)) _).trans (cmpI_self _)) rfl ?_
        refine g_ifN C X8 at_284 (by decide) rfl ?_
        refine g_iconst C X8 (pc' := 288) at_287 (v := (1 : Int32)) (by decide) rfl ?_
        refine g_goto C X8 at_288 (pc' := 292) (by decide) (by decide) ?_
        exact g_zreturn C X8 at_292 (w := 1) (by decide) ⟨rfl, Fr.nil n0⟩ (by decide) (by decide)
    · have c58 : ((p2 >>> ((9 : Int32) &&& 31)) &&& (3 : Int32)).toInt = 0 := Decidable.not_not.mp c58
      refine g_iconst C X0 (pc' := 62) at_61 (v := (1 : Int32)) (by decide) rfl ?_
      refine g_goto C X0 at_62 (pc' := 66) (by decide) (by decide) ?_
      refine g_istore C X0 (pc' := 68) at_66 (x := (1 : Int32)) rfl (l' := #[.val (.int p0), .val (.int p1), .val (.int p2), .val (.int p3), .val (.int p4), .val (.int p5), .val (.long j1), .second, .val (.long j2), .second, .val (.long j15), .second, .val (.long j16), .second, .val (.long j17), .second, .val (.int (1 : Int32)), .unset, .unset, .unset, .unset, .unset, .unset, .unset, .unset, .unset, .unset]) rfl rfl ?_
      refine g_iload C X0 (pc' := 70) at_68 rfl rfl ?_
      refine g_ifN C X0 at_70 (by decide) rfl ?_
      refine g_iload C X0 (pc' := 75) at_73 rfl rfl ?_
      refine g_i2l C X0 (pc' := 76) at_75 rfl ?_
      obtain ⟨j26, e_j26⟩ : ∃ z : Int64, z = p5.toInt64 := ⟨_, rfl⟩
      refine g_lstore C X0 (pc' := 78) at_76 (x := j26) e_j26 (l' := #[.val (.int p0), .val (.int p1), .val (.int p2), .val (.int p3), .val (.int p4), .val (.int p5), .val (.long j1), .second, .val (.long j2), .second, .val (.long j15), .second, .val (.long j16), .second, .val (.long j17), .second, .val (.int (1 : Int32)), .val (.long j26), .second, .unset, .unset, .unset, .unset, .unset, .unset, .unset, .unset]) rfl rfl ?_
      refine g_lload C X0 (pc' := 80) at_78 rfl rfl ?_
      refine g_lconst C X0 (pc' := 81) at_80 (v := (0 : Int64)) (by decide) rfl ?_
      refine g_lcmp C X0 (pc' := 82) at_81 rfl ?_
      refine g_if C X0 at_82 (pc' := 88) (pc'' := 85) (by decide) (by decide) rfl (fun c82 => ?_) (fun c82 => ?_)
      · have c82 : ¬ ((XT.cmpL j26 (0 : Int64)).toInt = 0) := c82
        have zl_0 : (0 : Int64).toInt = 0 := by decide
        have c82 : ¬ (j26.toInt = (0 : Int64).toInt) := fun q => c82 ((cmpL_eq _ _).mpr q)
        have bS0 := rng32 p5
        have bS1 : j26.toInt = p5.toInt := by rw [e_j26]; exact c_i2l p5
        have bS : -2147483648 ≤ j26.toInt ∧ j26.toInt < 2147483648 ∧ j26.toInt ≠ 0 := by omega
        refine g_lload C X0 (pc' := 90) at_88 rfl rfl ?_
        refine g_l2d C X0 (pc' := 91) at_90 rfl ?_
        refine g_lload C X0 (pc' := 93) at_91 rfl rfl ?_
        refine g_l2d C X0 (pc' := 94) at_93 rfl ?_
        refine g_lload C X0 (pc' := 96) at_94 rfl rfl ?_
        refine g_l2d C X0 (pc' := 97) at_96 rfl ?_
        refine g_lload C X0 (pc' := 99) at_97 rfl rfl ?_
        refine g_l2d C X0 (pc' := 100) at_99 rfl ?_
        refine g_lload C X0 (pc' := 102) at_100 rfl rfl ?_
        refine g_lload C X0 (pc' := 104) at_102 rfl rfl ?_
        refine g_lload C X0 (pc' := 106) at_104 rfl rfl ?_
        refine g_lmul C X0 (pc' := 107) at_106 rfl ?_
        refine g_ladd C X0 (pc' := 108) at_107 rfl ?_
        have mSH := own_m (X := 2147483648) (Y := 32768) (x := j26.toInt) (y := j15.toInt) (by omega) (by omega) (by omega) (by omega)
        have eSH := own_mul (x := j26) (y := j15) (by omega) (by omega)
        have eF : (j17 + (j26 * j15)).toInt = j17.toInt + j26.toInt * j15.toInt := by rw [own_add (by omega) (by omega), eSH]
        refine g_l2d C X0 (pc' := 109) at_108 rfl ?_
        have hBA : j16.toInt - j1.toInt = j15.toInt := by omega
        have hP : j26.toInt * j15.toInt ≠ 0 := Int.mul_ne_zero bS.2.2 bH.2.2
        rcases Int.lt_or_gt_of_ne bS.2.2 with hs | hs
        · refine g_callS C X0 (c_line l Z a0 hw h (FP.l2d j1) (FP.l2d j17) (FP.l2d j26) (FP.l2d j16) (FP.l2d (j17 + (j26 * j15))) _ _ _ _ _ (l2d_D (x := j1) (by show _ ≤ 9007199254740992; omega)) (l2d_D (x := j17) (by show _ ≤ 9007199254740992; omega)) (l2d_D (x := j26) (by show _ ≤ 9007199254740992; omega)) (l2d_D (x := j16) (by show _ ≤ 9007199254740992; omega)) (l2d_D (x := j17 + (j26 * j15)) (by show _ ≤ 9007199254740992; omega)) (by rw [hBA]; show _ ≤ 9007199254740992; omega) (by rw [eF]; show _ ≤ 9007199254740992; omega) (by rw [hBA]; show _ ≤ 9007199254740992; omega) (by rw [eF, hBA]; omega) bS.2.2 (by rw [hBA]; exact bH.2.2) (by rw [hBA]; exact hP)) (hw _ (List.mem_of_getElem? (i := 0) rfl)) (hw _ (List.mem_of_getElem? (i := 1) rfl)) (hw _ (List.mem_of_getElem? (i := 2) rfl)) (hw _ (List.mem_of_getElem? (i := 3) rfl)) (by decide) e0 at_109 rfl pd1 [(.double (FP.l2d j1)), (.double (FP.l2d j17)), (.double (FP.l2d j26)), (.double (FP.l2d j16)), (.double (FP.l2d (j17 + (j26 * j15))))] [] rfl rfl rfl 0 rfl (by decide) (by decide) (by decide) (by decide) rfl ?_
          rintro _ T9 _ X9 ⟨rfl, rfl, e9⟩
          rw [List.append_nil] at X9
          have hr : own_inf (!decide (j26.toInt < 0)) = (9218868437227405312 : UInt64) := by rw [show decide (j26.toInt < 0) = true from decide_eq_true hs]; rfl
          simp only [hr]
          show Go p.tables e below _ T9 (mkF m 112 #[.val (.int p0), .val (.int p1), .val (.int p2), .val (.int p3), .val (.int p4), .val (.int p5), .val (.long j1), .second, .val (.long j2), .second, .val (.long j15), .second, .val (.long j16), .second, .val (.long j17), .second, .val (.int (1 : Int32)), .val (.long j26), .second, .unset, .unset, .unset, .unset, .unset, .unset, .unset, .unset] [(.double (9218868437227405312 : UInt64))])
          refine g_dstore C X9 (pc' := 114) at_112 (x := (9218868437227405312 : UInt64)) rfl (l' := #[.val (.int p0), .val (.int p1), .val (.int p2), .val (.int p3), .val (.int p4), .val (.int p5), .val (.long j1), .second, .val (.long j2), .second, .val (.long j15), .second, .val (.long j16), .second, .val (.long j17), .second, .val (.int (1 : Int32)), .val (.long j26), .second, .val (.double (9218868437227405312 : UInt64)), .second, .unset, .unset, .unset, .unset, .unset, .unset]) rfl rfl ?_
          refine g_dload C X9 (pc' := 116) at_114 rfl rfl ?_
          refine g_ldc2D C X9 (pc' := 119) (hw _ (List.mem_of_getElem? (i := 5) rfl)) at_116 rfl ?_
          have z119 : FP.dmul (9218868437227405312 : UInt64) (4611686018427387904 : UInt64) = (9218868437227405312 : UInt64) := by decide +kernel
          refine g_dmul C X9 at_119 (by rw [z119]; unfold Jvm.Free.Fl.NoNaN64; decide) rfl ?_
          rw [z119]
          refine g_dload C X9 (pc' := 122) at_120 rfl rfl ?_
          refine g_dcmpV C X9 (pc' := 123) at_122 (v := (0 : Int32)) (by decide +kernel) rfl ?_
          refine g_ifN C X9 at_123 (by decide) rfl ?_
          refine g_dload C X9 (pc' := 128) at_126 rfl rfl ?_
          refine g_dconst0 C X9 (pc' := 129) at_128 rfl rfl ?_
          refine g_dcmpV C X9 (pc' := 130) at_129 (v := (1 : Int32)) (by decide +kernel) rfl ?_
          refine g_ifN C X9 at_130 (by decide) rfl ?_
          refine g_iconst C X9 (pc' := 134) at_133 (v := (1 : Int32)) (by decide) rfl ?_
          refine g_goto C X9 at_134 (pc' := 138) (by decide) (by decide) ?_
          refine g_istore C X9 (pc' := 140) at_138 (x := (1 : Int32)) rfl (l' := #[.val (.int p0), .val (.int p1), .val (.int p2), .val (.int p3), .val (.int p4), .val (.int p5), .val (.long j1), .second, .val (.long j2), .second, .val (.long j15), .second, .val (.long j16), .second, .val (.long j17), .second, .val (.int (1 : Int32)), .val (.long j26), .second, .val (.double (9218868437227405312 : UInt64)), .second, .val (.int (1 : Int32)), .unset, .unset, .unset, .unset, .unset]) rfl rfl ?_
          refine g_lload C X9 (pc' := 142) at_140 rfl rfl ?_
          refine g_lconst C X9 (pc' := 143) at_142 (v := (0 : Int64)) (by decide) rfl ?_
          refine g_lcmp C X9 (pc' := 144) at_143 rfl ?_
          refine g_if C X9 at_144 (pc' := 165) (pc'' := 147) (by decide) (by decide) rfl (fun c144 => ?_) (fun c144 => ?_)
          · have c144 : ¬ (0 < (XT.cmpL j26 (0 : Int64)).toInt) := c144
            have zl_0 : (0 : Int64).toInt = 0 := by decide
            have c144 : ¬ ((0 : Int64).toInt < j26.toInt) := fun q => c144 ((cmpL_gt _ _).mpr q)
            refine g_iload C X9 (pc' := 167) at_165 rfl rfl ?_
            refine g_ifN C X9 at_167 (by decide) rfl ?_
            refine g_dconst0 C X9 (pc' := 171) at_170 rfl rfl ?_
            refine g_dload C X9 (pc' := 173) at_171 rfl rfl ?_
            refine g_dcmpV C X9 (pc' := 174) at_173 (v := (-1 : Int32)) (by decide +kernel) rfl ?_
            refine g_ifN C X9 at_174 (by decide) rfl ?_
            refine g_iconst C X9 (pc' := 178) at_177 (v := (1 : Int32)) (by decide) rfl ?_
            refine g_goto C X9 at_178 (pc' := 182) (by decide) (by decide) ?_
            exact g_zreturn C X9 at_182 (w := 1) (by decide) ⟨rfl, Fr.nil n0⟩ (by decide) (by decide)
          · have c144 : 0 < (XT.cmpL j26 (0 : Int64)).toInt := Decidable.not_not.mp c144
            have zl_0 : (0 : Int64).toInt = 0 := by decide
            have c144 : (0 : Int64).toInt < j26.toInt := (cmpL_gt _ _).mp c144
            refine g_iload C X9 (pc' := 149) at_147 rfl rfl ?_
            refine g_ifN C X9 at_149 (by decide) rfl ?_
            refine g_dload C X9 (pc' := 154) at_152 rfl rfl ?_
            refine g_dconst0 C X9 (pc' := 155) at_154 rfl rfl ?_
            refine g_dcmpV C X9 (pc' := 156) at_155 (v := (1 : Int32)) (by decide +kernel) rfl ?_
            refine g_ifY C X9 at_156 (pc' := 163) (by decide) (by decide) (by decide) ?_
            refine g_iconst C X9 (pc' := 164) at_163 (v := (0 : Int32)) (by decide) rfl ?_
            exfalso; omega
        · refine g_callS C X0 (c_line l Z a0 hw h (FP.l2d j1) (FP.l2d j17) (FP.l2d j26) (FP.l2d j16) (FP.l2d (j17 + (j26 * j15))) _ _ _ _ _ (l2d_D (x := j1) (by show _ ≤ 9007199254740992; omega)) (l2d_D (x := j17) (by show _ ≤ 9007199254740992; omega)) (l2d_D (x := j26) (by show _ ≤ 9007199254740992; omega)) (l2d_D (x := j16) (by show _ ≤ 9007199254740992; omega)) (l2d_D (x := j17 + (j26 * j15)) (by show _ ≤ 9007199254740992; omega)) (by rw [hBA]; show _ ≤ 9007199254740992; omega) (by rw [eF]; show _ ≤ 9007199254740992; omega) (by rw [hBA]; show _ ≤ 9007199254740992; omega) (by rw [eF, hBA]; omega) bS.2.2 (by rw [hBA]; exact bH.2.2) (by rw [hBA]; exact hP)) (hw _ (List.mem_of_getElem? (i := 0) rfl)) (hw _ (List.mem_of_getElem? (i := 1) rfl)) (hw _ (List.mem_of_getElem? (i := 2) rfl)) (hw _ (List.mem_of_getElem? (i := 3) rfl)) (by decide) e0 at_109 rfl pd1 [(.double (FP.l2d j1)), (.double (FP.l2d j17)), (.double (FP.l2d j26)), (.double (FP.l2d j16)), (.double (FP.l2d (j17 + (j26 * j15))))] [] rfl rfl rfl 0 rfl (by decide) (by decide) (by decide) (by decide) rfl ?_
          rintro _ T10 _ X10 ⟨rfl, rfl, e10⟩
          rw [List.append_nil] at X10
          have hr : own_inf (!decide (j26.toInt < 0)) = (18442240474082181120 : UInt64) := by rw [show decide (j26.toInt < 0) = false from decide_eq_false (by omega)]; rfl
          simp only [hr]
          show Go p.tables e below _ T10 (mkF m 112 #[.val (.int p0), .val (.int p1), .val (.int p2), .val (.int p3), .val (.int p4), .val (.int p5), .val (.long j1), .second, .val (.long j2), .second, .val (.long j15), .second, .val (.long j16), .second, .val (.long j17), .second, .val (.int (1 : Int32)), .val (.long j26), .second, .unset, .unset, .unset, .unset, .unset, .unset, .unset, .unset] [(.double (18442240474082181120 : UInt64))])
          refine g_dstore C X10 (pc' := 114) at_112 (x := (18442240474082181120 : UInt64)) rfl (l' := #[.val (.int p0), .val (.int p1), .val (.int p2), .val (.int p3), .val (.int p4), .val (.int p5), .val (.long j1), .second, .val (.long j2), .second, .val (.long j15), .second, .val (.long j16), .second, .val (.long j17), .second, .val (.int (1 : Int32)), .val (.long j26), .second, .val (.double (18442240474082181120 : UInt64)), .second, .unset, .unset, .unset, .unset, .unset, .unset]) rfl rfl ?_
          refine g_dload C X10 (pc' := 116) at_114 rfl rfl ?_
          refine g_ldc2D C X10 (pc' := 119) (hw _ (List.mem_of_getElem? (i := 5) rfl)) at_116 rfl ?_
          have z119 : FP.dmul (18442240474082181120 : UInt64) (4611686018427387904 : UInt64) = (18442240474082181120 : UInt64) := by decide +kernel
          refine g_dmul C X10 at_119 (by rw [z119]; unfold Jvm.Free.Fl.NoNaN64; decide) rfl ?_
          rw [z119]
          refine g_dload C X10 (pc' := 122) at_120 rfl rfl ?_
          refine g_dcmpV C X10 (pc' := 123) at_122 (v := (0 : Int32)) (by decide +kernel) rfl ?_
          refine g_ifN C X10 at_123 (by decide) rfl ?_
          refine g_dload C X10 (pc' := 128) at_126 rfl rfl ?_
          refine g_dconst0 C X10 (pc' := 129) at_128 rfl rfl ?_
          refine g_dcmpV C X10 (pc' := 130) at_129 (v := (-1 : Int32)) (by decide +kernel) rfl ?_
          refine g_ifN C X10 at_130 (by decide) rfl ?_
          refine g_iconst C X10 (pc' := 134) at_133 (v := (1 : Int32)) (by decide) rfl ?_
          refine g_goto C X10 at_134 (pc' := 138) (by decide) (by decide) ?_
          refine g_istore C X10 (pc' := 140) at_138 (x := (1 : Int32)) rfl (l' := #[.val (.int p0), .val (.int p1), .val (.int p2), .val (.int p3), .val (.int p4), .val (.int p5), .val (.long j1), .second, .val (.long j2), .second, .val (.long j15), .second, .val (.long j16), .second, .val (.long j17), .second, .val (.int (1 : Int32)), .val (.long j26), .second, .val (.double (18442240474082181120 : UInt64)), .second, .val (.int (1 : Int32)), .unset, .unset, .unset, .unset, .unset]) rfl rfl ?_
          refine g_lload C X10 (pc' := 142) at_140 rfl rfl ?_
          refine g_lconst C X10 (pc' := 143) at_142 (v := (0 : Int64)) (by decide) rfl ?_
          refine g_lcmp C X10 (pc' := 144) at_143 rfl ?_
          refine g_if C X10 at_144 (pc' := 165) (pc'' := 147) (by decide) (by decide) rfl (fun c144 => ?_) (fun c144 => ?_)
          · have c144 : ¬ (0 < (XT.cmpL j26 (0 : Int64)).toInt) := c144
            have zl_0 : (0 : Int64).toInt = 0 := by decide
            have c144 : ¬ ((0 : Int64).toInt < j26.toInt) := fun q => c144 ((cmpL_gt _ _).mpr q)
            refine g_iload C X10 (pc' := 167) at_165 rfl rfl ?_
            refine g_ifN C X10 at_167 (by decide) rfl ?_
            refine g_dconst0 C X10 (pc' := 171) at_170 rfl rfl ?_
            refine g_dload C X10 (pc' := 173) at_171 rfl rfl ?_
            refine g_dcmpV C X10 (pc' := 174) at_173 (v := (1 : Int32)) (by decide +kernel) rfl ?_
            refine g_ifY C X10 at_174 (pc' := 181) (by decide) (by decide) (by decide) ?_
            refine g_iconst C X10 (pc' := 182) at_181 (v := (0 : Int32)) (by decide) rfl ?_
            exfalso; omega
          · have c144 : 0 < (XT.cmpL j26 (0 : Int64)).toInt := Decidable.not_not.mp c144
            have zl_0 : (0 : Int64).toInt = 0 := by decide
            have c144 : (0 : Int64).toInt < j26.toInt := (cmpL_gt _ _).mp c144
            refine g_iload C X10 (pc' := 149) at_147 rfl rfl ?_
            refine g_ifN C X10 at_149 (by decide) rfl ?_
            refine g_dload C X10 (pc' := 154) at_152 rfl rfl ?_
            refine g_dconst0 C X10 (pc' := 155) at_154 rfl rfl ?_
            refine g_dcmpV C X10 (pc' := 156) at_155 (v := (-1 : Int32)) (by decide +kernel) rfl ?_
            refine g_ifN C X10 at_156 (by decide) rfl ?_
            refine g_iconst C X10 (pc' := 160) at_159 (v := (1 : Int32)) (by decide) rfl ?_
            refine g_goto C X10 at_160 (pc' := 164) (by decide) (by decide) ?_
            exact g_zreturn C X10 at_164 (w := 1) (by decide) ⟨rfl, Fr.nil n0⟩ (by decide) (by decide)
      · have c82 : (XT.cmpL j26 (0 : Int64)).toInt = 0 := Decidable.not_not.mp c82
        have zl_0 : (0 : Int64).toInt = 0 := by decide
        have c82 : j26.toInt = (0 : Int64).toInt := (cmpL_eq _ _).mp c82
        refine g_lconst C X0 (pc' := 86) at_85 (v := (1 : Int64)) (by decide) rfl ?_
        refine g_lstore C X0 (pc' := 88) at_86 (x := (1 : Int64)) rfl (l' := #[.val (.int p0), .val (.int p1), .val (.int p2), .val (.int p3), .val (.int p4), .val (.int p5), .val (.long j1), .second, .val (.long j2), .second, .val (.long j15), .second, .val (.long j16), .second, .val (.long j17), .second, .val (.int (1 : Int32)), .val (.long (1 : Int64)), .second, .unset, .unset, .unset, .unset, .unset, .unset, .unset, .unset]) rfl rfl ?_
        have bS : -2147483648 ≤ (1 : Int64).toInt ∧ (1 : Int64).toInt < 2147483648 ∧ (1 : Int64).toInt ≠ 0 := by decide
        refine g_lload C X0 (pc' := 90) at_88 rfl rfl ?_
        refine g_l2d C X0 (pc' := 91) at_90 rfl ?_
        refine g_lload C X0 (pc' := 93) at_91 rfl rfl ?_
        refine g_l2d C X0 (pc' := 94) at_93 rfl ?_
        refine g_lload C X0 (pc' := 96) at_94 rfl rfl ?_
        refine g_l2d C X0 (pc' := 97) at_96 rfl ?_
        refine g_lload C X0 (pc' := 99) at_97 rfl rfl ?_
        refine g_l2d C X0 (pc' := 100) at_99 rfl ?_
        refine g_lload C X0 (pc' := 102) at_100 rfl rfl ?_
        refine g_lload C X0 (pc' := 104) at_102 rfl rfl ?_
        refine g_lload C X0 (pc' := 106) at_104 rfl rfl ?_
        refine g_lmul C X0 (pc' := 107) at_106 rfl ?_
        refine g_ladd C X0 (pc' := 108) at_107 rfl ?_
        have mSH := own_m (X := 2147483648) (Y := 32768) (x := (1 : Int64).toInt) (y := j15.toInt) (by omega) (by omega) (by omega) (by omega)
        have eSH := own_mul (x := (1 : Int64)) (y := j15) (by omega) (by omega)
        have eF : (j17 + ((1 : Int64) * j15)).toInt = j17.toInt + (1 : Int64).toInt * j15.toInt := by rw [own_add (by omega) (by omega), eSH]
        refine g_l2d C X0 (pc' := 109) at_108 rfl ?_
        have hBA : j16.toInt - j1.toInt = j15.toInt := by omega
        have hP : (1 : Int64).toInt * j15.toInt ≠ 0 := Int.mul_ne_zero bS.2.2 bH.2.2
        rcases Int.lt_or_gt_of_ne bS.2.2 with hs | hs
        · exact absurd hs (by decide)
        · refine g_callS C X0 (c_line l Z a0 hw h (FP.l2d j1) (FP.l2d j17) (FP.l2d (1 : Int64)) (FP.l2d j16) (FP.l2d (j17 + ((1 : Int64) * j15))) _ _ _ _ _ (l2d_D (x := j1) (by show _ ≤ 9007199254740992; omega)) (l2d_D (x := j17) (by show _ ≤ 9007199254740992; omega)) (l2d_D (x := (1 : Int64)) (by decide)) (l2d_D (x := j16) (by show _ ≤ 9007199254740992; omega)) (l2d_D (x := j17 + ((1 : Int64) * j15)) (by show _ ≤ 9007199254740992; omega)) (by rw [hBA]; show _ ≤ 9007199254740992; omega) (by rw [eF]; show _ ≤ 9007199254740992; omega) (by rw [hBA]; show _ ≤ 9007199254740992; omega) (by rw [eF, hBA]; omega) bS.2.2 (by rw [hBA]; exact bH.2.2) (by rw [hBA]; exact hP)) (hw _ (List.mem_of_getElem? (i := 0) rfl)) (hw _ (List.mem_of_getElem? (i := 1) rfl)) (hw _ (List.mem_of_getElem? (i := 2) rfl)) (hw _ (List.mem_of_getElem? (i := 3) rfl)) (by decide) e0 at_109 rfl pd1 [(.double (FP.l2d j1)), (.double (FP.l2d j17)), (.double (FP.l2d (1 : Int64))), (.double (FP.l2d j16)), (.double (FP.l2d (j17 + ((1 : Int64) * j15))))] [] rfl rfl rfl 0 rfl (by decide) (by decide) (by decide) (by decide) rfl ?_
          rintro _ T12 _ X12 ⟨rfl, rfl, e12⟩
          rw [List.append_nil] at X12
          have hr : own_inf (!decide ((1 : Int64).toInt < 0)) = (18442240474082181120 : UInt64) := by rw [show decide ((1 : Int64).toInt < 0) = false from decide_eq_false (by omega)]; rfl
          simp only [hr]
          show Go p.tables e below _ T12 (mkF m 112 #[.val (.int p0), .val (.int p1), .val (.int p2), .val (.int p3), .val (.int p4), .val (.int p5), .val (.long j1), .second, .val (.long j2), .second, .val (.long j15), .second, .val (.long j16), .second, .val (.long j17), .second, .val (.int (1 : Int32)), .val (.long (1 : Int64)), .second, .unset, .unset, .unset, .unset, .unset, .unset, .unset, .unset] [(.double (18442240474082181120 : UInt64))])
          refine g_dstore C X12 (pc' := 114) at_112 (x := (18442240474082181120 : UInt64)) rfl (l' := #[.val (.int p0), .val (.int p1), .val (.int p2), .val (.int p3), .val (.int p4), .val (.int p5), .val (.long j1), .second, .val (.long j2), .second, .val (.long j15), .second, .val (.long j16), .second, .val (.long j17), .second, .val (.int (1 : Int32)), .val (.long (1 : Int64)), .second, .val (.double (18442240474082181120 : UInt64)), .second, .unset, .unset, .unset, .unset, .unset, .unset]) rfl rfl ?_
          refine g_dload C X12 (pc' := 116) at_114 rfl rfl ?_
          refine g_ldc2D C X12 (pc' := 119) (hw _ (List.mem_of_getElem? (i := 5) rfl)) at_116 rfl ?_
          have z119 : FP.dmul (18442240474082181120 : UInt64) (4611686018427387904 : UInt64) = (18442240474082181120 : UInt64) := by decide +kernel
          refine g_dmul C X12 at_119 (by rw [z119]; unfold Jvm.Free.Fl.NoNaN64; decide) rfl ?_
          rw [z119]
          refine g_dload C X12 (pc' := 122) at_120 rfl rfl ?_
          refine g_dcmpV C X12 (pc' := 123) at_122 (v := (0 : Int32)) (by decide +kernel) rfl ?_
          refine g_ifN C X12 at_123 (by decide) rfl ?_
          refine g_dload C X12 (pc' := 128) at_126 rfl rfl ?_
          refine g_dconst0 C X12 (pc' := 129) at_128 rfl rfl ?_
          refine g_dcmpV C X12 (pc' := 130) at_129 (v := (-1 : Int32)) (by decide +kernel) rfl ?_
          refine g_ifN C X12 at_130 (by decide) rfl ?_
          refine g_iconst C X12 (pc' := 134) at_133 (v := (1 : Int32)) (by decide) rfl ?_
          refine g_goto C X12 at_134 (pc' := 138) (by decide) (by decide) ?_
          refine g_istore C X12 (pc' := 140) at_138 (x := (1 : Int32)) rfl (l' := #[.val (.int p0), .val (.int p1), .val (.int p2), .val (.int p3), .val (.int p4), .val (.int p5), .val (.long j1), .second, .val (.long j2), .second, .val (.long j15), .second, .val (.long j16), .second, .val (.long j17), .second, .val (.int (1 : Int32)), .val (.long (1 : Int64)), .second, .val (.double (18442240474082181120 : UInt64)), .second, .val (.int (1 : Int32)), .unset, .unset, .unset, .unset, .unset]) rfl rfl ?_
          refine g_lload C X12 (pc' := 142) at_140 rfl rfl ?_
          refine g_lconst C X12 (pc' := 143) at_142 (v := (0 : Int64)) (by decide) rfl ?_
          refine g_lcmp C X12 (pc' := 144) at_143 rfl ?_
          refine g_ifN C X12 at_144 (by decide) rfl ?_
          refine g_iload C X12 (pc' := 149) at_147 rfl rfl ?_
          refine g_ifN C X12 at_149 (by decide) rfl ?_
          refine g_dload C X12 (pc' := 154) at_152 rfl rfl ?_
          refine g_dconst0 C X12 (pc' := 155) at_154 rfl rfl ?_
          refine g_dcmpV C X12 (pc' := 156) at_155 (v := (-1 : Int32)) (by decide +kernel) rfl ?_
          refine g_ifN C X12 at_156 (by decide) rfl ?_
          refine g_iconst C X12 (pc' := 160) at_159 (v := (1 : Int32)) (by decide) rfl ?_
          refine g_goto C X12 at_160 (pc' := 164) (by decide) (by decide) ?_
          exact g_zreturn C X12 at_164 (w := 1) (by decide) ⟨rfl, Fr.nil n0⟩ (by decide) (by decide)
set_option maxRecDepth 65536 in
set_option maxHeartbeats 40000000 in
theorem comes_1 {Post : Tables → Env → Array Value → State → Outcome → State → Prop} (hpost : ∀ tb e args s v u, (limb_1_1.after args s (.returned v) u = true ∧ limb_1_2.after args s (.returned v) u = true ∧ True) → FrameEnd s (.returned v) u (Jvm.fieldLocs frame_1_writes args s ++ Jvm.arrayLocs frame_1_arrays args s ++ Jvm.staticLocs frame_1_statics s) 0 0 → Post tb e args s (.returned v) u) :
    ArmFor flags0 classFile x code maxLocals ret World_1 tables_1 room_1 Calls_1 rest_1 Pre_1 Post := by
  intro l hfl _ _ p e ha hc hk s m args below hf hA hF happ hP
  obtain ⟨hcalls, hrest, hpre⟩ := hP
  obtain ⟨-, -, -, hnamed, -, -, -, hat⟩ := (Spec.applies_iff hf).mp happ
  obtain ⟨hg, hn⟩ := and_e (Cond.before_iff.mp (show (Jvm.Cond.and given_1 narrow_1).before args s = true from hpre))
  obtain ⟨g_c, g_0⟩ := and_e hg
  obtain ⟨k_0, g_1⟩ := and_e g_0
  obtain ⟨k_1, g_2⟩ := and_e g_1
  obtain ⟨k_2, g_3⟩ := and_e g_2
  obtain ⟨k_3, g_4⟩ := and_e g_3
  obtain ⟨k_4, g_5⟩ := and_e g_4
  have k_5 := g_5
  obtain ⟨w0, w1, w2, w3, w4, w5, rfl⟩ : ∃ w0 w1 w2 w3 w4 w5 : Value, args = #[w0, w1, w2, w3, w4, w5] := by
    have hs : args.size = 6 := by simpa [Cond.value, given_1] using g_c
    obtain ⟨L⟩ := args
    match L, hs with
    | [w0, w1, w2, w3, w4, w5], _ => exact ⟨w0, w1, w2, w3, w4, w5, rfl⟩
  have hw := fun d (hd : d ∈ tables_1) => atoms_spec (ws := Jvm.Cond.code x code maxLocals ret :: tables_1) hat d (List.mem_cons_of_mem _ hd)
  have hfit : Fit s := fun {y c} hc i hi => by
    obtain ⟨ha, rfl⟩ := Array.getElem?_eq_some_iff.mp hc
    have q := List.all_eq_true.mp ((Array.all_eq_true_iff_forall_mem.mp hF) _ (Array.getElem_mem ha)) i (List.mem_range.mpr hi)
    simpa [Array.getElem?_eq_getElem hi] using q
  obtain ⟨p0, q_0⟩ := is_v k_0
  obtain rfl : w0 = (.int p0) := Option.some.inj q_0
  obtain ⟨p1, q_1⟩ := is_v k_1
  obtain rfl : w1 = (.int p1) := Option.some.inj q_1
  obtain ⟨p2, q_2⟩ := is_v k_2
  obtain rfl : w2 = (.int p2) := Option.some.inj q_2
  obtain ⟨p3, q_3⟩ := is_v k_3
  obtain rfl : w3 = (.int p3) := Option.some.inj q_3
  obtain ⟨p4, q_4⟩ := is_v k_4
  obtain rfl : w4 = (.int p4) := Option.some.inj q_4
  obtain ⟨p5, q_5⟩ := is_v k_5
  obtain rfl : w5 = (.int p5) := Option.some.inj q_5
  obtain ⟨n, o, h1, h2, h3, _, L, rfl, ⟨rfl, N⟩, hq⟩ := law l s _ hw p0 p1 p2 p3 p4 p5 s.heap s.heap.size (Nat.le_refl _)  tables_1 p e ha hc hk s m _ below hf ((Spec.applies_iff_loose hf).mp happ).1 ⟨rfl, State.Warmed39.refl s, rfl⟩ trivial
  refine ⟨n, _, h1, h2, h3, hpost _ _ _ _ _ _ ⟨Cond.after_iff.mpr rfl, Cond.after_iff.mpr (eq_i res_at (Term.int_eval (1)) rfl), trivial⟩ ⟨hq.1, hq.2.1, (hq.2.2.sift fun y hy => Or.inr (N y hy)).mono (by decide) (by decide)⟩⟩
theorem main_1_1 : Claimed_1_1 := comes_1 fun _ _ _ _ _ _ h hF => ⟨h.1, hF⟩
theorem main_1_2 : Claimed_1_2 := comes_1 fun _ _ _ _ _ _ h hF => ⟨h.2.1, hF⟩
end Jvm.Pilot.@@N@@
namespace Jvm.Pilot.@@N@@
open Jvm Jvm.ClassFile Sem Op Lib Jvm.Free Jvm.Stand Jvm.Pilot.@@N@@.Jvm.D
/-! MADE BY PROGRAM (witnessworld.py) out of the Statement's table words and the real class files: 9 classes; the members and pool entries that the words name. The judged class is class 1, her method 1. -/
namespace start1
open Jvm.ClassFile
def u (s : String) : CpInfo := .utf8 (stringToUtf16 s)
/-- a pool by its gaps: so many unusable entries, then the entry; so many at the end -/
def gap : Nat → List CpInfo → List CpInfo
  | 0, r => r
  | n + 1, r => .unusable :: gap n r
def poolList (es : List (Nat × CpInfo)) (last : Nat) : List CpInfo := es.foldr (fun e r => gap e.1 (e.2 :: r)) (gap last [])
def pool (es : List (Nat × CpInfo)) (last : Nat) : Array CpInfo := ⟨poolList es last⟩
def fileOf (pool : Array CpInfo) (this : Nat) (attrs : Array Attribute := #[]) (ms : Array MethodInfo := #[]) (fl : Nat := 33) (sup : Nat := 0) (ifs : Array Nat := #[]) (fds : Array FieldInfo := #[]) : ClassFile where
  minorVersion := 0
  majorVersion := 65
  constantPool := pool
  accessFlags := fl
  thisClass := this
  superClass := sup
  interfaces := ifs
  fields := fds
  methods := ms
  attributes := attrs
def plain (name : String) (sup : Option ClassId) : Class where
  name := name
  kind := .ordinary
  loader := none
  accessFlags := 33
  super := sup
  interfaces := #[]
  cf := none
  fields := #[]
  methods := #[]
  instanceTypes := #[]
  staticTypes := #[]
  resolved := #[]
  callSites := []
  init := .initialized
  statics := none
  mirror := none

def pool0 : Array CpInfo := pool [(5, u "<init>"), (0, u "()V"), (1, .class_ 10), (1, u "java/lang/Object")] 113

def k0m0 : Method := { name := "<init>", desc := "()V", sig := { parameters := [], returnType := none }, accessFlags := 1, code := none }
/-- java/lang/Object -/
def k0 : Class := { plain "java/lang/Object" none with
  accessFlags := 33
  interfaces := #[]
  cf := some (fileOf pool0 8 #[] #[{ accessFlags := 1, nameIndex := 5, descriptorIndex := 6, attributes := #[] }] 33 0 #[] #[])
  fields := #[]
  methods := #[k0m0]
  instanceTypes := #[]
  staticTypes := #[]
  resolved := Array.replicate 124 none
  statics := none }

def pool1 : Array CpInfo := pool [(2, .class_ 4), (1, u "java/lang/Object"), (0, u "<init>"), (0, u "()V"), (0, .methodref 8 9), (0, .class_ 10), (0, .nameAndType 11 12), (0, u "com/example/nadir/nadir/linesearch/Interpolation"), (0, u "quadraticMinimizer"), (0, u "(DDDDD)D"), (0, .double 4611686018427387904), (1, .long 2), (1, .class_ 18), (0, u "com/example/nadir/nadir/linesearch/InterpolationQuadraticMinimizerPinLaw"), (2, u "law"), (0, u "(IIIIII)Z")] 3

def k1m0 : Method := { name := "<init>", desc := "()V", sig := { parameters := [], returnType := none }, accessFlags := 1, code := none }
def k1c1 : Code := { maxStack := 14, maxLocals := 27, code := code, exceptionTable := #[], attributes := #[] }
def k1m1 : Method := { name := "law", desc := "(IIIIII)Z", sig := { parameters := [.int, .int, .int, .int, .int, .int], returnType := some .boolean }, accessFlags := 9, code := some k1c1 }
/-- com/example/nadir/nadir/linesearch/InterpolationQuadraticMinimizerPinLaw -/
def k1 : Class := { plain "com/example/nadir/nadir/linesearch/InterpolationQuadraticMinimizerPinLaw" (some 0) with
  accessFlags := 49
  interfaces := #[]
  cf := some (fileOf pool1 17 #[] #[{ accessFlags := 1, nameIndex := 5, descriptorIndex := 6, attributes := #[] }, { accessFlags := 9, nameIndex := 21, descriptorIndex := 22, attributes := #[] }] 49 2 #[] #[])
  fields := #[]
  methods := #[k1m0, k1m1]
  instanceTypes := #[]
  staticTypes := #[]
  resolved := Array.replicate 26 none
  statics := none }

def pool2 : Array CpInfo := pool [(2, .class_ 4), (1, u "java/lang/Object"), (0, u "<init>"), (0, u "()V"), (22, .double 4611686018427387904), (1, .class_ 32), (0, u "com/example/nadir/nadir/linesearch/Interpolation"), (5, u "quadraticMinimizer"), (0, u "(DDDDD)D")] 4

def k2m0 : Method := { name := "<init>", desc := "()V", sig := { parameters := [], returnType := none }, accessFlags := 2, code := none }
def k2c1 : Code := { maxStack := 8, maxLocals := 14, code := prog_2_method_3_code, exceptionTable := #[], attributes := #[] }
def k2m1 : Method := { name := "quadraticMinimizer", desc := "(DDDDD)D", sig := { parameters := [.double, .double, .double, .double, .double], returnType := some .double }, accessFlags := 8, code := some k2c1 }
/-- com/example/nadir/nadir/linesearch/Interpolation -/
def k2 : Class := { plain "com/example/nadir/nadir/linesearch/Interpolation" (some 0) with
  accessFlags := 48
  interfaces := #[]
  cf := some (fileOf pool2 31 #[] #[{ accessFlags := 2, nameIndex := 5, descriptorIndex := 6, attributes := #[] }, { accessFlags := 8, nameIndex := 38, descriptorIndex := 39, attributes := #[] }] 48 2 #[] #[])
  fields := #[]
  methods := #[k2m0, k2m1]
  instanceTypes := #[]
  staticTypes := #[]
  resolved := Array.replicate 44 none
  statics := none }

def pool3 : Array CpInfo := pool [(1, u "java/lang/Cloneable"), (0, .class_ 1), (0, u "java/lang/Object"), (0, .class_ 3)] 3

/-- java/lang/Cloneable -/
def k3 : Class := { plain "java/lang/Cloneable" (some 0) with
  accessFlags := 1537
  interfaces := #[]
  cf := some (fileOf pool3 2 #[] #[] 1537 4 #[] #[])
  fields := #[]
  methods := #[]
  instanceTypes := #[]
  staticTypes := #[]
  resolved := Array.replicate 8 none
  statics := none }

def pool4 : Array CpInfo := pool [(1, u "java/io/Serializable"), (0, .class_ 1), (0, u "java/lang/Object"), (0, .class_ 3)] 3

/-- java/io/Serializable -/
def k4 : Class := { plain "java/io/Serializable" (some 0) with
  accessFlags := 1537
  interfaces := #[]
  cf := some (fileOf pool4 2 #[] #[] 1537 4 #[] #[])
  fields := #[]
  methods := #[]
  instanceTypes := #[]
  staticTypes := #[]
  resolved := Array.replicate 8 none
  statics := none }

/-- the primitive byte -/
def k5 : Class := { plain "byte" none with kind := .primitive 'B', accessFlags := 0x411 }
/-- [B -/
def k6 : Class := { plain "[B" (some 0) with kind := .array 5 .byte, interfaces := #[3, 4], accessFlags := 1041 }

/-- the primitive int -/
def k7 : Class := { plain "int" none with kind := .primitive 'I', accessFlags := 0x411 }
/-- [I -/
def k8 : Class := { plain "[I" (some 0) with kind := .array 7 .int, interfaces := #[3, 4], accessFlags := 1041 }

def heap : Heap := #[]
def classes : Array Class := #[k0, k1, k2, k3, k4, k5, k6, k7, k8]
def interned : List (Array UInt16 × Addr) := []
def slotsUsed : Nat := 0
def theMethod : MethodId := ⟨1, 1⟩
def args0 : Array Value := #[.int 3, .int 7, .int 2, .int 4, .int 5, .int 6]
def aboutOver (below : List Frame) : State where
  vm := { classes := classes, interned := interned.toArray }
  heap := heap
  slotsUsed := slotsUsed
  threads := #[{ frames := .invoking theMethod args0 :: below }]
def below0 : List Frame := [.native { method := ⟨0, 0⟩, args := #[] }]
def about1 : State := aboutOver below0
def p0 : Program := .bare "" "" ""
def e0 : Env := launch0.env 0 0 0
theorem w_frames : about1.frames = Frame.invoking theMethod args0 :: below0 := rfl
set_option maxRecDepth 65536 in
theorem w_args : argsFit about1.vm theMethod args0 = true := by decide +kernel
set_option maxRecDepth 65536 in
theorem w_heap : heapFits about1 = true := by decide +kernel
set_option maxRecDepth 65536 in
theorem w_runnable : about1.curStatus? = some .runnable := by decide +kernel
set_option maxRecDepth 65536 in
theorem w_alone : about1.alone = true := by decide +kernel
set_option maxRecDepth 65536 in
theorem w_named : about1.methodNamed? x = some theMethod := by decide +kernel
set_option maxRecDepth 65536 in
theorem w_hears : about1.hears theMethod below0 = true := by decide +kernel
set_option maxRecDepth 65536 in
theorem w_ripe : about1.ripe theMethod args0 below0 = true := by decide +kernel
theorem w_running : about1.status = .running := rfl
set_option maxRecDepth 65536 in
theorem w_room : about1.hasRoom e0.platform room_1 = true :=
  launch0.hasRoom_least _ room_1 (by decide +kernel) (by decide +kernel) (by decide +kernel) (by decide +kernel) (by decide +kernel) (by decide +kernel)
theorem allAtoms_all (ts : List Jvm.Cond) (a : Array Jvm.Value) (st : Jvm.State) : (allAtoms ts).before a st = ts.all (fun c => c.before a st) := by
  induction ts with
  | nil => rfl
  | cons c t ih =>
    show (Jvm.Cond.and c (allAtoms t)).before a st = _
    rw [Jvm.Cond.before_and, ih, List.all_cons]
def words1 : List Jvm.Cond := Jvm.Cond.code x code maxLocals ret :: tables_1
/-- a 'code' word, met by the world's own term for the bytes: nothing is compared byte by byte -/
theorem code_word {y : MethodName} {bytes : ByteArray} {mx : Nat} {rt : Option FieldType} {a : Array Value} {s : State} {m : MethodId} {meth : Method} {c : Code} (h1 : s.methodNamed? y = some m) (h2 : s.vm.method? m = some meth) (h3 : meth.code = some c) (h4 : c.code = bytes)
    (h5 : (c.maxLocals == mx && c.exceptionTable.isEmpty && decide (c.maxStack ≤ mostOperands) && decide (meth.sig.returnType = rt) && !meth.locks && decide (parseMethodDescriptor y.desc = some meth.sig)) = true) : (Jvm.Cond.code y bytes mx rt).before a s = true := by
  simp only [Bool.and_eq_true, beq_iff_eq, Bool.not_eq_true', decide_eq_true_eq] at h5
  obtain ⟨⟨⟨⟨⟨g1, g2⟩, g3⟩, g4⟩, g5⟩, g6⟩ := h5
  simp [Cond.before, Cond.holds, Cond.value, h1, h2, h3, h4, g1, g2, g3, g4, g5, g6]
def isCode : Jvm.Cond → Bool
  | .code _ _ _ _ => true
  | _ => false
theorem all_split {L : List Jvm.Cond} {P : Jvm.Cond → Bool} (h1 : L.all (fun c => isCode c || P c) = true) (h2 : ∀ c ∈ L.filter isCode, P c = true) : L.all P = true := by
  refine List.all_eq_true.mpr fun c hc => ?_
  have h := List.all_eq_true.mp h1 c hc
  rcases Bool.eq_false_or_eq_true (isCode c) with hi | hi
  · exact h2 c (List.mem_filter.mpr ⟨hc, hi⟩)
  · simpa [hi] using h
set_option maxRecDepth 65536 in
theorem w_c0 : (Jvm.Cond.code x code maxLocals ret).before args0 about1 = true := code_word (m := ⟨1, 1⟩) (meth := k1m1) (c := k1c1) (by decide +kernel) rfl rfl rfl (by decide +kernel)
set_option maxRecDepth 65536 in
theorem w_c1 : (Jvm.Cond.code ({ cls := "com/example/nadir/nadir/linesearch/Interpolation", name := "quadraticMinimizer", desc := "(DDDDD)D" } : Jvm.MethodName) prog_2_method_3_code (14 : Nat) (Option.some Jvm.ClassFile.FieldType.double)).before args0 about1 = true := code_word (m := ⟨2, 1⟩) (meth := k2m1) (c := k2c1) (by decide +kernel) rfl rfl rfl (by decide +kernel)
def codes1 : List Jvm.Cond := [Jvm.Cond.code x code maxLocals ret, Jvm.Cond.code ({ cls := "com/example/nadir/nadir/linesearch/Interpolation", name := "quadraticMinimizer", desc := "(DDDDD)D" } : Jvm.MethodName) prog_2_method_3_code (14 : Nat) (Option.some Jvm.ClassFile.FieldType.double)]
set_option maxRecDepth 65536 in
theorem codes_eq : words1.filter isCode = codes1 := rfl
theorem w_codes : ∀ c ∈ words1.filter isCode, c.before args0 about1 = true := by
  rw [codes_eq]
  intro c hc
  simp only [codes1, List.mem_cons, List.not_mem_nil, or_false] at hc
  rcases hc with rfl | rfl
  · exact w_c0
  · exact w_c1
set_option maxRecDepth 65536 in
theorem w_t1 : words1.all (fun c => isCode c || c.before args0 about1) = true := by decide +kernel
theorem w_tables : (allAtoms (Jvm.Cond.code x code maxLocals ret :: tables_1)).before args0 about1 = true := by
  rw [allAtoms_all]
  show words1.all (fun c => c.before args0 about1) = true
  refine all_split ?_ w_codes
  rw [w_t1]
set_option maxRecDepth 65536 in
theorem w_case : (Jvm.Cond.and given_1 narrow_1).before args0 about1 = true := by decide +kernel
theorem w_applies : (headSpec (Jvm.Cond.code x code maxLocals ret :: tables_1) room_1).applies x e0.platform about1 = true :=
  (Spec.applies_iff w_frames).mpr ⟨w_running, w_runnable, w_alone, w_named, w_hears, w_ripe, w_room, w_tables⟩
theorem atStart : AtStart classFile x code maxLocals ret World_1 tables_1 room_1 Calls_1 rest_1 Pre_1 launch0 p0 e0 about1 theMethod args0 below0 :=
  ⟨lists_1, trivial, launch0.admits_env _ _ _, launch0.least_env, fairChoices_fair.cas, fairChoices_fair.clock, w_frames, w_args, w_heap, w_applies, trivial, trivial, w_case⟩
end start1
theorem witness_1 : WitnessClaimed_1 := ⟨start1.p0, start1.e0, start1.about1, start1.theMethod, start1.args0, start1.below0, start1.atStart⟩
end Jvm.Pilot.@@N@@
