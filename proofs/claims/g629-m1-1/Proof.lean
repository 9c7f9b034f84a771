import JvmDerived
import JvmDerived.Pilot.@@N@@Statement
import JvmDerived.Pilot.@@N@@Code
set_option linter.unusedVariables false
set_option linter.unusedSimpArgs false
namespace Jvm.OwnKit
open Sem ClassFile Op Lib Jvm.Stand Jvm.Free Jvm.LawKit Jvm.RoadKit
section Walk
variable {p : Program} {l : Launch} {e : Env} {R : Room} {s : State} {m : MethodId} {args : Array Value} {below : List Frame} {meth : Method} {c : Code} {T : State} {locs : List Loc} {cells slots : Nat} {Z : State} {a0 : Array Value} {h : Heap} {G : Outcome → State → Prop}
variable {x0 : MethodName} {code : ByteArray} {maxL : Nat} {ret : Option FieldType}
/-- what is still owed from the frame g on: the run ends, and G holds of the end -/
def Go (tb : Tables) (e : Env) (below : List Frame) (G : Outcome → State → Prop) (T : State) (g : JFrame) : Prop :=
  ∃ s₂ o, Steps tb e below (T.setTop g) s₂ ∧ s₂.status = .running ∧ Ended s₂ below o ∧ G o s₂
theorem Go.step {tb : Tables} {T T' : State} {g g' : JFrame} (q : ∀ t, Steps tb e below (T'.setTop g') t → Steps tb e below (T.setTop g) t) (k : Go tb e below G T' g') : Go tb e below G T g := by
  obtain ⟨s2, o, h1, h2⟩ := k
  exact ⟨s2, o, q _ h1, h2⟩
/-- what stands still while one body is walked -/
def Cx (p : Program) (l : Launch) (s : State) (m : MethodId) (meth : Method) (c : Code) (Z : State) (x0 : MethodName) (code : ByteArray) (maxL : Nat) (ret : Option FieldType) : Prop :=
  p.tables.exec = Jvm.exec ∧ Z.Warmed39 s.vm ∧ c.code = code ∧ c.maxLocals = maxL ∧ s.vm.findClass x0.cls = some m.cls ∧ meth.sig.returnType = ret ∧ meth.locks = false ∧ meth.name = x0.name
theorem Cx.exec (C : Cx p l s m meth c Z x0 code maxL ret) : p.tables.exec = Jvm.exec := C.1
theorem Cx.warm (C : Cx p l s m meth c Z x0 code maxL ret) : Z.Warmed39 s.vm := C.2.1
theorem Cx.bytes (C : Cx p l s m meth c Z x0 code maxL ret) : c.code = code := C.2.2.1
theorem Cx.maxl (C : Cx p l s m meth c Z x0 code maxL ret) : c.maxLocals = maxL := C.2.2.2.1
theorem Cx.own (C : Cx p l s m meth c Z x0 code maxL ret) : s.vm.findClass x0.cls = some m.cls := C.2.2.2.2.1
theorem Cx.rets (C : Cx p l s m meth c Z x0 code maxL ret) : meth.sig.returnType = ret := C.2.2.2.2.2.1
theorem Cx.unlocked (C : Cx p l s m meth c Z x0 code maxL ret) : meth.locks = false := C.2.2.2.2.2.2.1
theorem Cx.nm (C : Cx p l s m meth c Z x0 code maxL ret) : meth.name = x0.name := C.2.2.2.2.2.2.2
theorem Cx.at (C : Cx p l s m meth c Z x0 code maxL ret) {pc : Nat} {r : Except ClassFile.DecodeError (ClassFile.Instr × Nat)} (h2 : decode code pc = r) : decode c.code pc = r := hb C.bytes h2
/-- the end of a walk: what is returned, the heap and the places written answer Q -/
def End (s : State) (Q : Option Value → Heap → List Loc → Prop) (k n : Nat) (o : Outcome) (U : State) : Prop := ∃ v L, o = .returned v ∧ Q v U.heap L ∧ FrameEnd s o U L k n
/-- a body's contract at one call: the arguments as, the heap h -/
def Con (l : Launch) (Z : State) (y : MethodName) (bytes : ByteArray) (maxL : Nat) (ret : Option FieldType) (rm : Room) (as : Array Value) (h : Heap) (Q : Option Value → Heap → List Loc → Prop) : Prop :=
  ∀ ws, MetFree l y (head1 (Cond.code y bytes maxL ret :: ws) rm) (fun a U => a = as ∧ Z.Warmed39 U.vm ∧ U.heap = h) (fun _ _ _ _ _ => True) (fun _ U o U' => End U Q rm.cells rm.slots o U')
theorem con_of_go {rm : Room} {as : Array Value} {Q : Option Value → Heap → List Loc → Prop} {Ls : Array Slot} (hn : plainName x0.cls = true) (hef : ∀ m, entryFrame m as maxL = mkF m 0 Ls [])
    (H : ∀ (p : Program) (e : Env) (s : State) (m : MethodId) (below : List Frame) (meth : Method) (c : Code) (T : State), Cx p l s m meth c Z x0 code maxL ret → Stand p l e rm s m as below meth c T [] 0 0 → T.heap = h → Go p.tables e below (End s Q rm.cells rm.slots) T (mkF m 0 Ls [])) :
    Con l Z x0 code maxL ret rm as h Q := by
  intro ws
  refine MetFree.of_bodySF (plainFor_of_name hn) hisR ?_
  intro p e s m args below meth c s₁ Bd hml hP hK
  obtain ⟨rfl, hZ, hh⟩ := hP
  have X0 : Stand p l e rm s m args below meth c s₁ [] 0 0 := Stand.of_body Bd
  have e0 : s₁.heap = h := by rw [← hh, Bd.state]; rfl
  have q := H p e s m below meth c s₁ ⟨Bd.exec, hZ, Bd.bytes, hml, findClass_of_methodNamed Bd.named, Bd.returns, Bd.notSynchronized, (name_of_methodNamed Bd.named Bd.method).1⟩ X0 e0
  rw [hef]
  exact q
theorem g_aloadN (C : Cx p l s m meth c Z x0 code maxL ret) (X : Stand p l e R s m args below meth c T locs cells slots) {pc pc' : Nat} {Ls : Array Slot} {st : List Value} {k : Fin 4} {v : Value} (hd : decode code pc = .ok (.aload_n k, 1)) (hl : Ls[k.val]? = some (.val v)) (hv : v.isRef = true) (hp : pc + 1 = pc')
    (K : Go p.tables e below G T (mkF m pc' Ls (v :: st))) : Go p.tables e below G T (mkF m pc Ls (st)) := by
  subst hp; exact Go.step (fun _ k => XS.aloadN X.here C.exec rfl (C.at hd) hl hv k) K
theorem g_aload (C : Cx p l s m meth c Z x0 code maxL ret) (X : Stand p l e R s m args below meth c T locs cells slots) {pc pc' : Nat} {Ls : Array Slot} {st : List Value} {k : Nat} {v : Value} (hd : decode code pc = .ok (.aload k, 2)) (hl : Ls[k]? = some (.val v)) (hv : v.isRef = true) (hp : pc + 2 = pc')
    (K : Go p.tables e below G T (mkF m pc' Ls (v :: st))) : Go p.tables e below G T (mkF m pc Ls (st)) := by
  subst hp; exact Go.step (fun _ k => XS.aload X.here C.exec rfl (C.at hd) hl hv k) K
theorem g_iloadN (C : Cx p l s m meth c Z x0 code maxL ret) (X : Stand p l e R s m args below meth c T locs cells slots) {pc pc' : Nat} {Ls : Array Slot} {st : List Value} {k : Fin 4} {v : Int32} (hd : decode code pc = .ok (.iload_n k, 1)) (hl : Ls[k.val]? = some (.val (.int v))) (hp : pc + 1 = pc')
    (K : Go p.tables e below G T (mkF m pc' Ls (.int v :: st))) : Go p.tables e below G T (mkF m pc Ls (st)) := by
  subst hp; exact Go.step (fun _ k => XS.iloadN X.here C.exec rfl (C.at hd) hl k) K
theorem g_iload (C : Cx p l s m meth c Z x0 code maxL ret) (X : Stand p l e R s m args below meth c T locs cells slots) {pc pc' : Nat} {Ls : Array Slot} {st : List Value} {k : Nat} {v : Int32} (hd : decode code pc = .ok (.iload k, 2)) (hl : Ls[k]? = some (.val (.int v))) (hp : pc + 2 = pc')
    (K : Go p.tables e below G T (mkF m pc' Ls (.int v :: st))) : Go p.tables e below G T (mkF m pc Ls (st)) := by
  subst hp; exact Go.step (fun _ k => XS.iload X.here C.exec rfl (C.at hd) hl k) K
theorem g_istoreN (C : Cx p l s m meth c Z x0 code maxL ret) (X : Stand p l e R s m args below meth c T locs cells slots) {pc pc' : Nat} {Ls : Array Slot} {st : List Value} {k : Fin 4} {x y : Int32} {l' : Array Slot} (hd : decode code pc = .ok (.istore_n k, 1)) (hv : x = y) (hl : storeLocals Ls k.val (.int x) = some l') (hp : pc + 1 = pc')
    (K : Go p.tables e below G T (mkF m pc' l' (st))) : Go p.tables e below G T (mkF m pc Ls (.int y :: st)) := by
  subst hp; subst hv; exact Go.step (fun _ k => XS.istoreN X.here C.exec rfl (C.at hd) rfl hl k) K
theorem g_istore (C : Cx p l s m meth c Z x0 code maxL ret) (X : Stand p l e R s m args below meth c T locs cells slots) {pc pc' : Nat} {Ls : Array Slot} {st : List Value} {k : Nat} {x y : Int32} {l' : Array Slot} (hd : decode code pc = .ok (.istore k, 2)) (hv : x = y) (hl : storeLocals Ls k (.int x) = some l') (hp : pc + 2 = pc')
    (K : Go p.tables e below G T (mkF m pc' l' (st))) : Go p.tables e below G T (mkF m pc Ls (.int y :: st)) := by
  subst hp; subst hv; exact Go.step (fun _ k => XS.istore X.here C.exec rfl (C.at hd) rfl hl k) K
theorem g_lloadN (C : Cx p l s m meth c Z x0 code maxL ret) (X : Stand p l e R s m args below meth c T locs cells slots) {pc pc' : Nat} {Ls : Array Slot} {st : List Value} {k : Fin 4} {v : Int64} (hd : decode code pc = .ok (.lload_n k, 1)) (hl : Ls[k.val]? = some (.val (.long v))) (hp : pc + 1 = pc')
    (K : Go p.tables e below G T (mkF m pc' Ls (.long v :: st))) : Go p.tables e below G T (mkF m pc Ls (st)) := by
  subst hp; exact Go.step (fun _ k => XT.lloadN X.here C.exec rfl (C.at hd) hl k) K
theorem g_lload (C : Cx p l s m meth c Z x0 code maxL ret) (X : Stand p l e R s m args below meth c T locs cells slots) {pc pc' : Nat} {Ls : Array Slot} {st : List Value} {k : Nat} {v : Int64} (hd : decode code pc = .ok (.lload k, 2)) (hl : Ls[k]? = some (.val (.long v))) (hp : pc + 2 = pc')
    (K : Go p.tables e below G T (mkF m pc' Ls (.long v :: st))) : Go p.tables e below G T (mkF m pc Ls (st)) := by
  subst hp; exact Go.step (fun _ k => XT.lload X.here C.exec rfl (C.at hd) hl k) K
theorem g_lstoreN (C : Cx p l s m meth c Z x0 code maxL ret) (X : Stand p l e R s m args below meth c T locs cells slots) {pc pc' : Nat} {Ls : Array Slot} {st : List Value} {k : Fin 4} {x y : Int64} {l' : Array Slot} (hd : decode code pc = .ok (.lstore_n k, 1)) (hv : x = y) (hl : storeLocals Ls k.val (.long x) = some l') (hp : pc + 1 = pc')
    (K : Go p.tables e below G T (mkF m pc' l' (st))) : Go p.tables e below G T (mkF m pc Ls (.long y :: st)) := by
  subst hp; subst hv; exact Go.step (fun _ k => XT.lstoreN X.here C.exec rfl (C.at hd) rfl hl k) K
theorem g_lstore (C : Cx p l s m meth c Z x0 code maxL ret) (X : Stand p l e R s m args below meth c T locs cells slots) {pc pc' : Nat} {Ls : Array Slot} {st : List Value} {k : Nat} {x y : Int64} {l' : Array Slot} (hd : decode code pc = .ok (.lstore k, 2)) (hv : x = y) (hl : storeLocals Ls k (.long x) = some l') (hp : pc + 2 = pc')
    (K : Go p.tables e below G T (mkF m pc' l' (st))) : Go p.tables e below G T (mkF m pc Ls (.long y :: st)) := by
  subst hp; subst hv; exact Go.step (fun _ k => XT.lstore X.here C.exec rfl (C.at hd) rfl hl k) K
theorem g_dloadN (C : Cx p l s m meth c Z x0 code maxL ret) (X : Stand p l e R s m args below meth c T locs cells slots) {pc pc' : Nat} {Ls : Array Slot} {st : List Value} {k : Fin 4} {v : UInt64} (hd : decode code pc = .ok (.dload_n k, 1)) (hl : Ls[k.val]? = some (.val (.double v))) (hp : pc + 1 = pc')
    (K : Go p.tables e below G T (mkF m pc' Ls (.double v :: st))) : Go p.tables e below G T (mkF m pc Ls (st)) := by
  subst hp; exact Go.step (fun _ k => XS.dloadN X.here C.exec rfl (C.at hd) hl k) K
theorem g_dload (C : Cx p l s m meth c Z x0 code maxL ret) (X : Stand p l e R s m args below meth c T locs cells slots) {pc pc' : Nat} {Ls : Array Slot} {st : List Value} {k : Nat} {v : UInt64} (hd : decode code pc = .ok (.dload k, 2)) (hl : Ls[k]? = some (.val (.double v))) (hp : pc + 2 = pc')
    (K : Go p.tables e below G T (mkF m pc' Ls (.double v :: st))) : Go p.tables e below G T (mkF m pc Ls (st)) := by
  subst hp; exact Go.step (fun _ k => XS.dload X.here C.exec rfl (C.at hd) hl k) K
theorem g_dstoreN (C : Cx p l s m meth c Z x0 code maxL ret) (X : Stand p l e R s m args below meth c T locs cells slots) {pc pc' : Nat} {Ls : Array Slot} {st : List Value} {k : Fin 4} {x y : UInt64} {l' : Array Slot} (hd : decode code pc = .ok (.dstore_n k, 1)) (hv : x = y) (hl : storeLocals Ls k.val (.double x) = some l') (hp : pc + 1 = pc')
    (K : Go p.tables e below G T (mkF m pc' l' (st))) : Go p.tables e below G T (mkF m pc Ls (.double y :: st)) := by
  subst hp; subst hv; exact Go.step (fun _ k => XS.dstoreN X.here C.exec rfl (C.at hd) rfl hl k) K
theorem g_dstore (C : Cx p l s m meth c Z x0 code maxL ret) (X : Stand p l e R s m args below meth c T locs cells slots) {pc pc' : Nat} {Ls : Array Slot} {st : List Value} {k : Nat} {x y : UInt64} {l' : Array Slot} (hd : decode code pc = .ok (.dstore k, 2)) (hv : x = y) (hl : storeLocals Ls k (.double x) = some l') (hp : pc + 2 = pc')
    (K : Go p.tables e below G T (mkF m pc' l' (st))) : Go p.tables e below G T (mkF m pc Ls (.double y :: st)) := by
  subst hp; subst hv; exact Go.step (fun _ k => XS.dstore X.here C.exec rfl (C.at hd) rfl hl k) K
theorem g_astoreN (C : Cx p l s m meth c Z x0 code maxL ret) (X : Stand p l e R s m args below meth c T locs cells slots) {pc pc' : Nat} {Ls : Array Slot} {st : List Value} {k : Fin 4} {v : Value} {l' : Array Slot} (hd : decode code pc = .ok (.astore_n k, 1)) (hv : v.isRef = true) (hl : storeLocals Ls k.val v = some l') (hp : pc + 1 = pc')
    (K : Go p.tables e below G T (mkF m pc' l' (st))) : Go p.tables e below G T (mkF m pc Ls (v :: st)) := by
  subst hp; exact Go.step (fun _ k => XS.astoreN X.here C.exec rfl (C.at hd) rfl hv hl k) K
theorem g_astore (C : Cx p l s m meth c Z x0 code maxL ret) (X : Stand p l e R s m args below meth c T locs cells slots) {pc pc' : Nat} {Ls : Array Slot} {st : List Value} {k : Nat} {v : Value} {l' : Array Slot} (hd : decode code pc = .ok (.astore k, 2)) (hv : v.isRef = true) (hl : storeLocals Ls k v = some l') (hp : pc + 2 = pc')
    (K : Go p.tables e below G T (mkF m pc' l' (st))) : Go p.tables e below G T (mkF m pc Ls (v :: st)) := by
  subst hp; exact Go.step (fun _ k => XS.astore X.here C.exec rfl (C.at hd) rfl hv hl k) K
theorem g_iconst (C : Cx p l s m meth c Z x0 code maxL ret) (X : Stand p l e R s m args below meth c T locs cells slots) {pc pc' : Nat} {Ls : Array Slot} {st : List Value} {i : Int} {v : Int32} (hd : decode code pc = .ok (.iconst i, 1)) (hv : Int32.ofInt i = v) (hp : pc + 1 = pc')
    (K : Go p.tables e below G T (mkF m pc' Ls (.int v :: st))) : Go p.tables e below G T (mkF m pc Ls (st)) := by
  subst hp; subst hv; exact Go.step (fun _ k => XS.iconst X.here C.exec rfl (C.at hd)  k) K
theorem g_bipush (C : Cx p l s m meth c Z x0 code maxL ret) (X : Stand p l e R s m args below meth c T locs cells slots) {pc pc' : Nat} {Ls : Array Slot} {st : List Value} {i : Int} {v : Int32} (hd : decode code pc = .ok (.bipush i, 2)) (hv : (Int8.ofInt i).toInt32 = v) (hp : pc + 2 = pc')
    (K : Go p.tables e below G T (mkF m pc' Ls (.int v :: st))) : Go p.tables e below G T (mkF m pc Ls (st)) := by
  subst hp; subst hv; exact Go.step (fun _ k => XS.bipush X.here C.exec rfl (C.at hd)  k) K
theorem g_sipush (C : Cx p l s m meth c Z x0 code maxL ret) (X : Stand p l e R s m args below meth c T locs cells slots) {pc pc' : Nat} {Ls : Array Slot} {st : List Value} {i : Int} {v : Int32} (hd : decode code pc = .ok (.sipush i, 3)) (hv : (Int16.ofInt i).toInt32 = v) (hp : pc + 3 = pc')
    (K : Go p.tables e below G T (mkF m pc' Ls (.int v :: st))) : Go p.tables e below G T (mkF m pc Ls (st)) := by
  subst hp; subst hv; exact Go.step (fun _ k => XS.sipush X.here C.exec rfl (C.at hd)  k) K
theorem g_aconstNull (C : Cx p l s m meth c Z x0 code maxL ret) (X : Stand p l e R s m args below meth c T locs cells slots) {pc pc' : Nat} {Ls : Array Slot} {st : List Value}  (hd : decode code pc = .ok (.aconst_null, 1))  (hp : pc + 1 = pc')
    (K : Go p.tables e below G T (mkF m pc' Ls (.null :: st))) : Go p.tables e below G T (mkF m pc Ls (st)) := by
  subst hp; exact Go.step (fun _ k => XS.aconstNull X.here C.exec rfl (C.at hd)  k) K
theorem g_lconst (C : Cx p l s m meth c Z x0 code maxL ret) (X : Stand p l e R s m args below meth c T locs cells slots) {pc pc' : Nat} {Ls : Array Slot} {st : List Value} {k : Fin 2} {v : Int64} (hd : decode code pc = .ok (.lconst k, 1)) (hv : Int64.ofNat k = v) (hp : pc + 1 = pc')
    (K : Go p.tables e below G T (mkF m pc' Ls (.long v :: st))) : Go p.tables e below G T (mkF m pc Ls (st)) := by
  subst hp; subst hv; exact Go.step (fun _ k => XT.lconst X.here C.exec rfl (C.at hd)  k) K
theorem g_dconst0 (C : Cx p l s m meth c Z x0 code maxL ret) (X : Stand p l e R s m args below meth c T locs cells slots) {pc pc' : Nat} {Ls : Array Slot} {st : List Value} {v : UInt64} (hd : decode code pc = .ok (.dconst 0, 1)) (hv : FP.dconst0 = v) (hp : pc + 1 = pc')
    (K : Go p.tables e below G T (mkF m pc' Ls (.double v :: st))) : Go p.tables e below G T (mkF m pc Ls (st)) := by
  subst hp; exact Go.step (fun _ k => XS.dconst0 X.here C.exec rfl (C.at hd) hv k) K
theorem g_dconst1 (C : Cx p l s m meth c Z x0 code maxL ret) (X : Stand p l e R s m args below meth c T locs cells slots) {pc pc' : Nat} {Ls : Array Slot} {st : List Value} {v : UInt64} (hd : decode code pc = .ok (.dconst 1, 1)) (hv : FP.dconst1 = v) (hp : pc + 1 = pc')
    (K : Go p.tables e below G T (mkF m pc' Ls (.double v :: st))) : Go p.tables e below G T (mkF m pc Ls (st)) := by
  subst hp; exact Go.step (fun _ k => XS.dconst1 X.here C.exec rfl (C.at hd) hv k) K
theorem g_iadd (C : Cx p l s m meth c Z x0 code maxL ret) (X : Stand p l e R s m args below meth c T locs cells slots) {pc pc' : Nat} {Ls : Array Slot} {st : List Value} {x y : Int32} (hd : decode code pc = .ok (.iadd, 1))  (hp : pc + 1 = pc')
    (K : Go p.tables e below G T (mkF m pc' Ls (.int (x + y) :: st))) : Go p.tables e below G T (mkF m pc Ls (.int y :: .int x :: st)) := by
  subst hp; exact Go.step (fun _ k => XS.iadd X.here C.exec rfl (C.at hd) rfl k) K
theorem g_isub (C : Cx p l s m meth c Z x0 code maxL ret) (X : Stand p l e R s m args below meth c T locs cells slots) {pc pc' : Nat} {Ls : Array Slot} {st : List Value} {x y : Int32} (hd : decode code pc = .ok (.isub, 1))  (hp : pc + 1 = pc')
    (K : Go p.tables e below G T (mkF m pc' Ls (.int (x - y) :: st))) : Go p.tables e below G T (mkF m pc Ls (.int y :: .int x :: st)) := by
  subst hp; exact Go.step (fun _ k => XS.isub X.here C.exec rfl (C.at hd) rfl k) K
theorem g_iand (C : Cx p l s m meth c Z x0 code maxL ret) (X : Stand p l e R s m args below meth c T locs cells slots) {pc pc' : Nat} {Ls : Array Slot} {st : List Value} {x y : Int32} (hd : decode code pc = .ok (.iand, 1))  (hp : pc + 1 = pc')
    (K : Go p.tables e below G T (mkF m pc' Ls (.int (x &&& y) :: st))) : Go p.tables e below G T (mkF m pc Ls (.int y :: .int x :: st)) := by
  subst hp; exact Go.step (fun _ k => XS.iand X.here C.exec rfl (C.at hd) rfl k) K
theorem g_imul (C : Cx p l s m meth c Z x0 code maxL ret) (X : Stand p l e R s m args below meth c T locs cells slots) {pc pc' : Nat} {Ls : Array Slot} {st : List Value} {x y : Int32} (hd : decode code pc = .ok (.imul, 1))  (hp : pc + 1 = pc')
    (K : Go p.tables e below G T (mkF m pc' Ls (.int (x * y) :: st))) : Go p.tables e below G T (mkF m pc Ls (.int y :: .int x :: st)) := by
  subst hp; exact Go.step (fun _ k => XS.imul X.here C.exec rfl (C.at hd) rfl k) K
theorem g_idiv (C : Cx p l s m meth c Z x0 code maxL ret) (X : Stand p l e R s m args below meth c T locs cells slots) {pc pc' : Nat} {Ls : Array Slot} {st : List Value} {x y : Int32} (hd : decode code pc = .ok (.idiv, 1)) (hy : y ≠ 0) (hp : pc + 1 = pc')
    (K : Go p.tables e below G T (mkF m pc' Ls (.int (x / y) :: st))) : Go p.tables e below G T (mkF m pc Ls (.int y :: .int x :: st)) := by
  subst hp; exact Go.step (fun _ k => XS.idiv X.here C.exec rfl (C.at hd) rfl hy k) K
theorem g_ineg (C : Cx p l s m meth c Z x0 code maxL ret) (X : Stand p l e R s m args below meth c T locs cells slots) {pc pc' : Nat} {Ls : Array Slot} {st : List Value} {x : Int32} (hd : decode code pc = .ok (.ineg, 1))  (hp : pc + 1 = pc')
    (K : Go p.tables e below G T (mkF m pc' Ls (.int (-x) :: st))) : Go p.tables e below G T (mkF m pc Ls (.int x :: st)) := by
  subst hp; exact Go.step (fun _ k => XS.ineg X.here C.exec rfl (C.at hd) rfl k) K
theorem g_ixor (C : Cx p l s m meth c Z x0 code maxL ret) (X : Stand p l e R s m args below meth c T locs cells slots) {pc pc' : Nat} {Ls : Array Slot} {st : List Value} {x y : Int32} (hd : decode code pc = .ok (.ixor, 1))  (hp : pc + 1 = pc')
    (K : Go p.tables e below G T (mkF m pc' Ls (.int (x ^^^ y) :: st))) : Go p.tables e below G T (mkF m pc Ls (.int y :: .int x :: st)) := by
  subst hp; exact Go.step (fun _ k => XT.ixor X.here C.exec rfl (C.at hd) rfl k) K
theorem g_ior (C : Cx p l s m meth c Z x0 code maxL ret) (X : Stand p l e R s m args below meth c T locs cells slots) {pc pc' : Nat} {Ls : Array Slot} {st : List Value} {x y : Int32} (hd : decode code pc = .ok (.ior, 1))  (hp : pc + 1 = pc')
    (K : Go p.tables e below G T (mkF m pc' Ls (.int (x ||| y) :: st))) : Go p.tables e below G T (mkF m pc Ls (.int y :: .int x :: st)) := by
  subst hp; exact Go.step (fun _ k => XT.ior X.here C.exec rfl (C.at hd) rfl k) K
theorem g_ishl (C : Cx p l s m meth c Z x0 code maxL ret) (X : Stand p l e R s m args below meth c T locs cells slots) {pc pc' : Nat} {Ls : Array Slot} {st : List Value} {x y : Int32} (hd : decode code pc = .ok (.ishl, 1))  (hp : pc + 1 = pc')
    (K : Go p.tables e below G T (mkF m pc' Ls (.int (x <<< (y &&& 31)) :: st))) : Go p.tables e below G T (mkF m pc Ls (.int y :: .int x :: st)) := by
  subst hp; exact Go.step (fun _ k => XT.ishl X.here C.exec rfl (C.at hd) rfl k) K
theorem g_ishr (C : Cx p l s m meth c Z x0 code maxL ret) (X : Stand p l e R s m args below meth c T locs cells slots) {pc pc' : Nat} {Ls : Array Slot} {st : List Value} {x y : Int32} (hd : decode code pc = .ok (.ishr, 1))  (hp : pc + 1 = pc')
    (K : Go p.tables e below G T (mkF m pc' Ls (.int (x >>> (y &&& 31)) :: st))) : Go p.tables e below G T (mkF m pc Ls (.int y :: .int x :: st)) := by
  subst hp; exact Go.step (fun _ k => XT.ishr X.here C.exec rfl (C.at hd) rfl k) K
theorem g_iushr (C : Cx p l s m meth c Z x0 code maxL ret) (X : Stand p l e R s m args below meth c T locs cells slots) {pc pc' : Nat} {Ls : Array Slot} {st : List Value} {x y : Int32} (hd : decode code pc = .ok (.iushr, 1))  (hp : pc + 1 = pc')
    (K : Go p.tables e below G T (mkF m pc' Ls (.int (XT.ushr x y) :: st))) : Go p.tables e below G T (mkF m pc Ls (.int y :: .int x :: st)) := by
  subst hp; exact Go.step (fun _ k => XT.iushr X.here C.exec rfl (C.at hd) rfl k) K
theorem g_ladd (C : Cx p l s m meth c Z x0 code maxL ret) (X : Stand p l e R s m args below meth c T locs cells slots) {pc pc' : Nat} {Ls : Array Slot} {st : List Value} {x y : Int64} (hd : decode code pc = .ok (.ladd, 1))  (hp : pc + 1 = pc')
    (K : Go p.tables e below G T (mkF m pc' Ls (.long (x + y) :: st))) : Go p.tables e below G T (mkF m pc Ls (.long y :: .long x :: st)) := by
  subst hp; exact Go.step (fun _ k => XT.ladd X.here C.exec rfl (C.at hd) rfl k) K
theorem g_lsub (C : Cx p l s m meth c Z x0 code maxL ret) (X : Stand p l e R s m args below meth c T locs cells slots) {pc pc' : Nat} {Ls : Array Slot} {st : List Value} {x y : Int64} (hd : decode code pc = .ok (.lsub, 1))  (hp : pc + 1 = pc')
    (K : Go p.tables e below G T (mkF m pc' Ls (.long (x - y) :: st))) : Go p.tables e below G T (mkF m pc Ls (.long y :: .long x :: st)) := by
  subst hp; exact Go.step (fun _ k => XT.lsub X.here C.exec rfl (C.at hd) rfl k) K
theorem g_lmul (C : Cx p l s m meth c Z x0 code maxL ret) (X : Stand p l e R s m args below meth c T locs cells slots) {pc pc' : Nat} {Ls : Array Slot} {st : List Value} {x y : Int64} (hd : decode code pc = .ok (.lmul, 1))  (hp : pc + 1 = pc')
    (K : Go p.tables e below G T (mkF m pc' Ls (.long (x * y) :: st))) : Go p.tables e below G T (mkF m pc Ls (.long y :: .long x :: st)) := by
  subst hp; exact Go.step (fun _ k => XT.lmul X.here C.exec rfl (C.at hd) rfl k) K
theorem g_land (C : Cx p l s m meth c Z x0 code maxL ret) (X : Stand p l e R s m args below meth c T locs cells slots) {pc pc' : Nat} {Ls : Array Slot} {st : List Value} {x y : Int64} (hd : decode code pc = .ok (.land, 1))  (hp : pc + 1 = pc')
    (K : Go p.tables e below G T (mkF m pc' Ls (.long (x &&& y) :: st))) : Go p.tables e below G T (mkF m pc Ls (.long y :: .long x :: st)) := by
  subst hp; exact Go.step (fun _ k => XT.land X.here C.exec rfl (C.at hd) rfl k) K
theorem g_lor (C : Cx p l s m meth c Z x0 code maxL ret) (X : Stand p l e R s m args below meth c T locs cells slots) {pc pc' : Nat} {Ls : Array Slot} {st : List Value} {x y : Int64} (hd : decode code pc = .ok (.lor, 1))  (hp : pc + 1 = pc')
    (K : Go p.tables e below G T (mkF m pc' Ls (.long (x ||| y) :: st))) : Go p.tables e below G T (mkF m pc Ls (.long y :: .long x :: st)) := by
  subst hp; exact Go.step (fun _ k => XT.lor X.here C.exec rfl (C.at hd) rfl k) K
theorem g_lxor (C : Cx p l s m meth c Z x0 code maxL ret) (X : Stand p l e R s m args below meth c T locs cells slots) {pc pc' : Nat} {Ls : Array Slot} {st : List Value} {x y : Int64} (hd : decode code pc = .ok (.lxor, 1))  (hp : pc + 1 = pc')
    (K : Go p.tables e below G T (mkF m pc' Ls (.long (x ^^^ y) :: st))) : Go p.tables e below G T (mkF m pc Ls (.long y :: .long x :: st)) := by
  subst hp; exact Go.step (fun _ k => XT.lxor X.here C.exec rfl (C.at hd) rfl k) K
theorem g_lneg (C : Cx p l s m meth c Z x0 code maxL ret) (X : Stand p l e R s m args below meth c T locs cells slots) {pc pc' : Nat} {Ls : Array Slot} {st : List Value} {x : Int64} (hd : decode code pc = .ok (.lneg, 1))  (hp : pc + 1 = pc')
    (K : Go p.tables e below G T (mkF m pc' Ls (.long (-x) :: st))) : Go p.tables e below G T (mkF m pc Ls (.long x :: st)) := by
  subst hp; exact Go.step (fun _ k => XT.lneg X.here C.exec rfl (C.at hd) rfl k) K
theorem g_i2l (C : Cx p l s m meth c Z x0 code maxL ret) (X : Stand p l e R s m args below meth c T locs cells slots) {pc pc' : Nat} {Ls : Array Slot} {st : List Value} {x : Int32} (hd : decode code pc = .ok (.i2l, 1))  (hp : pc + 1 = pc')
    (K : Go p.tables e below G T (mkF m pc' Ls (.long x.toInt64 :: st))) : Go p.tables e below G T (mkF m pc Ls (.int x :: st)) := by
  subst hp; exact Go.step (fun _ k => XT.i2l X.here C.exec rfl (C.at hd) rfl k) K
theorem g_l2i (C : Cx p l s m meth c Z x0 code maxL ret) (X : Stand p l e R s m args below meth c T locs cells slots) {pc pc' : Nat} {Ls : Array Slot} {st : List Value} {x : Int64} (hd : decode code pc = .ok (.l2i, 1))  (hp : pc + 1 = pc')
    (K : Go p.tables e below G T (mkF m pc' Ls (.int x.toInt32 :: st))) : Go p.tables e below G T (mkF m pc Ls (.long x :: st)) := by
  subst hp; exact Go.step (fun _ k => XT.l2i X.here C.exec rfl (C.at hd) rfl k) K
theorem g_i2b (C : Cx p l s m meth c Z x0 code maxL ret) (X : Stand p l e R s m args below meth c T locs cells slots) {pc pc' : Nat} {Ls : Array Slot} {st : List Value} {x : Int32} (hd : decode code pc = .ok (.i2b, 1))  (hp : pc + 1 = pc')
    (K : Go p.tables e below G T (mkF m pc' Ls (.int x.toInt8.toInt32 :: st))) : Go p.tables e below G T (mkF m pc Ls (.int x :: st)) := by
  subst hp; exact Go.step (fun _ k => XT.i2b X.here C.exec rfl (C.at hd) rfl k) K
theorem g_i2s (C : Cx p l s m meth c Z x0 code maxL ret) (X : Stand p l e R s m args below meth c T locs cells slots) {pc pc' : Nat} {Ls : Array Slot} {st : List Value} {x : Int32} (hd : decode code pc = .ok (.i2s, 1))  (hp : pc + 1 = pc')
    (K : Go p.tables e below G T (mkF m pc' Ls (.int x.toInt16.toInt32 :: st))) : Go p.tables e below G T (mkF m pc Ls (.int x :: st)) := by
  subst hp; exact Go.step (fun _ k => XT.i2s X.here C.exec rfl (C.at hd) rfl k) K
theorem g_i2d (C : Cx p l s m meth c Z x0 code maxL ret) (X : Stand p l e R s m args below meth c T locs cells slots) {pc pc' : Nat} {Ls : Array Slot} {st : List Value} {x : Int32} (hd : decode code pc = .ok (.i2d, 1))  (hp : pc + 1 = pc')
    (K : Go p.tables e below G T (mkF m pc' Ls (.double (FP.i2d x) :: st))) : Go p.tables e below G T (mkF m pc Ls (.int x :: st)) := by
  subst hp; exact Go.step (fun _ k => XS.i2dS X.here C.exec rfl (C.at hd) rfl rfl k) K
theorem g_l2d (C : Cx p l s m meth c Z x0 code maxL ret) (X : Stand p l e R s m args below meth c T locs cells slots) {pc pc' : Nat} {Ls : Array Slot} {st : List Value} {x : Int64} (hd : decode code pc = .ok (.l2d, 1))  (hp : pc + 1 = pc')
    (K : Go p.tables e below G T (mkF m pc' Ls (.double (FP.l2d x) :: st))) : Go p.tables e below G T (mkF m pc Ls (.long x :: st)) := by
  subst hp; exact Go.step (fun _ k => XS.l2dS X.here C.exec rfl (C.at hd) rfl rfl k) K
theorem g_dneg (C : Cx p l s m meth c Z x0 code maxL ret) (X : Stand p l e R s m args below meth c T locs cells slots) {pc pc' : Nat} {Ls : Array Slot} {st : List Value} {x : UInt64} (hd : decode code pc = .ok (.dneg, 1))  (hp : pc + 1 = pc')
    (K : Go p.tables e below G T (mkF m pc' Ls (.double (FP.dneg x) :: st))) : Go p.tables e below G T (mkF m pc Ls (.double x :: st)) := by
  subst hp; exact Go.step (fun _ k => XS.dnegS X.here C.exec rfl (C.at hd) rfl rfl k) K
theorem g_dcmp (C : Cx p l s m meth c Z x0 code maxL ret) (X : Stand p l e R s m args below meth c T locs cells slots) {pc pc' : Nat} {Ls : Array Slot} {st : List Value} {o : CmpOp} {x y : UInt64} (hd : decode code pc = .ok (.dcmp o, 1))  (hp : pc + 1 = pc')
    (K : Go p.tables e below G T (mkF m pc' Ls (.int (cmpValue (FP.dcmp x y) o) :: st))) : Go p.tables e below G T (mkF m pc Ls (.double y :: .double x :: st)) := by
  subst hp; exact Go.step (fun _ k => XS.dcmpS X.here C.exec rfl (C.at hd) rfl rfl k) K
theorem g_dcmpV (C : Cx p l s m meth c Z x0 code maxL ret) (X : Stand p l e R s m args below meth c T locs cells slots) {pc pc' : Nat} {Ls : Array Slot} {st : List Value} {o : CmpOp} {x y : UInt64} {v : Int32} (hd : decode code pc = .ok (.dcmp o, 1)) (hv : cmpValue (FP.dcmp x y) o = v) (hp : pc + 1 = pc')
    (K : Go p.tables e below G T (mkF m pc' Ls (.int v :: st))) : Go p.tables e below G T (mkF m pc Ls (.double y :: .double x :: st)) := by
  subst hp; exact Go.step (fun _ k => XS.dcmpS X.here C.exec rfl (C.at hd) rfl hv k) K
theorem g_dadd (C : Cx p l s m meth c Z x0 code maxL ret) (X : Stand p l e R s m args below meth c T locs cells slots) {pc pc' : Nat} {Ls : Array Slot} {st : List Value} {x y : UInt64} (hd : decode code pc = .ok (.dadd, 1)) (hn : Jvm.Free.Fl.NoNaN64 (FP.dadd x y)) (hp : pc + 1 = pc')
    (K : Go p.tables e below G T (mkF m pc' Ls (.double (FP.dadd x y) :: st))) : Go p.tables e below G T (mkF m pc Ls (.double y :: .double x :: st)) := by
  subst hp; exact Go.step (fun _ k => XS.daddS X.here C.exec rfl (C.at hd) rfl hn rfl k) K
theorem g_dsub (C : Cx p l s m meth c Z x0 code maxL ret) (X : Stand p l e R s m args below meth c T locs cells slots) {pc pc' : Nat} {Ls : Array Slot} {st : List Value} {x y : UInt64} (hd : decode code pc = .ok (.dsub, 1)) (hn : Jvm.Free.Fl.NoNaN64 (FP.dsub x y)) (hp : pc + 1 = pc')
    (K : Go p.tables e below G T (mkF m pc' Ls (.double (FP.dsub x y) :: st))) : Go p.tables e below G T (mkF m pc Ls (.double y :: .double x :: st)) := by
  subst hp; exact Go.step (fun _ k => XS.dsubS X.here C.exec rfl (C.at hd) rfl hn rfl k) K
theorem g_dmul (C : Cx p l s m meth c Z x0 code maxL ret) (X : Stand p l e R s m args below meth c T locs cells slots) {pc pc' : Nat} {Ls : Array Slot} {st : List Value} {x y : UInt64} (hd : decode code pc = .ok (.dmul, 1)) (hn : Jvm.Free.Fl.NoNaN64 (FP.dmul x y)) (hp : pc + 1 = pc')
    (K : Go p.tables e below G T (mkF m pc' Ls (.double (FP.dmul x y) :: st))) : Go p.tables e below G T (mkF m pc Ls (.double y :: .double x :: st)) := by
  subst hp; exact Go.step (fun _ k => XS.dmulS X.here C.exec rfl (C.at hd) rfl hn rfl k) K
theorem g_ddiv (C : Cx p l s m meth c Z x0 code maxL ret) (X : Stand p l e R s m args below meth c T locs cells slots) {pc pc' : Nat} {Ls : Array Slot} {st : List Value} {x y : UInt64} (hd : decode code pc = .ok (.ddiv, 1)) (hn : Jvm.Free.Fl.NoNaN64 (FP.ddiv x y)) (hp : pc + 1 = pc')
    (K : Go p.tables e below G T (mkF m pc' Ls (.double (FP.ddiv x y) :: st))) : Go p.tables e below G T (mkF m pc Ls (.double y :: .double x :: st)) := by
  subst hp; exact Go.step (fun _ k => XS.ddivS X.here C.exec rfl (C.at hd) rfl hn rfl k) K
theorem g_lcmp (C : Cx p l s m meth c Z x0 code maxL ret) (X : Stand p l e R s m args below meth c T locs cells slots) {pc pc' : Nat} {Ls : Array Slot} {st : List Value} {x y : Int64} (hd : decode code pc = .ok (.lcmp, 1))  (hp : pc + 1 = pc')
    (K : Go p.tables e below G T (mkF m pc' Ls (.int (XT.cmpL x y) :: st))) : Go p.tables e below G T (mkF m pc Ls (.long y :: .long x :: st)) := by
  subst hp; exact Go.step (fun _ k => XT.lcmp X.here C.exec rfl (C.at hd) rfl k) K
theorem g_pop (C : Cx p l s m meth c Z x0 code maxL ret) (X : Stand p l e R s m args below meth c T locs cells slots) {pc pc' : Nat} {Ls : Array Slot} {st : List Value} {x : Value} (hd : decode code pc = .ok (.pop, 1)) (hc : x.category = 1) (hp : pc + 1 = pc')
    (K : Go p.tables e below G T (mkF m pc' Ls (st))) : Go p.tables e below G T (mkF m pc Ls (x :: st)) := by
  subst hp; exact Go.step (fun _ k => XT.pop X.here C.exec rfl (C.at hd) rfl hc k) K
theorem g_dup (C : Cx p l s m meth c Z x0 code maxL ret) (X : Stand p l e R s m args below meth c T locs cells slots) {pc pc' : Nat} {Ls : Array Slot} {st : List Value} {x : Value} (hd : decode code pc = .ok (.dup, 1)) (hc : x.category = 1) (hp : pc + 1 = pc')
    (K : Go p.tables e below G T (mkF m pc' Ls (x :: x :: st))) : Go p.tables e below G T (mkF m pc Ls (x :: st)) := by
  subst hp; exact Go.step (fun _ k => XS.dup X.here C.exec rfl (C.at hd) rfl hc k) K
theorem g_dupX1 (C : Cx p l s m meth c Z x0 code maxL ret) (X : Stand p l e R s m args below meth c T locs cells slots) {pc pc' : Nat} {Ls : Array Slot} {st : List Value} {x y : Value} (hd : decode code pc = .ok (.dup_x1, 1)) (hc : x.category = 1) (hc' : y.category = 1) (hp : pc + 1 = pc')
    (K : Go p.tables e below G T (mkF m pc' Ls (x :: y :: x :: st))) : Go p.tables e below G T (mkF m pc Ls (x :: y :: st)) := by
  subst hp; exact Go.step (fun _ k => XT.dupX1 X.here C.exec rfl (C.at hd) rfl hc hc' k) K
theorem g_dup2 (C : Cx p l s m meth c Z x0 code maxL ret) (X : Stand p l e R s m args below meth c T locs cells slots) {pc pc' : Nat} {Ls : Array Slot} {st : List Value} {x y : Value} (hd : decode code pc = .ok (.dup2, 1)) (hc : x.category = 1) (hc' : y.category = 1) (hp : pc + 1 = pc')
    (K : Go p.tables e below G T (mkF m pc' Ls (x :: y :: x :: y :: st))) : Go p.tables e below G T (mkF m pc Ls (x :: y :: st)) := by
  subst hp; exact Go.step (fun _ k => XT.dup2 X.here C.exec rfl (C.at hd) rfl hc hc' k) K
theorem g_iinc (C : Cx p l s m meth c Z x0 code maxL ret) (X : Stand p l e R s m args below meth c T locs cells slots) {pc pc' : Nat} {Ls : Array Slot} {st : List Value} {k : Nat} {cst : Int} {x z : Int32} {l' : Array Slot} (hd : decode code pc = .ok (.iinc k cst, 3)) (hl : Ls[k]? = some (.val (.int x))) (hz : z = x + Int32.ofInt cst) (hl' : storeLocals Ls k (.int z) = some l') (hp : pc + 3 = pc')
    (K : Go p.tables e below G T (mkF m pc' l' (st))) : Go p.tables e below G T (mkF m pc Ls (st)) := by
  subst hp; subst hz; exact Go.step (fun _ k => XS.iinc X.here C.exec rfl (C.at hd) hl hl' k) K
theorem g_irem (C : Cx p l s m meth c Z x0 code maxL ret) (X : Stand p l e R s m args below meth c T locs cells slots) {pc pc' : Nat} {Ls : Array Slot} {st : List Value} {x y : Int32} (hd : decode code pc = .ok (.irem, 1)) (hy : y ≠ 0) (hp : pc + 1 = pc')
    (K : Go p.tables e below G T (mkF m pc' Ls (.int (x % y) :: st))) : Go p.tables e below G T (mkF m pc Ls (.int y :: .int x :: st)) := by
  subst hp; exact Go.step (fun _ k => iremM X C.exec rfl (C.at hd) rfl hy k) K
theorem g_lushr (C : Cx p l s m meth c Z x0 code maxL ret) (X : Stand p l e R s m args below meth c T locs cells slots) {pc pc' : Nat} {Ls : Array Slot} {st : List Value} {x : Int64} {y : Int32} (hd : decode code pc = .ok (.lushr, 1)) (hp : pc + 1 = pc')
    (K : Go p.tables e below G T (mkF m pc' Ls (.long (XT.ushrL x y) :: st))) : Go p.tables e below G T (mkF m pc Ls (.int y :: .long x :: st)) := by
  subst hp; exact Go.step (fun _ k => XT.lushr X.here C.exec rfl (C.at hd) rfl k) K
/-- what a branch asks, of whole numbers -/
abbrev cpI : ClassFile.Cond → Int → Int → Prop
  | .eq, x, y => x = y
  | .ne, x, y => ¬ x = y
  | .lt, x, y => x < y
  | .ge, x, y => ¬ x < y
  | .gt, x, y => y < x
  | .le, x, y => ¬ y < x
theorem holds_icmp (cd : ClassFile.Cond) (x y : Int32) : if_icmp.holds cd x y = true ↔ cpI cd x.toInt y.toInt := by
  cases cd <;> simp only [if_icmp.holds, cpI, decide_eq_true_eq, beq_iff_eq, bne_iff_ne, ne_eq, Int32.lt_iff_toInt_lt, Int32.le_iff_toInt_le, Int32.toInt_inj, Int.not_lt, ge_iff_le, gt_iff_lt]
theorem holds_if (cd : ClassFile.Cond) (x : Int32) : ifCond.holds cd x = true ↔ cpI cd x.toInt 0 := by
  rw [if0]; exact holds_icmp cd x 0
theorem g_goto (C : Cx p l s m meth c Z x0 code maxL ret) (X : Stand p l e R s m args below meth c T locs cells slots) {pc pc' : Nat} {Ls : Array Slot} {st : List Value} {o : Int} (hd : decode code pc = .ok (.goto o, 3)) (ho : 0 ≤ (pc : Int) + o) (hp : ((pc : Int) + o).toNat = pc')
    (K : Go p.tables e below G T (mkF m pc' Ls st)) : Go p.tables e below G T (mkF m pc Ls st) :=
  Go.step (fun _ k => XS.goto X.here C.exec rfl rfl (C.at hd) ho hp k) K
theorem g_if (C : Cx p l s m meth c Z x0 code maxL ret) (X : Stand p l e R s m args below meth c T locs cells slots) {pc pc' pc'' : Nat} {Ls : Array Slot} {st : List Value} {cd : ClassFile.Cond} {x : Int32} {o : Int} (hd : decode code pc = .ok (.ifCond cd o, 3)) (ho : 0 ≤ (pc : Int) + o) (hp : ((pc : Int) + o).toNat = pc') (hp3 : pc + 3 = pc'')
    (K1 : cpI cd x.toInt 0 → Go p.tables e below G T (mkF m pc' Ls st)) (K2 : ¬ cpI cd x.toInt 0 → Go p.tables e below G T (mkF m pc'' Ls st)) : Go p.tables e below G T (mkF m pc Ls (.int x :: st)) := by
  subst hp3
  cases hc : ifCond.holds cd x with
  | true => exact Go.step (fun _ k => XS.ifYes X.here C.exec rfl rfl (C.at hd) rfl hc ho hp k) (K1 ((holds_if cd x).mp hc))
  | false => exact Go.step (fun _ k => XS.ifNo X.here C.exec rfl (C.at hd) rfl hc k) (K2 fun q => by rw [(holds_if cd x).mpr q] at hc; cases hc)
theorem g_icmp (C : Cx p l s m meth c Z x0 code maxL ret) (X : Stand p l e R s m args below meth c T locs cells slots) {pc pc' pc'' : Nat} {Ls : Array Slot} {st : List Value} {cd : ClassFile.Cond} {x y : Int32} {o : Int} (hd : decode code pc = .ok (.if_icmp cd o, 3)) (ho : 0 ≤ (pc : Int) + o) (hp : ((pc : Int) + o).toNat = pc') (hp3 : pc + 3 = pc'')
    (K1 : cpI cd x.toInt y.toInt → Go p.tables e below G T (mkF m pc' Ls st)) (K2 : ¬ cpI cd x.toInt y.toInt → Go p.tables e below G T (mkF m pc'' Ls st)) : Go p.tables e below G T (mkF m pc Ls (.int y :: .int x :: st)) := by
  subst hp3
  cases hc : if_icmp.holds cd x y with
  | true => exact Go.step (fun _ k => XS.icmpYes X.here C.exec rfl rfl (C.at hd) rfl hc ho hp k) (K1 ((holds_icmp cd x y).mp hc))
  | false => exact Go.step (fun _ k => XS.icmpNo X.here C.exec rfl (C.at hd) rfl hc k) (K2 fun q => by rw [(holds_icmp cd x y).mpr q] at hc; cases hc)
theorem g_ifY (C : Cx p l s m meth c Z x0 code maxL ret) (X : Stand p l e R s m args below meth c T locs cells slots) {pc pc' : Nat} {Ls : Array Slot} {st : List Value} {cd : ClassFile.Cond} {x : Int32} {o : Int} (hd : decode code pc = .ok (.ifCond cd o, 3)) (ho : 0 ≤ (pc : Int) + o) (hp : ((pc : Int) + o).toNat = pc') (hc : cpI cd x.toInt 0)
    (K1 : Go p.tables e below G T (mkF m pc' Ls st)) : Go p.tables e below G T (mkF m pc Ls (.int x :: st)) :=
  Go.step (fun _ k => XS.ifYes X.here C.exec rfl rfl (C.at hd) rfl ((holds_if cd x).mpr hc) ho hp k) K1
theorem g_ifN (C : Cx p l s m meth c Z x0 code maxL ret) (X : Stand p l e R s m args below meth c T locs cells slots) {pc pc' : Nat} {Ls : Array Slot} {st : List Value} {cd : ClassFile.Cond} {x : Int32} {o : Int} (hd : decode code pc = .ok (.ifCond cd o, 3)) (hc : ¬ cpI cd x.toInt 0) (hp : pc + 3 = pc')
    (K1 : Go p.tables e below G T (mkF m pc' Ls st)) : Go p.tables e below G T (mkF m pc Ls (.int x :: st)) := by
  subst hp
  exact Go.step (fun _ k => XS.ifNo X.here C.exec rfl (C.at hd) rfl (Bool.eq_false_iff.mpr fun q => hc ((holds_if cd x).mp q)) k) K1
theorem g_icmpY (C : Cx p l s m meth c Z x0 code maxL ret) (X : Stand p l e R s m args below meth c T locs cells slots) {pc pc' : Nat} {Ls : Array Slot} {st : List Value} {cd : ClassFile.Cond} {x y : Int32} {o : Int} (hd : decode code pc = .ok (.if_icmp cd o, 3)) (ho : 0 ≤ (pc : Int) + o) (hp : ((pc : Int) + o).toNat = pc') (hc : cpI cd x.toInt y.toInt)
    (K1 : Go p.tables e below G T (mkF m pc' Ls st)) : Go p.tables e below G T (mkF m pc Ls (.int y :: .int x :: st)) :=
  Go.step (fun _ k => XS.icmpYes X.here C.exec rfl rfl (C.at hd) rfl ((holds_icmp cd x y).mpr hc) ho hp k) K1
theorem g_icmpN (C : Cx p l s m meth c Z x0 code maxL ret) (X : Stand p l e R s m args below meth c T locs cells slots) {pc pc' : Nat} {Ls : Array Slot} {st : List Value} {cd : ClassFile.Cond} {x y : Int32} {o : Int} (hd : decode code pc = .ok (.if_icmp cd o, 3)) (hc : ¬ cpI cd x.toInt y.toInt) (hp : pc + 3 = pc')
    (K1 : Go p.tables e below G T (mkF m pc' Ls st)) : Go p.tables e below G T (mkF m pc Ls (.int y :: .int x :: st)) := by
  subst hp
  exact Go.step (fun _ k => XS.icmpNo X.here C.exec rfl (C.at hd) rfl (Bool.eq_false_iff.mpr fun q => hc ((holds_icmp cd x y).mp q)) k) K1
/-! leaving the body -/
theorem g_out {k n : Nat} {Q : Option Value → Heap → List Loc → Prop} (C : Cx p l s m meth c Z x0 code maxL ret) (X : Stand p l e R s m args below meth c T locs cells slots) {v : Option Value} {g : JFrame} (hv : ret = none → v = none)
    (st : ∀ fs, (∀ (f : JFrame) (acts : List Action), f.method = m → f.locked = none → f.entered = [] → (doReturn e (T.setTop f) acts v).1 = T.setFrames fs) → Steps p.tables e below (T.setTop g) (T.setFrames fs))
    (hQ : Q v T.heap locs) (hk : cells ≤ k) (hn : slots ≤ n) : Go p.tables e below (End s Q k n) T g := by
  obtain ⟨fs, hr, hrun, hended, hW, hsame⟩ := X.leave (v := v) (fun q => hv (C.rets ▸ q)) C.unlocked
  exact ⟨_, _, st fs hr, hrun, hended, v, locs, rfl, hQ, ⟨_, rfl⟩, hW, hsame.mono hk hn⟩
theorem g_ireturn {k n : Nat} {Q : Option Value → Heap → List Loc → Prop} (C : Cx p l s m meth c Z x0 code maxL (some .int)) (X : Stand p l e R s m args below meth c T locs cells slots) {pc : Nat} {Ls : Array Slot} {st : List Value} {z : Int32} (hd : decode code pc = .ok (.ireturn, 1))
    (hQ : Q (some (.int z)) T.heap locs) (hk : cells ≤ k) (hn : slots ≤ n) : Go p.tables e below (End s Q k n) T (mkF m pc Ls (.int z :: st)) :=
  g_out C X (v := some (.int z)) (fun q => by cases q) (fun fs hr => retOut X C.exec C.rets rfl (Or.inl ⟨rfl, Or.inl rfl, _, rfl⟩) (C.at hd) hr) hQ hk hn
theorem g_zreturn {k n : Nat} {Q : Option Value → Heap → List Loc → Prop} (C : Cx p l s m meth c Z x0 code maxL (some .boolean)) (X : Stand p l e R s m args below meth c T locs cells slots) {pc : Nat} {Ls : Array Slot} {st : List Value} {z w : Int32} (hd : decode code pc = .ok (.ireturn, 1)) (hw : nar .boolean z = w)
    (hQ : Q (some (.int w)) T.heap locs) (hk : cells ≤ k) (hn : slots ≤ n) : Go p.tables e below (End s Q k n) T (mkF m pc Ls (.int z :: st)) :=
  g_out C X (v := some (.int w)) (fun q => by cases q) (fun fs hr => retN X C.exec (t := .boolean) C.rets (by simp) (C.at hd) (hw ▸ hr)) hQ hk hn
theorem g_lreturn {k n : Nat} {Q : Option Value → Heap → List Loc → Prop} (C : Cx p l s m meth c Z x0 code maxL (some .long)) (X : Stand p l e R s m args below meth c T locs cells slots) {pc : Nat} {Ls : Array Slot} {st : List Value} {z : Int64} (hd : decode code pc = .ok (.lreturn, 1))
    (hQ : Q (some (.long z)) T.heap locs) (hk : cells ≤ k) (hn : slots ≤ n) : Go p.tables e below (End s Q k n) T (mkF m pc Ls (.long z :: st)) :=
  g_out C X (v := some (.long z)) (fun q => by cases q) (fun fs hr => retOut X C.exec C.rets rfl (Or.inr (Or.inl ⟨rfl, rfl, _, rfl⟩)) (C.at hd) hr) hQ hk hn
theorem g_dreturn {k n : Nat} {Q : Option Value → Heap → List Loc → Prop} (C : Cx p l s m meth c Z x0 code maxL (some .double)) (X : Stand p l e R s m args below meth c T locs cells slots) {pc : Nat} {Ls : Array Slot} {st : List Value} {z : UInt64} (hd : decode code pc = .ok (.dreturn, 1))
    (hQ : Q (some (.double z)) T.heap locs) (hk : cells ≤ k) (hn : slots ≤ n) : Go p.tables e below (End s Q k n) T (mkF m pc Ls (.double z :: st)) :=
  g_out C X (v := some (.double z)) (fun q => by cases q) (fun fs hr => retOut X C.exec C.rets rfl (Or.inr (Or.inr (Or.inl ⟨rfl, rfl, _, rfl⟩))) (C.at hd) hr) hQ hk hn
theorem g_areturn {k n : Nat} {Q : Option Value → Heap → List Loc → Prop} {t : FieldType} (C : Cx p l s m meth c Z x0 code maxL (some t)) (X : Stand p l e R s m args below meth c T locs cells slots) {pc : Nat} {Ls : Array Slot} {st : List Value} {w : Value} (hd : decode code pc = .ok (.areturn, 1)) (ht : t.isReference = true) (hw : w.isRef = true) (hna : narrow t w = w)
    (hQ : Q (some w) T.heap locs) (hk : cells ≤ k) (hn : slots ≤ n) : Go p.tables e below (End s Q k n) T (mkF m pc Ls (w :: st)) :=
  g_out C X (v := some w) (fun q => by cases q) (fun fs hr => retOut X C.exec C.rets hna (Or.inr (Or.inr (Or.inr (Or.inr ⟨rfl, ht, hw⟩)))) (C.at hd) hr) hQ hk hn
theorem g_return {k n : Nat} {Q : Option Value → Heap → List Loc → Prop} (C : Cx p l s m meth c Z x0 code maxL none) (X : Stand p l e R s m args below meth c T locs cells slots) {pc : Nat} {Ls : Array Slot} (hd : decode code pc = .ok (.return_, 1))
    (hQ : Q none T.heap locs) (hk : cells ≤ k) (hn : slots ≤ n) : Go p.tables e below (End s Q k n) T (mkF m pc Ls []) :=
  g_out C X (v := none) (fun _ => rfl) (fun fs hr => X.returnOut C.exec C.rets (C.at hd) hr) hQ hk hn
/-! calls -/
theorem g_callS (C : Cx p l s m meth c Z x0 code maxL ret) (X : Stand p l e R s m args below meth c T locs cells slots) {index : Nat} {y : MethodName} {bytes : ByteArray} {mL : Nat} {rt : Option FieldType} {rm : Room} {as : Array Value} {Q : Option Value → Heap → List Loc → Prop} (K0 : Con l Z y bytes mL rt rm as h Q)
    (w1 : (Cond.methodLink x0.cls index y).before a0 Z = true) (w2 : (Cond.static y).before a0 Z = true) (w3 : (Cond.initialized y.cls).before a0 Z = true) (w4 : (Cond.code y bytes mL rt).before a0 Z = true)
    (hy : y.cls ≠ "java/lang/invoke/MethodHandle" ∧ y.cls ≠ "java/lang/invoke/VarHandle") (eT : T.heap = h) {pc pc' : Nat} {Ls : Array Slot} {st : List Value} (hd : decode code pc = .ok (.invokestatic index, 3)) (hsz : Ls.size = maxL)
    {ps : List FieldType} {r : Option FieldType} (hpd : parseMethodDescriptor y.desc = some ⟨ps, r⟩) (argsL rest : List Value) (hlen : argsL.length = ps.length) (has : argsL.toArray = as) (hst : st = argsL.reverse ++ rest) (W : Nat) (hW : (rest.map fun v => v.category).sum = W)
    (hfr : rm.frames + 1 ≤ R.frames) (hlo : W + (mL + 11) + rm.locals ≤ R.locals) (hce : cells + rm.cells ≤ R.cells) (hsl : slots + rm.slots ≤ R.slots) (hp : pc + 3 = pc')
    (K : ∀ v T' L, Stand p l e R s m args below meth c T' (locs ++ L) (cells + rm.cells) (slots + rm.slots) → Q v T'.heap L → Go p.tables e below G T' (mkF m pc' Ls (v.toList ++ rest))) : Go p.tables e below G T (mkF m pc Ls st) := by
  subst hp has
  obtain ⟨v, _, ⟨T1, L1, k1, n1⟩, -, X1, ⟨Lc, hQ, q1, q2, q3⟩, st1⟩ := Jvm.LawKit.callS X C.exec (y := y) C.own (mvT C.warm w1) (mvT C.warm w2) (mvT C.warm w3) (mvT C.warm w4) hy (backOf (W := W) (K0 []) C.warm w4 w3 hfr hlo)
    (g := mkF m pc Ls st) rfl (by rw [C.maxl]; exact hsz) (argsL := argsL) (rest := rest) (lenOf hpd hlen) hst (by show 2 * 0 + _ ≤ _; rw [hW]; omega) (C.at hd) (fun _ _ => ⟨rfl, eT, hce, hsl⟩)
  dsimp only [Pt.U, Pt.locs, Pt.cells, Pt.slots] at X1 q1 q2 q3 st1 hQ
  subst q1 q2 q3
  exact Go.step st1 (K v T1 Lc X1 hQ)
theorem go_trans {tb : Tables} {T1 : State} {g g1 : JFrame} (st : Steps tb e below (T.setTop g) (T1.setTop g1)) (k : Go tb e below G T1 g1) : Go tb e below G T g := by
  obtain ⟨s2, o, h1, h2⟩ := k
  exact ⟨s2, o, st.trans h1, h2⟩
theorem g_callI (C : Cx p l s m meth c Z x0 code maxL ret) (X : Stand p l e R s m args below meth c T locs cells slots) {index : Nat} {y : MethodName} {bytes : ByteArray} {mL : Nat} {rm : Room} {as : Array Value} {Q : Option Value → Heap → List Loc → Prop} (K0 : Con l Z y bytes mL none rm as h Q) (hy1 : y.name = "<init>")
    (w1 : (Cond.methodLink x0.cls index y).before a0 Z = true) (w2 : (Cond.instanceMethod y).before a0 Z = true) (w3 : (Cond.initialized y.cls).before a0 Z = true) (w4 : (Cond.code y bytes mL none).before a0 Z = true)
    (hy : y.cls ≠ "java/lang/invoke/MethodHandle" ∧ y.cls ≠ "java/lang/invoke/VarHandle") (eT : T.heap = h) {pc pc' : Nat} {Ls : Array Slot} {st : List Value} (hd : decode code pc = .ok (.invokespecial index, 3)) (hsz : Ls.size = maxL)
    {ps : List FieldType} {r : Option FieldType} (hpd : parseMethodDescriptor y.desc = some ⟨ps, r⟩) (a : Addr) (argsL rest : List Value) (hlen : argsL.length = ps.length) (has : (.ref a :: argsL).toArray = as) (hst : st = argsL.reverse ++ .ref a :: rest) (W : Nat) (hW : (rest.map fun v => v.category).sum = W)
    (hfr : rm.frames + 1 ≤ R.frames) (hlo : W + (mL + 11) + rm.locals ≤ R.locals) (hce : cells + rm.cells ≤ R.cells) (hsl : slots + rm.slots ≤ R.slots) (hp : pc + 3 = pc')
    (K : ∀ v T' L, Stand p l e R s m args below meth c T' (locs ++ L) (cells + rm.cells) (slots + rm.slots) → Q v T'.heap L → Go p.tables e below G T' (mkF m pc' Ls (v.toList ++ rest))) : Go p.tables e below G T (mkF m pc Ls st) := by
  subst hp has
  obtain ⟨v, _, ⟨T1, L1, k1, n1⟩, -, X1, ⟨Lc, hQ, q1, q2, q3⟩, st1⟩ := X.specialBack C.exec (y := y) hy1 C.own (mvT C.warm w1) (mvT C.warm w2) (mvT C.warm w4) hy (backOf (W := W) (K0 []) C.warm w4 w3 hfr hlo)
    (g := mkF m pc Ls st) rfl (by rw [C.maxl]; exact hsz) (Steps.refl _) (a := a) (argsL := argsL) (rest := rest) (lenOf hpd hlen) hst (by show 2 * 0 + _ ≤ _; rw [hW]; omega) (C.at hd) (fun _ _ => ⟨rfl, eT, hce, hsl⟩)
  dsimp only [Pt.U, Pt.locs, Pt.cells, Pt.slots] at X1 q1 q2 q3 st1 hQ
  subst q1 q2 q3
  exact go_trans st1 (K v T1 Lc X1 hQ)
theorem g_callV (C : Cx p l s m meth c Z x0 code maxL ret) (X : Stand p l e R s m args below meth c T locs cells slots) {index : Nat} {y : MethodName} {cls : String} {bytes : ByteArray} {mL : Nat} {rt : Option FieldType} {rm : Room} {as : Array Value} {Q : Option Value → Heap → List Loc → Prop} (K0 : Con l Z y bytes mL rt rm as h Q)
    (w1 : (Cond.methodLink x0.cls index y).before a0 Z = true) (w2 : (Cond.declares y).before a0 Z = true) (w5 : (Cond.selects cls y y).before a0 Z = true) (w6 : (Cond.instanceMethod y).before a0 Z = true) (w3 : (Cond.initialized y.cls).before a0 Z = true) (w4 : (Cond.code y bytes mL rt).before a0 Z = true)
    (hy : y.cls ≠ "java/lang/invoke/MethodHandle" ∧ y.cls ≠ "java/lang/invoke/VarHandle") (eT : T.heap = h) {a : Addr} (E : Exa Z h a cls) {pc pc' : Nat} {Ls : Array Slot} {st : List Value} (hd : decode code pc = .ok (.invokevirtual index, 3)) (hsz : Ls.size = maxL)
    {ps : List FieldType} {r : Option FieldType} (hpd : parseMethodDescriptor y.desc = some ⟨ps, r⟩) (argsL rest : List Value) (hlen : argsL.length = ps.length) (has : (.ref a :: argsL).toArray = as) (hst : st = argsL.reverse ++ .ref a :: rest) (W : Nat) (hW : (rest.map fun v => v.category).sum = W)
    (hfr : rm.frames + 1 ≤ R.frames) (hlo : W + (mL + 11) + rm.locals ≤ R.locals) (hce : cells + rm.cells ≤ R.cells) (hsl : slots + rm.slots ≤ R.slots) (hp : pc + 3 = pc')
    (K : ∀ v T' L, Stand p l e R s m args below meth c T' (locs ++ L) (cells + rm.cells) (slots + rm.slots) → Q v T'.heap L → Go p.tables e below G T' (mkF m pc' Ls (v.toList ++ rest))) : Go p.tables e below G T (mkF m pc Ls st) := by
  subst hp has
  obtain ⟨cq, kq, qa, qb, qc⟩ := isOf C.warm eT E
  obtain ⟨v, _, ⟨T1, L1, k1, n1⟩, -, X1, ⟨Lc, hQ, q1, q2, q3⟩, st1⟩ := X.virtualBack C.exec (y := y) (z := y) C.own (mvT C.warm w1) (mvT C.warm w2) (notFace_of_selects (args := #[]) (mvT C.warm w5)) (mvT C.warm w5) (mvT C.warm w6) hy (backOf (W := W) (K0 []) C.warm w4 w3 hfr hlo) qa qc
    (g := mkF m pc Ls st) rfl (by rw [C.maxl]; exact hsz) (Steps.refl _) (argsL := argsL) (rest := rest) (lenOf hpd hlen) hst (by show 2 * 0 + _ ≤ _; rw [hW]; omega) (C.at hd) (fun _ _ => ⟨rfl, eT, hce, hsl⟩)
  dsimp only [Pt.U, Pt.locs, Pt.cells, Pt.slots] at X1 q1 q2 q3 st1 hQ
  subst q1 q2 q3
  exact go_trans st1 (K v T1 Lc X1 hQ)
theorem g_initO (C : Cx p l s m meth c Z x0 code maxL ret) (X : Stand p l e R s m args below meth c T locs cells slots) {index : Nat} (w1 : (Cond.methodLink x0.cls index Lib.objectInit).before a0 Z = true) (w2 : (Cond.instanceMethod Lib.objectInit).before a0 Z = true) (w3 : (Cond.code Lib.objectInit ⟨#[0xb1]⟩ 1 none).before a0 Z = true) (eT : T.heap = h)
    {pc pc' : Nat} {Ls : Array Slot} {a : Addr} {rest : List Value} (hd : decode code pc = .ok (.invokespecial index, 3)) (hsz : Ls.size = maxL) (W : Nat) (hW : (rest.map fun v => v.category).sum = W) (hfr : 1 ≤ R.frames) (hlo : W + 12 ≤ R.locals) (hp : pc + 3 = pc')
    (K : ∀ T', Stand p l e R s m args below meth c T' locs cells slots → T'.heap = h → Go p.tables e below G T' (mkF m pc' Ls rest)) : Go p.tables e below G T (mkF m pc Ls (.ref a :: rest)) := by
  subst hp
  obtain ⟨T1, X1, e1, st1⟩ := initO X C.exec C.warm C.own w1 w2 w3 eT (g := mkF m pc Ls (.ref a :: rest)) rfl (by rw [C.maxl]; exact hsz) rfl (C.at hd) hfr (W := W) (by show 2 * 0 + _ ≤ _; rw [hW]; omega) hlo
  exact Go.step st1 (K T1 X1 e1)
/-! the heap -/
theorem g_new (C : Cx p l s m meth c Z x0 code maxL ret) (X : Stand p l e R s m args below meth c T locs cells slots) {cls : String} {index n : Nat} (w : (Cond.classLink x0.cls index cls).before a0 Z = true) (wi : (Cond.instantiable cls n).before a0 Z = true) (wz : (Cond.initialized cls).before a0 Z = true) (eT : T.heap = h)
    {pc pc' : Nat} {Ls : Array Slot} {st : List Value} (hd : decode code pc = .ok (.new index, 3)) (hc : cells + 1 ≤ R.cells) (hl : slots + n ≤ R.slots) (hp : pc + 3 = pc')
    (K : ∀ T' h' a, a = h.size → Stand p l e R s m args below meth c T' locs (cells + 1) (slots + n) → T'.heap = h' → Ext h h' → Exa Z h' a cls → (∀ {O nm d : String} {ty : FieldType}, Laid Z a0 cls O nm d → parseFieldDescriptor d = some ty → Fld Z h' a O nm d (defaultValue ty)) → Go p.tables e below G T' (mkF m pc' Ls (.ref a :: st))) :
    Go p.tables e below G T (mkF m pc Ls st) := by
  subst hp
  obtain ⟨T1, h1, X1, e1, E1, A1, D1, -, st1⟩ := newO X C.exec C.warm C.own w wi wz eT (g := mkF m pc Ls st) rfl (C.at hd) hc hl
  exact Go.step st1 (K T1 h1 h.size rfl X1 e1 E1 A1 D1)
theorem g_newP (C : Cx p l s m meth c Z x0 code maxL ret) (X : Stand p l e R s m args below meth c T locs cells slots) {aty : ArrayType} (w : (Cond.arrayClass (newarray.typeOf aty)).before a0 Z = true) (eT : T.heap = h)
    {pc pc' : Nat} {Ls : Array Slot} {st : List Value} {z : Int32} (hd : decode code pc = .ok (.newarray aty, 2)) (hz : ¬ z < 0) (cap : Nat) (hcap : z.toNatClampNeg ≤ cap) (hb : cap * 8 ≤ 536870912) (hc : cells + 1 ≤ R.cells) (hl : slots + cap ≤ R.slots) (hp : pc + 2 = pc')
    (K : ∀ T' h' a k, a = h.size → Stand p l e R s m args below meth c T' locs (cells + 1) (slots + cap) → T'.heap = h' → Ext h h' → Arv Z h' a k (newarray.typeOf aty) z [] (defaultValue (newarray.typeOf aty)) → Go p.tables e below G T' (mkF m pc' Ls (.ref a :: st))) :
    Go p.tables e below G T (mkF m pc Ls (.int z :: st)) := by
  subst hp
  obtain ⟨T1, h1, cA, X1, e1, E1, A1, st1⟩ := newP X C.exec C.warm w eT (g := mkF m pc Ls (.int z :: st)) rfl (C.at hd) rfl hz hcap hb hc hl
  exact Go.step st1 (K T1 h1 h.size cA rfl X1 e1 E1 (Arv.new A1 hz))
theorem g_getF (C : Cx p l s m meth c Z x0 code maxL ret) (X : Stand p l e R s m args below meth c T locs cells slots) {R0 O n d host : String} {index : Nat} (w : (Cond.fieldLink x0.cls index R0 n d).before a0 Z = true ∨ (Cond.fieldLinkNest x0.cls index R0 n d host).before a0 Z = true) (via : Via Z R0 O n d) (eT : T.heap = h) {a : Addr} {v : Value} (F : Fld Z h a O n d v)
    {pc pc' : Nat} {Ls : Array Slot} {st : List Value} (hd : decode code pc = .ok (.getfield index, 3)) (hp : pc + 3 = pc')
    (K : ∀ T', Stand p l e R s m args below meth c T' locs cells slots → T'.heap = h → Go p.tables e below G T' (mkF m pc' Ls (v :: st))) : Go p.tables e below G T (mkF m pc Ls (.ref a :: st)) := by
  subst hp
  obtain ⟨T1, X1, e1, st1⟩ := getF X C.exec C.warm C.own w via eT F (g := mkF m pc Ls (.ref a :: st)) rfl rfl (C.at hd)
  exact Go.step st1 (K T1 X1 e1)
theorem g_putF (C : Cx p l s m meth c Z x0 code maxL ret) (X : Stand p l e R s m args below meth c T locs cells slots) {R0 O n d host cls : String} {index kk : Nat} {ty : FieldType} (w : (Cond.fieldLink x0.cls index R0 n d).before a0 Z = true ∨ (Cond.fieldLinkNest x0.cls index R0 n d host).before a0 Z = true) (via : Via Z R0 O n d) (eT : T.heap = h) {a : Addr} {v old : Value} (F : Fld Z h a O n d old) (E : Exa Z h a cls)
    (L : (Cond.lays cls O n d).before a0 Z = true ∨ ((Cond.laysFinal cls O n d).before a0 Z = true ∧ x0.cls = O ∧ x0.name = "<init>")) (wi : (Cond.instantiable cls kk).before a0 Z = true) (hty : parseFieldDescriptor d = some ty) (hn : narrow ty v = v) (hf : fits ty v = true)
    {pc pc' : Nat} {Ls : Array Slot} {st : List Value} (hd : decode code pc = .ok (.putfield index, 3)) (hp : pc + 3 = pc')
    (K : ∀ T' h', Stand p l e R s m args below meth c T' (locs ++ [⟨a, RoadKit.slotOf Z O n d⟩]) cells slots → T'.heap = h' → Wr h h' a (RoadKit.slotOf Z O n d) v → Go p.tables e below G T' (mkF m pc' Ls st)) : Go p.tables e below G T (mkF m pc Ls (v :: .ref a :: st)) := by
  subst hp
  obtain ⟨T1, h1, X1, e1, W1, st1⟩ := putF X C.exec C.warm C.own w via eT F E (L.imp id fun q => ⟨q.1, q.2.1, C.nm.trans q.2.2⟩) wi hty hn hf (g := mkF m pc Ls (v :: .ref a :: st)) rfl rfl (C.at hd)
  exact Go.step st1 (K T1 h1 X1 e1 W1)
/-- an array whose values are a list: read, length, store -/
theorem Arv.cell {a : Addr} {k : ClassId} {ty : FieldType} {z : Int32} {vs : List Value} {d : Value} (A : Arv Z h a k ty z vs d) : ∃ cl : Cell, Arr Z h a cl ty ∧ cl.slots.size = z.toNatClampNeg ∧ ¬ z < 0 ∧ Has cl vs d := by
  obtain ⟨cl, A1, -, S, N, H, -⟩ := A
  exact ⟨cl, A1, S, N, H⟩
theorem g_len (C : Cx p l s m meth c Z x0 code maxL ret) (X : Stand p l e R s m args below meth c T locs cells slots) {a : Addr} {k : ClassId} {ty : FieldType} {z : Int32} {vs : List Value} {d : Value} (eT : T.heap = h) (A : Arv Z h a k ty z vs d) {pc pc' : Nat} {Ls : Array Slot} {st : List Value} (hd : decode code pc = .ok (.arraylength, 1)) (hp : pc + 1 = pc')
    (K : Go p.tables e below G T (mkF m pc' Ls (.int z :: st))) : Go p.tables e below G T (mkF m pc Ls (.ref a :: st)) := by
  subst hp
  obtain ⟨cl, A1, S, N, H⟩ := Arv.cell A
  refine Go.step (fun t q => X.arraylength C.exec (cell := cl) (by rw [eT]; exact A1.1) (State.isArrayOf_alike C.warm.alike A1.2.1) (g := mkF m pc Ls (.ref a :: st)) rfl rfl (C.at hd) t ?_) K
  rw [len_of S N]; exact q
theorem inb {cl : Cell} {z j : Int32} (S : cl.slots.size = z.toNatClampNeg) (h0 : 0 ≤ j.toInt) (h1 : j.toInt < z.toInt) : ¬ (j < 0 ∨ cl.slots.size ≤ j.toNatClampNeg) :=
  inb_of S ⟨fun q => by rw [Int32.lt_iff_toInt_lt] at q; exact absurd q (Int.not_lt.mpr h0), Int32.lt_iff_toInt_lt.mpr h1⟩
theorem g_iaload (C : Cx p l s m meth c Z x0 code maxL ret) (X : Stand p l e R s m args below meth c T locs cells slots) {a : Addr} {k : ClassId} {z j : Int32} {vs : List Value} {d : Value} {v : Int32} (eT : T.heap = h) (A : Arv Z h a k .int z vs d) (h0 : 0 ≤ j.toInt) (h1 : j.toInt < z.toInt) (i : Nat) (hj : j.toNatClampNeg = i) (hv : vs.getD i d = .int v) {pc pc' : Nat} {Ls : Array Slot} {st : List Value} (hd : decode code pc = .ok (.iaload, 1)) (hp : pc + 1 = pc')
    (K : Go p.tables e below G T (mkF m pc' Ls (.int v :: st))) : Go p.tables e below G T (mkF m pc Ls (.int j :: .ref a :: st)) := by
  subst hp
  obtain ⟨cl, A1, S, N, H⟩ := Arv.cell A
  exact Go.step (fun t q => X.iaload C.exec (j := j) (v := .int v) (by rw [eT]; exact A1.1) (State.isArrayOf_alike C.warm.alike A1.2.1) A1.2.2 (inb S h0 h1) (H.at (inb S h0 h1) (by rw [hj]; exact hv)) (g := mkF m pc Ls (.int j :: .ref a :: st)) rfl rfl (C.at hd) t q) K
theorem g_daload (C : Cx p l s m meth c Z x0 code maxL ret) (X : Stand p l e R s m args below meth c T locs cells slots) {a : Addr} {k : ClassId} {z j : Int32} {vs : List Value} {d : Value} {v : UInt64} (eT : T.heap = h) (A : Arv Z h a k .double z vs d) (h0 : 0 ≤ j.toInt) (h1 : j.toInt < z.toInt) (i : Nat) (hj : j.toNatClampNeg = i) (hv : vs.getD i d = .double v) {pc pc' : Nat} {Ls : Array Slot} {st : List Value} (hd : decode code pc = .ok (.daload, 1)) (hp : pc + 1 = pc')
    (K : Go p.tables e below G T (mkF m pc' Ls (.double v :: st))) : Go p.tables e below G T (mkF m pc Ls (.int j :: .ref a :: st)) := by
  subst hp
  obtain ⟨cl, A1, S, N, H⟩ := Arv.cell A
  exact Go.step (fun t q => X.daload C.exec (j := j) (v := .double v) (by rw [eT]; exact A1.1) (State.isArrayOf_alike C.warm.alike A1.2.1) A1.2.2 (inb S h0 h1) (H.at (inb S h0 h1) (by rw [hj]; exact hv)) (g := mkF m pc Ls (.int j :: .ref a :: st)) rfl rfl (C.at hd) t q) K
theorem g_aaload (C : Cx p l s m meth c Z x0 code maxL ret) (X : Stand p l e R s m args below meth c T locs cells slots) {a : Addr} {k : ClassId} {z j : Int32} {ty : FieldType} {vs : List Value} {d v : Value} (eT : T.heap = h) (A : Arv Z h a k ty z vs d) (hty : ty.isReference = true) (hr : v.isRef = true) (h0 : 0 ≤ j.toInt) (h1 : j.toInt < z.toInt) (i : Nat) (hj : j.toNatClampNeg = i) (hv : vs.getD i d = v) {pc pc' : Nat} {Ls : Array Slot} {st : List Value} (hd : decode code pc = .ok (.aaload, 1)) (hp : pc + 1 = pc')
    (K : Go p.tables e below G T (mkF m pc' Ls (v :: st))) : Go p.tables e below G T (mkF m pc Ls (.int j :: .ref a :: st)) := by
  subst hp
  obtain ⟨cl, A1, S, N, H⟩ := Arv.cell A
  exact Go.step (fun t q => X.aaload C.exec (j := j) (v := v) (by rw [eT]; exact A1.1) (State.isArrayOf_alike C.warm.alike A1.2.1) hty A1.2.2 (inb S h0 h1) (H.at (inb S h0 h1) (by rw [hj]; exact hv)) (g := mkF m pc Ls (.int j :: .ref a :: st)) rfl rfl (C.at hd) t q) K
theorem Arv.put {h' : Heap} {a : Addr} {k : ClassId} {ty : FieldType} {z j : Int32} {vs : List Value} {d v : Value} (A : Arv Z h a k ty z vs d) (W : Wr h h' a j.toNatClampNeg v) (hv : fits ty v = true) (i : Nat) (hj : j.toNatClampNeg = i) (n : Nat) (hi : i < vs.length + n) : Arv Z h' a k ty z ((vs ++ List.replicate n d).set i v) d := by
  obtain ⟨cl, A1, q1, S, N, H, Gf⟩ := Arv.pad A (pad_rep vs d n)
  exact Arv.set A1 q1 S N H Gf hv W i hj (by rw [List.length_append, List.length_replicate]; exact hi)
theorem g_iastore (C : Cx p l s m meth c Z x0 code maxL ret) (X : Stand p l e R s m args below meth c T locs cells slots) {a : Addr} {k : ClassId} {z j x : Int32} {vs : List Value} {d : Value} (eT : T.heap = h) (A : Arv Z h a k .int z vs d) (h0 : 0 ≤ j.toInt) (h1 : j.toInt < z.toInt) (i n : Nat) (hj : j.toNatClampNeg = i) (hi : i < vs.length + n) {pc pc' : Nat} {Ls : Array Slot} {st : List Value} (hd : decode code pc = .ok (.iastore, 1)) (hp : pc + 1 = pc')
    (K : ∀ T' h', Stand p l e R s m args below meth c T' (locs ++ [⟨a, j.toNatClampNeg⟩]) cells slots → T'.heap = h' → Wr h h' a j.toNatClampNeg (.int x) → Arv Z h' a k .int z ((vs ++ List.replicate n d).set i (.int x)) d → Go p.tables e below G T' (mkF m pc' Ls st)) : Go p.tables e below G T (mkF m pc Ls (.int x :: .int j :: .ref a :: st)) := by
  subst hp
  obtain ⟨cl, A1, S, N, H⟩ := Arv.cell A
  obtain ⟨T1, h2, X1, e1, W1, st1⟩ := stI X C.exec C.warm eT A1 (inb S h0 h1) (g := mkF m pc Ls (.int x :: .int j :: .ref a :: st)) rfl rfl (C.at hd)
  exact Go.step st1 (K T1 h2 X1 e1 W1 (Arv.put A W1 rfl i hj n hi))
theorem g_dastore (C : Cx p l s m meth c Z x0 code maxL ret) (X : Stand p l e R s m args below meth c T locs cells slots) {a : Addr} {k : ClassId} {z j : Int32} {x : UInt64} {vs : List Value} {d : Value} (eT : T.heap = h) (A : Arv Z h a k .double z vs d) (h0 : 0 ≤ j.toInt) (h1 : j.toInt < z.toInt) (i n : Nat) (hj : j.toNatClampNeg = i) (hi : i < vs.length + n) {pc pc' : Nat} {Ls : Array Slot} {st : List Value} (hd : decode code pc = .ok (.dastore, 1)) (hp : pc + 1 = pc')
    (K : ∀ T' h', Stand p l e R s m args below meth c T' (locs ++ [⟨a, j.toNatClampNeg⟩]) cells slots → T'.heap = h' → Wr h h' a j.toNatClampNeg (.double x) → Arv Z h' a k .double z ((vs ++ List.replicate n d).set i (.double x)) d → Go p.tables e below G T' (mkF m pc' Ls st)) : Go p.tables e below G T (mkF m pc Ls (.double x :: .int j :: .ref a :: st)) := by
  subst hp
  obtain ⟨cl, A1, S, N, H⟩ := Arv.cell A
  obtain ⟨T1, h2, X1, e1, W1, st1⟩ := stD X C.exec C.warm eT A1 (inb S h0 h1) (g := mkF m pc Ls (.double x :: .int j :: .ref a :: st)) rfl rfl (C.at hd)
  exact Go.step st1 (K T1 h2 X1 e1 W1 (Arv.put A W1 rfl i hj n hi))
theorem g_ldc2J (C : Cx p l s m meth c Z x0 code maxL ret) (X : Stand p l e R s m args below meth c T locs cells slots) {index : Nat} {v : Int64} (w : (Cond.constantLong x0.cls index v).before a0 Z = true) {pc pc' : Nat} {Ls : Array Slot} {st : List Value} (hd : decode code pc = .ok (.ldc2_w index, 3)) (hp : pc + 3 = pc')
    (K : Go p.tables e below G T (mkF m pc' Ls (.long v :: st))) : Go p.tables e below G T (mkF m pc Ls st) := by
  subst hp
  exact Go.step (fun t q => X.ldc2Long C.exec C.own (mvT C.warm w) (g := mkF m pc Ls st) rfl (C.at hd) t q) K
theorem g_ldcI (C : Cx p l s m meth c Z x0 code maxL ret) (X : Stand p l e R s m args below meth c T locs cells slots) {index : Nat} {v : Int32} (w : (Cond.constant x0.cls index v).before a0 Z = true) {pc pc' : Nat} {Ls : Array Slot} {st : List Value} (hd : decode code pc = .ok (.ldc index, 2)) (hp : pc + 2 = pc')
    (K : Go p.tables e below G T (mkF m pc' Ls (.int v :: st))) : Go p.tables e below G T (mkF m pc Ls st) := by
  subst hp
  exact Go.step (fun t q => X.ldcInt C.exec C.own (mvT C.warm w) (g := mkF m pc Ls st) rfl (C.at hd) t q) K
theorem FldE.wr {h' : Heap} {a b : Addr} {C n d : String} {sl : Nat} {v : Value} (W : Wr h h' b sl v) (F : ∃ w, Fld Z h a C n d w) : ∃ w, Fld Z h' a C n d w := by
  obtain ⟨w, F⟩ := F
  by_cases q : a ≠ b ∨ RoadKit.slotOf Z C n d ≠ sl
  · exact ⟨w, F.other W q⟩
  · have q1 : a = b := Decidable.not_not.mp fun z => q (Or.inl z)
    have q2 : RoadKit.slotOf Z C n d = sl := Decidable.not_not.mp fun z => q (Or.inr z)
    subst q1 q2
    exact ⟨v, F.same W⟩
theorem g_ldc2D (C : Cx p l s m meth c Z x0 code maxL ret) (X : Stand p l e R s m args below meth c T locs cells slots) {index : Nat} {b : UInt64} (w : (Cond.constantDouble x0.cls index b).before a0 Z = true) {pc pc' : Nat} {Ls : Array Slot} {st : List Value} (hd : decode code pc = .ok (.ldc2_w index, 3)) (hp : pc + 3 = pc')
    (K : Go p.tables e below G T (mkF m pc' Ls (.double b :: st))) : Go p.tables e below G T (mkF m pc Ls st) := by
  subst hp
  exact Go.step (fun t q => X.ldc2DoubleC C.exec C.own (mvT C.warm w) (g := mkF m pc Ls st) rfl (C.at hd) t q) K
end Walk
/-! doubles that are whole numbers -/
section Dbl
open Jvm.FP.Core Jvm.Free.Fl
theorem nn_of_int {i : Int} {a : UInt64} (q : DInt i a) : NoNaN64 a := val64_no.mpr (DInt_ne_nan q)
def cmpI (i j : Int) : Int32 := if j < i then 1 else if i = j then 0 else -1
theorem cmpI_lt (i j : Int) : (cmpI i j).toInt < 0 ↔ i < j := by
  unfold cmpI
  split
  · exact ⟨fun q => absurd q (by decide), fun q => by omega⟩
  · split
    · exact ⟨fun q => absurd q (by decide), fun q => by omega⟩
    · exact ⟨fun _ => by omega, fun _ => by decide⟩
theorem cmpI_gt (i j : Int) : 0 < (cmpI i j).toInt ↔ j < i := by
  unfold cmpI
  split
  · exact ⟨fun _ => by assumption, fun _ => by decide⟩
  · split
    · exact ⟨fun q => absurd q (by decide), fun q => by omega⟩
    · exact ⟨fun q => absurd q (by decide), fun q => by omega⟩
theorem cmpI_eq (i j : Int) : (cmpI i j).toInt = 0 ↔ i = j := by
  unfold cmpI
  split
  · exact ⟨fun q => absurd q (by decide), fun q => by omega⟩
  · split
    · exact ⟨fun _ => by assumption, fun _ => by decide⟩
    · exact ⟨fun q => absurd q (by decide), fun q => by omega⟩
theorem cmpI_self (i : Int) : cmpI i i = 0 := by
  unfold cmpI
  rw [if_neg (Int.lt_irrefl i), if_pos rfl]
theorem cmpL_lt (x y : Int64) : (XT.cmpL x y).toInt < 0 ↔ x.toInt < y.toInt := by
  unfold XT.cmpL
  rw [← Int64.lt_iff_toInt_lt]
  split
  · rename_i q; exact ⟨fun q => absurd q (by decide), fun q' => absurd q' (Int64.lt_asymm q)⟩
  · split
    · rename_i q; subst q; exact ⟨fun q => absurd q (by decide), fun q' => absurd q' Int64.lt_irrefl⟩
    · rename_i q1 q2; exact ⟨fun _ => by have q3 : ¬ x.toInt = y.toInt := fun q => q2 (Int64.toInt_inj.mp q); rw [Int64.lt_iff_toInt_lt] at q1 ⊢; omega, fun _ => by decide⟩
theorem cmpL_gt (x y : Int64) : 0 < (XT.cmpL x y).toInt ↔ y.toInt < x.toInt := by
  unfold XT.cmpL
  rw [← Int64.lt_iff_toInt_lt]
  split
  · rename_i q; exact ⟨fun _ => q, fun _ => by decide⟩
  · split
    · rename_i q0 q; exact ⟨fun q => absurd q (by decide), fun q' => absurd q' q0⟩
    · rename_i q0 q; exact ⟨fun q => absurd q (by decide), fun q' => absurd q' q0⟩
theorem cmpL_eq (x y : Int64) : (XT.cmpL x y).toInt = 0 ↔ x.toInt = y.toInt := by
  unfold XT.cmpL
  rw [Int64.toInt_inj]
  split
  · rename_i q; exact ⟨fun q => absurd q (by decide), fun q' => absurd q (by rw [q']; exact Int64.lt_irrefl)⟩
  · split
    · rename_i q; exact ⟨fun _ => q, fun _ => by decide⟩
    · rename_i q0 q; exact ⟨fun q => absurd q (by decide), fun q' => absurd q' q⟩
theorem cmpV_of {r : Option Ordering} {i j : Int} (q : r = some (compare i j)) (o : CmpOp) : cmpValue r o = cmpI i j := by
  subst q
  unfold cmpI
  split
  · rename_i q; rw [(compare_gt_iff i j).mpr q]; rfl
  · split
    · rename_i q; rw [(compare_eq_iff i j).mpr q]; rfl
    · rename_i q1 q2; rw [(compare_lt_iff i j).mpr (by omega)]; rfl
theorem dcmp_cmpI {i j : Int} {a b : UInt64} (ha : DInt i a) (hb : DInt j b) (o : CmpOp) : cmpValue (FP.dcmp a b) o = cmpI i j := cmpV_of (dcmp_int ha hb) o
theorem dint_zero : DInt 0 FP.dconst0 := by
  unfold DInt
  rw [show val64 FP.dconst0 = _ from val64_dconst0]
  show signed false (0 * _) = 0 * _
  rw [Nat.zero_mul, Int.zero_mul]; rfl
end Dbl
end Jvm.OwnKit
namespace Jvm.OwnKit
open Sem ClassFile Op Lib Jvm.Stand Jvm.Free Jvm.LawKit Jvm.RoadKit
section More
variable {p : Program} {l : Launch} {e : Env} {R : Room} {s : State} {m : MethodId} {args : Array Value} {below : List Frame} {meth : Method} {c : Code} {T : State} {locs : List Loc} {cells slots : Nat} {Z : State} {a0 : Array Value} {h : Heap} {G : Outcome → State → Prop}
variable {x0 : MethodName} {code : ByteArray} {maxL : Nat} {ret : Option FieldType}
theorem g_newPE (C : Cx p l s m meth c Z x0 code maxL ret) (X : Stand p l e R s m args below meth c T locs cells slots) {aty : ArrayType} {ad : String} (had : "[" ++ (newarray.typeOf aty).toString = ad) (w : (Cond.arrayClass (newarray.typeOf aty)).before a0 Z = true) (eT : T.heap = h)
    {pc pc' : Nat} {Ls : Array Slot} {st : List Value} {z : Int32} (hd : decode code pc = .ok (.newarray aty, 2)) (hz : ¬ z < 0) (cap : Nat) (hcap : z.toNatClampNeg ≤ cap) (hb : cap * 8 ≤ 536870912) (hc : cells + 1 ≤ R.cells) (hl : slots + cap ≤ R.slots) (hp : pc + 2 = pc')
    (K : ∀ T' h' a k, a = h.size → Stand p l e R s m args below meth c T' locs (cells + 1) (slots + cap) → T'.heap = h' → Ext h h' → Arv Z h' a k (newarray.typeOf aty) z [] (defaultValue (newarray.typeOf aty)) → Exa Z h' a ad → Go p.tables e below G T' (mkF m pc' Ls (.ref a :: st))) :
    Go p.tables e below G T (mkF m pc Ls (.int z :: st)) := by
  subst hp
  obtain ⟨T1, h1, cA, X1, e1, E1, A1, B1, st1⟩ := newPE X C.exec C.warm w eT (g := mkF m pc Ls (.int z :: st)) rfl (C.at hd) rfl hz hcap hb hc hl had
  exact Go.step st1 (K T1 h1 h.size cA rfl X1 e1 E1 (Arv.new A1 hz) B1)
theorem g_clone (C : Cx p l s m meth c Z x0 code maxL ret) (X : Stand p l e R s m args below meth c T locs cells slots) {index : Nat} {ad : String} {ty : FieldType} (w1 : (Cond.methodLink x0.cls index ⟨ad, "clone", "()Ljava/lang/Object;"⟩).before a0 Z = true) (w2 : (Cond.sameMethod ad "java/lang/Object" "clone" "()Ljava/lang/Object;").before a0 Z = true) (w3 : (Cond.native ⟨"java/lang/Object", "clone", "()Ljava/lang/Object;"⟩).before a0 Z = true)
    (w4 : (Cond.instanceMethod ⟨"java/lang/Object", "clone", "()Ljava/lang/Object;"⟩).before a0 Z = true) (w5 : (Cond.selects ad ⟨ad, "clone", "()Ljava/lang/Object;"⟩ ⟨"java/lang/Object", "clone", "()Ljava/lang/Object;"⟩).before a0 Z = true) (w6 : (Cond.castable ad "java/lang/Cloneable").before a0 Z = true) (eT : T.heap = h)
    {a : Addr} {k : ClassId} {z : Int32} {vs : List Value} {d : Value} (A : Arv Z h a k ty z vs d) (E : Exa Z h a ad) {pc pc' : Nat} {Ls : Array Slot} {rest : List Value} (hd : decode code pc = .ok (.invokevirtual index, 3)) (hsz : Ls.size = maxL) (W : Nat) (hW : (rest.map fun v => v.category).sum = W) (hfr : 1 ≤ R.frames) (hlo : W + 14 ≤ R.locals)
    (cap : Nat) (hcap : z.toNatClampNeg ≤ cap) (hc : cells + 1 ≤ R.cells) (hl : slots + cap ≤ R.slots) (hp : pc + 3 = pc')
    (K : ∀ T' h' a', a' = h.size → Stand p l e R s m args below meth c T' locs (cells + 1) (slots + cap) → T'.heap = h' → Ext h h' → Arv Z h' a' k ty z vs d → Exa Z h' a' ad → Go p.tables e below G T' (mkF m pc' Ls (.ref a' :: rest))) :
    Go p.tables e below G T (mkF m pc Ls (.ref a :: rest)) := by
  subst hp
  obtain ⟨T1, h1, X1, e1, E1, A1, B1, st1⟩ := cloneH X C.exec C.warm C.own w1 w2 w3 w4 w5 w6 eT A.arh E (g := mkF m pc Ls (.ref a :: rest)) rfl (by rw [C.maxl]; exact hsz) rfl (C.at hd) hfr (W := W) (by show 2 * 0 + _ ≤ _; rw [hW]; omega) hlo hcap hc hl
  exact Go.step st1 (K T1 h1 h.size rfl X1 e1 E1 A1 B1)
theorem g_cast (C : Cx p l s m meth c Z x0 code maxL ret) (X : Stand p l e R s m args below meth c T locs cells slots) {cls : String} {index : Nat} (w : (Cond.classLink x0.cls index cls).before a0 Z = true) (eT : T.heap = h) {a : Addr} (F : Ins Z h a cls true) {pc pc' : Nat} {Ls : Array Slot} {rest : List Value} (hd : decode code pc = .ok (.checkcast index, 3)) (hp : pc + 3 = pc')
    (K : ∀ T', Stand p l e R s m args below meth c T' locs cells slots → T'.heap = h → Go p.tables e below G T' (mkF m pc' Ls (.ref a :: rest))) : Go p.tables e below G T (mkF m pc Ls (.ref a :: rest)) := by
  subst hp
  obtain ⟨T1, X1, e1, st1⟩ := castY X C.exec C.warm C.own w eT F (g := mkF m pc Ls (.ref a :: rest)) rfl rfl (C.at hd)
  exact Go.step st1 (K T1 X1 e1)
theorem g_acmpY (C : Cx p l s m meth c Z x0 code maxL ret) (X : Stand p l e R s m args below meth c T locs cells slots) {pc pc' : Nat} {Ls : Array Slot} {st : List Value} {cd : ClassFile.ACond} {v w : Value} {o : Int} (hd : decode code pc = .ok (.if_acmp cd o, 3)) (hv : v.isRef = true) (hw : w.isRef = true) (hc : XT.acmp cd v w = true) (ho : 0 ≤ (pc : Int) + o) (hp : ((pc : Int) + o).toNat = pc')
    (K : Go p.tables e below G T (mkF m pc' Ls st)) : Go p.tables e below G T (mkF m pc Ls (w :: v :: st)) :=
  Go.step (fun _ k => XT.acmpYes X.here C.exec rfl rfl (C.at hd) rfl hv hw hc ho hp k) K
theorem g_acmpN (C : Cx p l s m meth c Z x0 code maxL ret) (X : Stand p l e R s m args below meth c T locs cells slots) {pc pc' : Nat} {Ls : Array Slot} {st : List Value} {cd : ClassFile.ACond} {v w : Value} {o : Int} (hd : decode code pc = .ok (.if_acmp cd o, 3)) (hv : v.isRef = true) (hw : w.isRef = true) (hc : XT.acmp cd v w = false) (hp : pc + 3 = pc')
    (K : Go p.tables e below G T (mkF m pc' Ls st)) : Go p.tables e below G T (mkF m pc Ls (w :: v :: st)) := by
  subst hp
  exact Go.step (fun _ k => XT.acmpNo X.here C.exec rfl (C.at hd) rfl hv hw hc k) K
theorem ac_same (v : Value) : XT.acmp .eq v v = true ∧ XT.acmp .ne v v = false := by simp [XT.acmp]
theorem ac_diff {v w : Value} (q : v ≠ w) : XT.acmp .eq v w = false ∧ XT.acmp .ne v w = true := by simp [XT.acmp, q]
theorem ref_ne {a b : Addr} (q : a ≠ b) : Value.ref a ≠ Value.ref b := fun z => q (Value.ref.inj z)
theorem g_ifnullY (C : Cx p l s m meth c Z x0 code maxL ret) (X : Stand p l e R s m args below meth c T locs cells slots) {pc pc' : Nat} {Ls : Array Slot} {st : List Value} {o : Int} (hd : decode code pc = .ok (.ifnull o, 3)) (ho : 0 ≤ (pc : Int) + o) (hp : ((pc : Int) + o).toNat = pc')
    (K : Go p.tables e below G T (mkF m pc' Ls st)) : Go p.tables e below G T (mkF m pc Ls (.null :: st)) :=
  Go.step (fun _ k => XS.ifnullYes X.here C.exec rfl rfl (C.at hd) rfl ho hp k) K
theorem g_ifnullN (C : Cx p l s m meth c Z x0 code maxL ret) (X : Stand p l e R s m args below meth c T locs cells slots) {pc pc' : Nat} {Ls : Array Slot} {st : List Value} {a : Addr} {o : Int} (hd : decode code pc = .ok (.ifnull o, 3)) (hp : pc + 3 = pc')
    (K : Go p.tables e below G T (mkF m pc' Ls st)) : Go p.tables e below G T (mkF m pc Ls (.ref a :: st)) := by
  subst hp
  exact Go.step (fun _ k => XS.ifnullNo X.here C.exec rfl (C.at hd) rfl k) K
theorem g_ifnonnullN (C : Cx p l s m meth c Z x0 code maxL ret) (X : Stand p l e R s m args below meth c T locs cells slots) {pc pc' : Nat} {Ls : Array Slot} {st : List Value} {o : Int} (hd : decode code pc = .ok (.ifnonnull o, 3)) (hp : pc + 3 = pc')
    (K : Go p.tables e below G T (mkF m pc' Ls st)) : Go p.tables e below G T (mkF m pc Ls (.null :: st)) := by
  subst hp
  exact Go.step (fun _ k => XT.ifnonnullNo X.here C.exec rfl (C.at hd) rfl k) K
theorem g_ifnonnullY (C : Cx p l s m meth c Z x0 code maxL ret) (X : Stand p l e R s m args below meth c T locs cells slots) {pc pc' : Nat} {Ls : Array Slot} {st : List Value} {a : Addr} {o : Int} (hd : decode code pc = .ok (.ifnonnull o, 3)) (ho : 0 ≤ (pc : Int) + o) (hp : ((pc : Int) + o).toNat = pc')
    (K : Go p.tables e below G T (mkF m pc' Ls st)) : Go p.tables e below G T (mkF m pc Ls (.ref a :: st)) :=
  Go.step (fun _ k => XT.ifnonnullYes X.here C.exec rfl rfl (C.at hd) rfl ho hp k) K
theorem g_getS (C : Cx p l s m meth c Z x0 code maxL ret) (X : Stand p l e R s m args below meth c T locs cells slots) {R0 O n d : String} {index : Nat} (w : (Cond.fieldLink x0.cls index R0 n d).before a0 Z = true) (via : Via Z R0 O n d) (eT : T.heap = h) {v : Value} (F : Sta Z h O n d v)
    {pc pc' : Nat} {Ls : Array Slot} {st : List Value} (hd : decode code pc = .ok (.getstatic index, 3)) (hp : pc + 3 = pc')
    (K : ∀ T', Stand p l e R s m args below meth c T' locs cells slots → T'.heap = h → Go p.tables e below G T' (mkF m pc' Ls (v :: st))) : Go p.tables e below G T (mkF m pc Ls st) := by
  subst hp
  obtain ⟨T1, X1, e1, st1⟩ := getS (host := "") X C.exec C.warm C.own w via eT F (g := mkF m pc Ls st) rfl (C.at hd)
  exact Go.step st1 (K T1 X1 e1)
theorem g_lshl (C : Cx p l s m meth c Z x0 code maxL ret) (X : Stand p l e R s m args below meth c T locs cells slots) {pc pc' : Nat} {Ls : Array Slot} {st : List Value} {x : Int64} {y : Int32} (hd : decode code pc = .ok (.lshl, 1)) (hp : pc + 1 = pc')
    (K : Go p.tables e below G T (mkF m pc' Ls (.long (x <<< (y.toInt64 &&& 63)) :: st))) : Go p.tables e below G T (mkF m pc Ls (.int y :: .long x :: st)) := by
  subst hp; exact Go.step (fun _ k => XT.lshl X.here C.exec rfl (C.at hd) rfl k) K
end More
end Jvm.OwnKit
namespace Jvm.OwnKit
section Dbl
open Jvm.FP.Core Jvm.Free.Fl
theorem i2d_D (x : Int32) : DInt x.toInt (FP.i2d x) := i2d_int x
theorem l2d_D {x : Int64} (h : x.toInt.natAbs ≤ 2 ^ 53) : DInt x.toInt (FP.l2d x) := l2d_int h
theorem dadd_D {i j : Int} {a b : UInt64} (ha : DInt i a) (hb : DInt j b) (h : (i + j).natAbs ≤ 2 ^ 53) : DInt (i + j) (FP.dadd a b) := dadd_int ha hb h
theorem dsub_D {i j : Int} {a b : UInt64} (ha : DInt i a) (hb : DInt j b) (h : (i - j).natAbs ≤ 2 ^ 53) : DInt (i - j) (FP.dsub a b) := dsub_int ha hb h
theorem dmul_D {i j : Int} {a b : UInt64} (ha : DInt i a) (hb : DInt j b) (h : (i * j).natAbs ≤ 2 ^ 53) : DInt (i * j) (FP.dmul a b) := dmul_int ha hb h
theorem dint_one' : DInt 1 FP.dconst1 := dint_one
theorem dneg_int' {i : Int} {a : UInt64} (ha : DInt i a) : DInt (-i) (FP.dneg a) := by
  unfold DInt
  rw [FP.val64_dneg]
  exact whole_negate ha
theorem own_pow_cancel {c k d q1 q2 r1 r2 : Nat} {q r : Int} (hq : (q1 : Int) - q2 = q) (hr : (r1 : Int) - r2 = r) (h : c * 2 ^ (q1 + r2) = k * d * 2 ^ (q2 + r1)) : c * 2 ^ (q - r).toNat = k * d * 2 ^ (r - q).toNat := by
  obtain ⟨n, hn⟩ : ∃ n : Nat, n = min (q1 + r2) (q2 + r1) := ⟨_, rfl⟩
  have e1 : q1 + r2 = (q - r).toNat + n := by omega
  have e2 : q2 + r1 = (r - q).toNat + n := by omega
  rw [e1, e2, Nat.pow_add, Nat.pow_add, ← Nat.mul_assoc, ← Nat.mul_assoc] at h
  exact Nat.eq_of_mul_eq_mul_right (Nat.two_pow_pos n) h
theorem ddiv_int {i j k : Int} {a b : UInt64} (ha : DInt i a) (hb : DInt j b) (hj : j ≠ 0) (hk : i = k * j) (h : k.natAbs ≤ 2 ^ 53) : DInt k (FP.ddiv a b) := by
  unfold DInt at *
  show Whole k (val64 (ddiv a b))
  rw [val64_ddiv]
  cases hva : val64 a with
  | nan => rw [hva] at ha; exact ha.elim
  | inf => rw [hva] at ha; exact ha.elim
  | fin s c q =>
    cases hvb : val64 b with
    | nan => rw [hvb] at hb; exact hb.elim
    | inf => rw [hvb] at hb; exact hb.elim
    | fin t d r =>
      rw [hva] at ha
      rw [hvb] at hb
      have hd : d ≠ 0 := fun q => hj ((whole_zero hb).mp q)
      have h1 := whole_natAbs ha
      have h2 := whole_natAbs hb
      have e1 : quotient b64 (.fin s c q) (.fin t d r) = round b64 (.fin (s != t) k.natAbs 0) := by
        show (if d = 0 then _ else roundRatio b64 (s != t) c d (q - r)) = roundRatio b64 (s != t) k.natAbs 1 0
        rw [if_neg hd]
        refine roundRatio_congr (by omega) (by decide) ?_
        have e2 : c * 2 ^ (q.toNat + (-r).toNat) = k.natAbs * d * 2 ^ ((-q).toNat + r.toNat) := by
          rw [Nat.pow_add, Nat.pow_add, ← Nat.mul_assoc, h1, hk, Int.natAbs_mul]
          calc k.natAbs * j.natAbs * 2 ^ (-q).toNat * 2 ^ (-r).toNat = k.natAbs * 2 ^ (-q).toNat * (j.natAbs * 2 ^ (-r).toNat) := by ac_rfl
            _ = k.natAbs * 2 ^ (-q).toNat * (d * 2 ^ r.toNat) := by rw [h2]
            _ = k.natAbs * d * (2 ^ (-q).toNat * 2 ^ r.toNat) := by ac_rfl
        have e3 := own_pow_cancel (q := q) (r := r) (by omega) (by omega) e2
        rw [Nat.mul_one, show (q - r - 0).toNat = (q - r).toNat by omega, show (0 - (q - r)).toNat = (r - q).toNat by omega]
        exact e3
      rw [e1]
      refine whole_round good_b64 wide_b64 h ?_
      show signed (s != t) (k.natAbs * 2 ^ 0) = k * ((2 ^ 0 : Nat) : Int)
      rw [Nat.pow_zero, Nat.mul_one]
      by_cases hk0 : k = 0
      · subst hk0; exact signed_zero _
      · have hi : i ≠ 0 := by rw [hk]; exact Int.mul_ne_zero hk0 hj
        rw [whole_sign ha hi, whole_sign hb hj]
        unfold signed
        rcases Int.lt_or_gt_of_ne hj with q1 | q1 <;> rcases Int.lt_or_gt_of_ne hk0 with q2 | q2
        · have q3 := Int.mul_pos_of_neg_of_neg q2 q1
          rw [← hk] at q3
          simp [q1, show ¬ i < 0 by omega]; omega
        · have q3 := Int.mul_neg_of_pos_of_neg q2 q1
          rw [← hk] at q3
          simp [q1, q3]; omega
        · have q3 := Int.mul_neg_of_neg_of_pos q2 q1
          rw [← hk] at q3
          simp [show ¬ j < 0 by omega, q3]; omega
        · have q3 := Int.mul_pos q2 q1
          rw [← hk] at q3
          simp [show ¬ j < 0 by omega, show ¬ i < 0 by omega]; omega
end Dbl
end Jvm.OwnKit
namespace Jvm.OwnKit
section Num
open Jvm.RoadKit
theorem own_m {x y X Y : Int} (h1 : -X ≤ x) (h2 : x ≤ X) (h3 : -Y ≤ y) (h4 : y ≤ Y) : -(X * Y) ≤ x * y ∧ x * y ≤ X * Y := by
  have q := mc h1 h2 h3 h4
  have q1 := Int.mul_le_mul_of_nonneg_left h4 (show 0 ≤ X + x by omega)
  have q2 := Int.mul_le_mul_of_nonneg_left h4 (show 0 ≤ X - x by omega)
  have q3 := Int.mul_le_mul_of_nonneg_left h3 (show 0 ≤ X + x by omega)
  have q4 := Int.mul_le_mul_of_nonneg_left h3 (show 0 ≤ X - x by omega)
  simp only [Int.add_mul, Int.sub_mul, Int.mul_neg] at q1 q2 q3 q4
  omega
theorem own_add {x y : Int64} (h1 : -9223372036854775808 ≤ x.toInt + y.toInt) (h2 : x.toInt + y.toInt < 9223372036854775808) : (x + y).toInt = x.toInt + y.toInt := FP.Core.int64_add h1 h2
theorem own_sub {x y : Int64} (h1 : -9223372036854775808 ≤ x.toInt - y.toInt) (h2 : x.toInt - y.toInt < 9223372036854775808) : (x - y).toInt = x.toInt - y.toInt := FP.Core.int64_sub h1 h2
theorem own_mul {x y : Int64} (h1 : -9223372036854775808 ≤ x.toInt * y.toInt) (h2 : x.toInt * y.toInt < 9223372036854775808) : (x * y).toInt = x.toInt * y.toInt := FP.Core.int64_mul h1 h2
theorem own_neg {x : Int64} (h1 : -9223372036854775808 < x.toInt) : (-x).toInt = -x.toInt := FP.Core.int64_neg h1
theorem own_iadd {x y : Int32} (h1 : -2147483648 ≤ x.toInt + y.toInt) (h2 : x.toInt + y.toInt < 2147483648) : (x + y).toInt = x.toInt + y.toInt := by
  have := c_iadd x y; have := rng32 (x + y); omega
theorem own_isub {x y : Int32} (h1 : -2147483648 ≤ x.toInt - y.toInt) (h2 : x.toInt - y.toInt < 2147483648) : (x - y).toInt = x.toInt - y.toInt := by
  have := c_isub x y; have := rng32 (x - y); omega
theorem own_imul {x y : Int32} (h1 : -2147483648 ≤ x.toInt * y.toInt) (h2 : x.toInt * y.toInt < 2147483648) : (x * y).toInt = x.toInt * y.toInt := by
  have := c_imul x y; have := rng32 (x * y); omega
theorem own_ineg {x : Int32} (h1 : -2147483648 < x.toInt) : (-x).toInt = -x.toInt := by
  have := c_ineg x; have := rng32 (-x); have := rng32 x; omega
end Num
end Jvm.OwnKit
namespace Jvm.Pilot.@@N@@
open Jvm Jvm.ClassFile Sem Op Lib Jvm.Free Jvm.Stand Jvm.LawKit Jvm.RoadKit Jvm.OwnKit Bundle Jvm.Pilot.@@N@@.Jvm.D
theorem d1_0 : decode prog_50_method_1_code 0 = .ok (.aload_n 0, 1) := by decide +kernel
theorem d1_1 : decode prog_50_method_1_code 1 = .ok (.invokespecial 1, 3) := by decide +kernel
theorem d1_4 : decode prog_50_method_1_code 4 = .ok (.aload_n 0, 1) := by decide +kernel
theorem d1_5 : decode prog_50_method_1_code 5 = .ok (.aload_n 1, 1) := by decide +kernel
theorem d1_6 : decode prog_50_method_1_code 6 = .ok (.putfield 7, 3) := by decide +kernel
theorem d1_9 : decode prog_50_method_1_code 9 = .ok (.aload_n 0, 1) := by decide +kernel
theorem d1_10 : decode prog_50_method_1_code 10 = .ok (.aload_n 2, 1) := by decide +kernel
theorem d1_11 : decode prog_50_method_1_code 11 = .ok (.putfield 13, 3) := by decide +kernel
theorem d1_14 : decode prog_50_method_1_code 14 = .ok (.return_, 1) := by decide +kernel
theorem d2_0 : decode jdk_30_method_1_code 0 = .ok (.aload_n 0, 1) := by decide +kernel
theorem d2_1 : decode jdk_30_method_1_code 1 = .ok (.invokespecial 1, 3) := by decide +kernel
theorem d2_4 : decode jdk_30_method_1_code 4 = .ok (.return_, 1) := by decide +kernel
theorem d4_0 : decode prog_50_method_3_code 0 = .ok (.dconst 0, 1) := by decide +kernel
theorem d4_1 : decode prog_50_method_3_code 1 = .ok (.dstore_n 2, 1) := by decide +kernel
theorem d4_2 : decode prog_50_method_3_code 2 = .ok (.iconst 0, 1) := by decide +kernel
theorem d4_3 : decode prog_50_method_3_code 3 = .ok (.istore 4, 2) := by decide +kernel
theorem d4_5 : decode prog_50_method_3_code 5 = .ok (.iload 4, 2) := by decide +kernel
theorem d4_7 : decode prog_50_method_3_code 7 = .ok (.aload_n 0, 1) := by decide +kernel
theorem d4_8 : decode prog_50_method_3_code 8 = .ok (.getfield 7, 3) := by decide +kernel
theorem d4_11 : decode prog_50_method_3_code 11 = .ok (.arraylength, 1) := by decide +kernel
theorem d4_12 : decode prog_50_method_3_code 12 = .ok (.if_icmp .ge 29, 3) := by decide +kernel
theorem d4_15 : decode prog_50_method_3_code 15 = .ok (.dload_n 2, 1) := by decide +kernel
theorem d4_16 : decode prog_50_method_3_code 16 = .ok (.aload_n 0, 1) := by decide +kernel
theorem d4_17 : decode prog_50_method_3_code 17 = .ok (.getfield 13, 3) := by decide +kernel
theorem d4_20 : decode prog_50_method_3_code 20 = .ok (.iload 4, 2) := by decide +kernel
theorem d4_22 : decode prog_50_method_3_code 22 = .ok (.daload, 1) := by decide +kernel
theorem d4_23 : decode prog_50_method_3_code 23 = .ok (.aload_n 1, 1) := by decide +kernel
theorem d4_24 : decode prog_50_method_3_code 24 = .ok (.aload_n 0, 1) := by decide +kernel
theorem d4_25 : decode prog_50_method_3_code 25 = .ok (.getfield 7, 3) := by decide +kernel
theorem d4_28 : decode prog_50_method_3_code 28 = .ok (.iload 4, 2) := by decide +kernel
theorem d4_30 : decode prog_50_method_3_code 30 = .ok (.iaload, 1) := by decide +kernel
theorem d4_31 : decode prog_50_method_3_code 31 = .ok (.daload, 1) := by decide +kernel
theorem d4_32 : decode prog_50_method_3_code 32 = .ok (.dmul, 1) := by decide +kernel
theorem d4_33 : decode prog_50_method_3_code 33 = .ok (.dadd, 1) := by decide +kernel
theorem d4_34 : decode prog_50_method_3_code 34 = .ok (.dstore_n 2, 1) := by decide +kernel
theorem d4_35 : decode prog_50_method_3_code 35 = .ok (.iinc 4 1, 3) := by decide +kernel
theorem d4_38 : decode prog_50_method_3_code 38 = .ok (.goto (-33), 3) := by decide +kernel
theorem d4_41 : decode prog_50_method_3_code 41 = .ok (.dload_n 2, 1) := by decide +kernel
theorem d4_42 : decode prog_50_method_3_code 42 = .ok (.dreturn, 1) := by decide +kernel
theorem d5_0 : decode method_3_code 0 = .ok (.iload_n 0, 1) := by decide +kernel
theorem d5_1 : decode method_3_code 1 = .ok (.ifCond .ne 5, 3) := by decide +kernel
theorem d5_4 : decode method_3_code 4 = .ok (.lload_n 1, 1) := by decide +kernel
theorem d5_5 : decode method_3_code 5 = .ok (.lreturn, 1) := by decide +kernel
theorem d5_6 : decode method_3_code 6 = .ok (.iload_n 0, 1) := by decide +kernel
theorem d5_7 : decode method_3_code 7 = .ok (.iconst 1, 1) := by decide +kernel
theorem d5_8 : decode method_3_code 8 = .ok (.if_icmp .ne 5, 3) := by decide +kernel
theorem d5_11 : decode method_3_code 11 = .ok (.lload_n 3, 1) := by decide +kernel
theorem d5_12 : decode method_3_code 12 = .ok (.lreturn, 1) := by decide +kernel
theorem d5_13 : decode method_3_code 13 = .ok (.iload_n 0, 1) := by decide +kernel
theorem d5_14 : decode method_3_code 14 = .ok (.iconst 2, 1) := by decide +kernel
theorem d5_15 : decode method_3_code 15 = .ok (.if_icmp .ne 6, 3) := by decide +kernel
theorem d5_18 : decode method_3_code 18 = .ok (.lload 5, 2) := by decide +kernel
theorem d5_20 : decode method_3_code 20 = .ok (.lreturn, 1) := by decide +kernel
theorem d5_21 : decode method_3_code 21 = .ok (.lload 7, 2) := by decide +kernel
theorem d5_23 : decode method_3_code 23 = .ok (.lreturn, 1) := by decide +kernel
theorem pn0 : plainName x.cls = true := by first | (simp [x, plainName, overriddenIn]; done) | decide +kernel
theorem pnV : plainName "com/example/kenning/kenning/retrieval/KMeans$Vector" = true := by first | (simp [plainName, overriddenIn]; done) | decide +kernel
theorem pnA : plainName "com/example/kenning/kenning/retrieval/VectorDotPinLaw" = true := by first | (simp [plainName, overriddenIn]; done) | decide +kernel
theorem pnR : plainName "java/lang/Record" = true := by first | (simp [plainName, overriddenIn]; done) | decide +kernel
theorem pdI : parseMethodDescriptor "([I[D)V" = some ⟨[.array .int, .array .double], none⟩ := by decide +kernel
theorem pdR : parseMethodDescriptor "()V" = some ⟨[], none⟩ := by decide +kernel
theorem pdD : parseMethodDescriptor "([D)D" = some ⟨[.array .double], some .double⟩ := by decide +kernel
theorem pdA : parseMethodDescriptor "(IJJJJ)J" = some ⟨[.int, .long, .long, .long, .long], some .long⟩ := by decide +kernel
theorem efR (m : MethodId) (a : Addr) : entryFrame m #[(.ref a)] 1 = mkF m 0 #[.val (.ref a)] [] := by first | (simp [entryFrame, mkF, argsToLocals, Value.category, maxLocals]; done) | rfl
theorem efI (m : MethodId) (a b d : Addr) : entryFrame m #[(.ref a), (.ref b), (.ref d)] 3 = mkF m 0 #[.val (.ref a), .val (.ref b), .val (.ref d)] [] := by first | (simp [entryFrame, mkF, argsToLocals, Value.category, maxLocals]; done) | rfl
theorem efD (m : MethodId) (a b : Addr) : entryFrame m #[(.ref a), (.ref b)] 5 = mkF m 0 #[.val (.ref a), .val (.ref b), .unset, .unset, .unset] [] := by first | (simp [entryFrame, mkF, argsToLocals, Value.category, maxLocals]; done) | rfl
theorem efA (m : MethodId) (i : Int32) (d0 d1 d2 d3 : Int64) : entryFrame m #[(.int i), (.long d0), (.long d1), (.long d2), (.long d3)] 9 = mkF m 0 #[.val (.int i), .val (.long d0), .second, .val (.long d1), .second, .val (.long d2), .second, .val (.long d3), .second] [] := by first | (simp [entryFrame, mkF, argsToLocals, Value.category, maxLocals]; done) | rfl
theorem ef0 (m : MethodId) (x0 x1 x2 x3 x4 : Int32) : entryFrame m #[(.int x0), (.int x1), (.int x2), (.int x3), (.int x4)] maxLocals = mkF m 0 #[.val (.int x0), .val (.int x1), .val (.int x2), .val (.int x3), .val (.int x4), .unset, .unset, .unset, .unset, .unset, .unset, .unset, .unset, .unset, .unset, .unset, .unset, .unset, .unset, .unset, .unset, .unset, .unset, .unset, .unset, .unset, .unset, .unset, .unset, .unset, .unset, .unset, .unset, .unset] [] := by first | (simp [entryFrame, mkF, argsToLocals, Value.category, maxLocals]; done) | rfl
set_option maxRecDepth 65536 in
set_option maxHeartbeats 40000000 in
theorem c_rec (l : Launch) (Z : State) (a0 : Array Value) (hw : ∀ d ∈ tables_1, d.before a0 Z = true) (h : Heap) (a : Addr) :
    Con l Z (⟨"java/lang/Record", "<init>", "()V"⟩ : MethodName) jdk_30_method_1_code 1 none ⟨1, 0, 0, 12⟩ #[.ref a] h (fun v h' L => v = none ∧ L = [] ∧ h' = h) := by
  refine con_of_go pnR (fun m => efR m a) ?_
  intro p e s m below meth c T0 C X0 e0
  refine g_aloadN C X0 (pc' := 1) d2_0 rfl rfl rfl ?_
  refine g_initO C X0 (hw _ (List.mem_of_getElem? (i := 13) rfl)) (hw _ (List.mem_of_getElem? (i := 14) rfl)) (hw _ (List.mem_of_getElem? (i := 15) rfl)) e0 d2_1 rfl 0 rfl (by decide) (by decide) rfl ?_
  intro T1 X1 e1
  exact g_return C X1 d2_4 ⟨rfl, rfl, e1⟩ (by decide) (by decide)
set_option maxRecDepth 65536 in
set_option maxHeartbeats 40000000 in
theorem c_init (l : Launch) (Z : State) (a0 : Array Value) (hw : ∀ d ∈ tables_1, d.before a0 Z = true) (h : Heap) (n0 : Nat) (Z0 : n0 ≤ h.size) (a : Addr) (z_a : n0 ≤ a) (b d : Addr) (A : Exa Z h a "com/example/kenning/kenning/retrieval/KMeans$Vector") (F_terms : ∃ w, Fld Z h a "com/example/kenning/kenning/retrieval/KMeans$Vector" "terms" "[I" w) (F_weights : ∃ w, Fld Z h a "com/example/kenning/kenning/retrieval/KMeans$Vector" "weights" "[D" w) :
    Con l Z (⟨"com/example/kenning/kenning/retrieval/KMeans$Vector", "<init>", "([I[D)V"⟩ : MethodName) prog_50_method_1_code 3 none ⟨2, 0, 0, 24⟩ #[.ref a, .ref b, .ref d] h (fun v h' L => v = none ∧ Fr n0 L ∧ Keep h h' [a] ∧ Exa Z h' a "com/example/kenning/kenning/retrieval/KMeans$Vector" ∧ Fld Z h' a "com/example/kenning/kenning/retrieval/KMeans$Vector" "terms" "[I" (.ref b) ∧ Fld Z h' a "com/example/kenning/kenning/retrieval/KMeans$Vector" "weights" "[D" (.ref d)) := by
  refine con_of_go pnV (fun m => efI m a b d) ?_
  intro p e s m below meth c T0 C X0 e0
  refine g_aloadN C X0 (pc' := 1) d1_0 rfl rfl rfl ?_
  refine g_callI C X0 (c_rec l Z a0 hw h a) rfl (hw _ (List.mem_of_getElem? (i := 8) rfl)) (hw _ (List.mem_of_getElem? (i := 9) rfl)) (hw _ (List.mem_of_getElem? (i := 11) rfl)) (hw _ (List.mem_of_getElem? (i := 12) rfl)) (by decide) e0 d1_1 rfl pdR a [] [] rfl rfl rfl 0 rfl (by decide) (by decide) (by decide) (by decide) rfl ?_
  rintro _ T1 _ X1 ⟨rfl, rfl, e1⟩
  rw [List.append_nil] at X1
  show Go p.tables e below _ T1 (mkF m 4 #[.val (.ref a), .val (.ref b), .val (.ref d)] [])
  refine g_aloadN C X1 (pc' := 5) d1_4 rfl rfl rfl ?_
  refine g_aloadN C X1 (pc' := 6) d1_5 rfl rfl rfl ?_
  refine g_putF C X1 (host := "") (Or.inl (hw _ (List.mem_of_getElem? (i := 16) rfl))) Via.refl e1 F_terms.choose_spec A (Or.inr ⟨(hw _ (List.mem_of_getElem? (i := 17) rfl)), rfl, rfl⟩) (hw _ (List.mem_of_getElem? (i := 3) rfl)) (ty := (.array .int)) (by decide) rfl rfl d1_6 rfl ?_
  intro T2 h2 X2 e2 W2
  have F_termsv := F_terms.choose_spec.same W2
  have A := A.wr W2
  have F_weights := FldE.wr W2 F_weights
  have Z2 : n0 ≤ h2.size := by rw [W2.size]; exact Z0
  have N2 := Fr.snoc X2 (Fr.nil n0) z_a
  have P2 := (Keep.refl h [a]).wr W2 (Or.inl (List.mem_of_getElem? (i := 0) rfl))
  refine g_aloadN C X2 (pc' := 10) d1_9 rfl rfl rfl ?_
  refine g_aloadN C X2 (pc' := 11) d1_10 rfl rfl rfl ?_
  refine g_putF C X2 (host := "") (Or.inl (hw _ (List.mem_of_getElem? (i := 18) rfl))) Via.refl e2 F_weights.choose_spec A (Or.inr ⟨(hw _ (List.mem_of_getElem? (i := 19) rfl)), rfl, rfl⟩) (hw _ (List.mem_of_getElem? (i := 3) rfl)) (ty := (.array .double)) (by decide) rfl rfl d1_11 rfl ?_
  intro T3 h3 X3 e3 W3
  have F_weightsv := F_weights.choose_spec.same W3
  have A := A.wr W3
  have F_termsv := F_termsv.other W3 (Or.inr (slot_ne (Or.inr (hw _ (List.mem_of_getElem? (i := 17) rfl))) (Or.inr (hw _ (List.mem_of_getElem? (i := 19) rfl))) (by decide) rfl rfl))
  have Z3 : n0 ≤ h3.size := by rw [W3.size]; exact Z2
  have N3 := Fr.snoc X3 N2 z_a
  have P3 := P2.wr W3 (Or.inl (List.mem_of_getElem? (i := 0) rfl))
  exact g_return C X3 d1_14 ⟨rfl, N3, by rw [e3]; exact P3, by rw [e3]; exact A, by rw [e3]; exact F_termsv, by rw [e3]; exact F_weightsv⟩ (by decide) (by decide)
def own_at (i : Int32) (d0 d1 d2 d3 : Int64) : Int64 := if i.toInt = 0 then d0 else if i.toInt = 1 then d1 else if i.toInt = 2 then d2 else d3
set_option maxRecDepth 65536 in
set_option maxHeartbeats 40000000 in
theorem c_at (l : Launch) (Z : State) (h : Heap) (i : Int32) (d0 d1 d2 d3 : Int64) :
    Con l Z (⟨"com/example/kenning/kenning/retrieval/VectorDotPinLaw", "at", "(IJJJJ)J"⟩ : MethodName) method_3_code 9 (some .long) ⟨0, 0, 0, 0⟩ #[.int i, .long d0, .long d1, .long d2, .long d3] h (fun v h' L => v = some (.long (own_at i d0 d1 d2 d3)) ∧ L = [] ∧ h' = h) := by
  refine con_of_go pnA (fun m => efA m i d0 d1 d2 d3) ?_
  intro p e s m below meth c T0 C X0 e0
  refine g_iloadN C X0 (pc' := 1) d5_0 rfl rfl ?_
  refine g_if C X0 d5_1 (pc' := 6) (pc'' := 4) (by decide) (by decide) rfl (fun c1 => ?_) (fun c1 => ?_)
  · have c1 : ¬ (i.toInt = 0) := c1
    refine g_iloadN C X0 (pc' := 7) d5_6 rfl rfl ?_
    refine g_iconst C X0 (pc' := 8) d5_7 (v := (1 : Int32)) (by decide) rfl ?_
    refine g_icmp C X0 d5_8 (pc' := 13) (pc'' := 11) (by decide) (by decide) rfl (fun c8 => ?_) (fun c8 => ?_)
    · have c8 : ¬ (i.toInt = 1) := c8
      refine g_iloadN C X0 (pc' := 14) d5_13 rfl rfl ?_
      refine g_iconst C X0 (pc' := 15) d5_14 (v := (2 : Int32)) (by decide) rfl ?_
      refine g_icmp C X0 d5_15 (pc' := 21) (pc'' := 18) (by decide) (by decide) rfl (fun c15 => ?_) (fun c15 => ?_)
      · have c15 : ¬ (i.toInt = 2) := c15
        refine g_lload C X0 (pc' := 23) d5_21 rfl rfl ?_
        exact g_lreturn C X0 d5_23 ⟨by unfold own_at; rw [if_neg c1, if_neg c8, if_neg c15], rfl, e0⟩ (by decide) (by decide)
      · have c15 : i.toInt = 2 := Decidable.not_not.mp c15
        refine g_lload C X0 (pc' := 20) d5_18 rfl rfl ?_
        exact g_lreturn C X0 d5_20 ⟨by unfold own_at; rw [if_neg c1, if_neg c8, if_pos c15], rfl, e0⟩ (by decide) (by decide)
    · have c8 : i.toInt = 1 := Decidable.not_not.mp c8
      refine g_lloadN C X0 (pc' := 12) d5_11 rfl rfl ?_
      exact g_lreturn C X0 d5_12 ⟨by unfold own_at; rw [if_neg c1, if_pos c8], rfl, e0⟩ (by decide) (by decide)
  · have c1 : i.toInt = 0 := Decidable.not_not.mp c1
    refine g_lloadN C X0 (pc' := 5) d5_4 rfl rfl ?_
    exact g_lreturn C X0 d5_5 ⟨by unfold own_at; rw [if_pos c1], rfl, e0⟩ (by decide) (by decide)
set_option maxRecDepth 65536 in
set_option maxHeartbeats 40000000 in
theorem c_dot0 (l : Launch) (Z : State) (a0 : Array Value) (hw : ∀ d ∈ tables_1, d.before a0 Z = true) (h : Heap) (a b ta aw : Addr) (kt kw kd : ClassId) (d0 d1 d2 d3 : UInt64) (F1 : Fld Z h a "com/example/kenning/kenning/retrieval/KMeans$Vector" "terms" "[I" (.ref ta)) (F2 : Fld Z h a "com/example/kenning/kenning/retrieval/KMeans$Vector" "weights" "[D" (.ref aw)) (At : Arv Z h ta kt .int (0 : Int32) [] (.int (0 : Int32))) (Aw : Arv Z h aw kw .double (0 : Int32) [] (.double (0 : UInt64))) (Ad : Arv Z h b kd .double (4 : Int32) [Value.double d0, .double d1, .double d2, .double d3] (.double (0 : UInt64))) :
    Con l Z (⟨"com/example/kenning/kenning/retrieval/KMeans$Vector", "dot", "([D)D"⟩ : MethodName) prog_50_method_3_code 5 (some .double) ⟨0, 0, 0, 0⟩ #[.ref a, .ref b] h (fun v h' L => ∃ r, v = some (.double r) ∧ FP.Core.DInt (0) r ∧ L = [] ∧ h' = h) := by
  refine con_of_go pnV (fun m => efD m a b) ?_
  intro p e s m below meth c T0 C X0 e0
  refine g_dconst0 C X0 (pc' := 1) d4_0 rfl rfl ?_
  refine g_dstoreN C X0 (pc' := 2) d4_1 (x := FP.dconst0) rfl (l' := #[.val (.ref a), .val (.ref b), .val (.double FP.dconst0), .second, .unset]) rfl rfl ?_
  refine g_iconst C X0 (pc' := 3) d4_2 (v := (0 : Int32)) (by decide) rfl ?_
  refine g_istore C X0 (pc' := 5) d4_3 (x := (0 : Int32)) rfl (l' := #[.val (.ref a), .val (.ref b), .val (.double FP.dconst0), .second, .val (.int (0 : Int32))]) rfl rfl ?_
  refine g_iload C X0 (pc' := 7) d4_5 rfl rfl ?_
  refine g_aloadN C X0 (pc' := 8) d4_7 rfl rfl rfl ?_
  refine g_getF C X0 (host := "") (Or.inl (hw _ (List.mem_of_getElem? (i := 16) rfl))) Via.refl e0 F1 d4_8 rfl ?_
  intro T1 X1 e1
  refine g_len C X1 (pc' := 12) e1 At d4_11 rfl ?_
  refine g_icmpY C X1 d4_12 (pc' := 41) (by decide) (by decide) (by decide) ?_
  refine g_dloadN C X1 (pc' := 42) d4_41 rfl rfl ?_
  exact g_dreturn C X1 d4_42 ⟨_, rfl, dint_zero, rfl, e1⟩ (by decide) (by decide)
set_option maxRecDepth 65536 in
set_option maxHeartbeats 40000000 in
theorem c_dot1 (l : Launch) (Z : State) (a0 : Array Value) (hw : ∀ d ∈ tables_1, d.before a0 Z = true) (h : Heap) (a b ta aw : Addr) (kt kw kd : ClassId) (d0 d1 d2 d3 : UInt64) (t0 : Int32) (w0 y0 : UInt64) (i0 j0 : Int) (Dw0 : FP.Core.DInt i0 w0) (Dy0 : FP.Core.DInt j0 y0) (B0 : 0 ≤ t0.toInt ∧ t0.toInt < 4) (G0 : [Value.double d0, .double d1, .double d2, .double d3].getD t0.toNatClampNeg (Value.double (0 : UInt64)) = Value.double y0) (Ri0 : -32768 ≤ i0 ∧ i0 ≤ 32768) (Rj0 : -32768 ≤ j0 ∧ j0 ≤ 32768) (F1 : Fld Z h a "com/example/kenning/kenning/retrieval/KMeans$Vector" "terms" "[I" (.ref ta)) (F2 : Fld Z h a "com/example/kenning/kenning/retrieval/KMeans$Vector" "weights" "[D" (.ref aw)) (At : Arv Z h ta kt .int (1 : Int32) [.int t0] (.int (0 : Int32))) (Aw : Arv Z h aw kw .double (1 : Int32) [.double w0] (.double (0 : UInt64))) (Ad : Arv Z h b kd .double (4 : Int32) [Value.double d0, .double d1, .double d2, .double d3] (.double (0 : UInt64))) :
    Con l Z (⟨"com/example/kenning/kenning/retrieval/KMeans$Vector", "dot", "([D)D"⟩ : MethodName) prog_50_method_3_code 5 (some .double) ⟨0, 0, 0, 0⟩ #[.ref a, .ref b] h (fun v h' L => ∃ r, v = some (.double r) ∧ FP.Core.DInt (0 + i0 * j0) r ∧ L = [] ∧ h' = h) := by
  refine con_of_go pnV (fun m => efD m a b) ?_
  intro p e s m below meth c T0 C X0 e0
  refine g_dconst0 C X0 (pc' := 1) d4_0 rfl rfl ?_
  refine g_dstoreN C X0 (pc' := 2) d4_1 (x := FP.dconst0) rfl (l' := #[.val (.ref a), .val (.ref b), .val (.double FP.dconst0), .second, .unset]) rfl rfl ?_
  refine g_iconst C X0 (pc' := 3) d4_2 (v := (0 : Int32)) (by decide) rfl ?_
  refine g_istore C X0 (pc' := 5) d4_3 (x := (0 : Int32)) rfl (l' := #[.val (.ref a), .val (.ref b), .val (.double FP.dconst0), .second, .val (.int (0 : Int32))]) rfl rfl ?_
  refine g_iload C X0 (pc' := 7) d4_5 rfl rfl ?_
  refine g_aloadN C X0 (pc' := 8) d4_7 rfl rfl rfl ?_
  refine g_getF C X0 (host := "") (Or.inl (hw _ (List.mem_of_getElem? (i := 16) rfl))) Via.refl e0 F1 d4_8 rfl ?_
  intro T1 X1 e1
  refine g_len C X1 (pc' := 12) e1 At d4_11 rfl ?_
  refine g_icmpN C X1 d4_12 (by decide) rfl ?_
  refine g_dloadN C X1 (pc' := 16) d4_15 rfl rfl ?_
  refine g_aloadN C X1 (pc' := 17) d4_16 rfl rfl rfl ?_
  refine g_getF C X1 (host := "") (Or.inl (hw _ (List.mem_of_getElem? (i := 18) rfl))) Via.refl e1 F2 d4_17 rfl ?_
  intro T2 X2 e2
  refine g_iload C X2 (pc' := 22) d4_20 rfl rfl ?_
  refine g_daload C X2 (pc' := 23) e2 Aw (by decide) (by decide) 0 (by decide) rfl d4_22 rfl ?_
  refine g_aloadN C X2 (pc' := 24) d4_23 rfl rfl rfl ?_
  refine g_aloadN C X2 (pc' := 25) d4_24 rfl rfl rfl ?_
  refine g_getF C X2 (host := "") (Or.inl (hw _ (List.mem_of_getElem? (i := 16) rfl))) Via.refl e2 F1 d4_25 rfl ?_
  intro T3 X3 e3
  refine g_iload C X3 (pc' := 30) d4_28 rfl rfl ?_
  refine g_iaload C X3 (pc' := 31) e3 At (by decide) (by decide) 0 (by decide) rfl d4_30 rfl ?_
  refine g_daload C X3 e3 Ad B0.1 B0.2 t0.toNatClampNeg rfl G0 d4_31 rfl ?_
  have D101 : FP.Core.DInt (i0 * j0) (FP.dmul w0 y0) := dmul_D Dw0 Dy0 (by have := own_m (X := 32768) (Y := 32768) (x := i0) (y := j0) (by omega) (by omega) (by omega) (by omega); show _ ≤ 9007199254740992; omega)
  refine g_dmul C X3 (pc' := 33) d4_32 (nn_of_int D101) rfl ?_
  have m0 := own_m (X := 32768) (Y := 32768) (x := i0) (y := j0) (by omega) (by omega) (by omega) (by omega)
  have D102 : FP.Core.DInt (0 + (i0 * j0)) (FP.dadd FP.dconst0 (FP.dmul w0 y0)) := dadd_D dint_zero D101 (by show _ ≤ 9007199254740992; omega)
  refine g_dadd C X3 (pc' := 34) d4_33 (nn_of_int D102) rfl ?_
  obtain ⟨d103, e_d103⟩ : ∃ z : UInt64, z = FP.dadd FP.dconst0 (FP.dmul w0 y0) := ⟨_, rfl⟩
  have D_d103 : FP.Core.DInt (0 + (i0 * j0)) d103 := e_d103 ▸ D102
  refine g_dstoreN C X3 (pc' := 35) d4_34 (x := d103) e_d103 (l' := #[.val (.ref a), .val (.ref b), .val (.double d103), .second, .val (.int (0 : Int32))]) rfl rfl ?_
  refine g_iinc C X3 (pc' := 38) d4_35 rfl (z := (1 : Int32)) (by decide) (l' := #[.val (.ref a), .val (.ref b), .val (.double d103), .second, .val (.int (1 : Int32))]) rfl rfl ?_
  refine g_goto C X3 d4_38 (pc' := 5) (by decide) (by decide) ?_
  refine g_iload C X3 (pc' := 7) d4_5 rfl rfl ?_
  refine g_aloadN C X3 (pc' := 8) d4_7 rfl rfl rfl ?_
  refine g_getF C X3 (host := "") (Or.inl (hw _ (List.mem_of_getElem? (i := 16) rfl))) Via.refl e3 F1 d4_8 rfl ?_
  intro T4 X4 e4
  refine g_len C X4 (pc' := 12) e4 At d4_11 rfl ?_
  refine g_icmpY C X4 d4_12 (pc' := 41) (by decide) (by decide) (by decide) ?_
  refine g_dloadN C X4 (pc' := 42) d4_41 rfl rfl ?_
  exact g_dreturn C X4 d4_42 ⟨_, rfl, D_d103, rfl, e4⟩ (by decide) (by decide)
set_option maxRecDepth 65536 in
set_option maxHeartbeats 40000000 in
theorem c_dot2 (l : Launch) (Z : State) (a0 : Array Value) (hw : ∀ d ∈ tables_1, d.before a0 Z = true) (h : Heap) (a b ta aw : Addr) (kt kw kd : ClassId) (d0 d1 d2 d3 : UInt64) (t0 : Int32) (w0 y0 : UInt64) (i0 j0 : Int) (Dw0 : FP.Core.DInt i0 w0) (Dy0 : FP.Core.DInt j0 y0) (B0 : 0 ≤ t0.toInt ∧ t0.toInt < 4) (G0 : [Value.double d0, .double d1, .double d2, .double d3].getD t0.toNatClampNeg (Value.double (0 : UInt64)) = Value.double y0) (Ri0 : -32768 ≤ i0 ∧ i0 ≤ 32768) (Rj0 : -32768 ≤ j0 ∧ j0 ≤ 32768) (t1 : Int32) (w1 y1 : UInt64) (i1 j1 : Int) (Dw1 : FP.Core.DInt i1 w1) (Dy1 : FP.Core.DInt j1 y1) (B1 : 0 ≤ t1.toInt ∧ t1.toInt < 4) (G1 : [Value.double d0, .double d1, .double d2, .double d3].getD t1.toNatClampNeg (Value.double (0 : UInt64)) = Value.double y1) (Ri1 : -32768 ≤ i1 ∧ i1 ≤ 32768) (Rj1 : -32768 ≤ j1 ∧ j1 ≤ 32768) (F1 : Fld Z h a "com/example/kenning/kenning/retrieval/KMeans$Vector" "terms" "[I" (.ref ta)) (F2 : Fld Z h a "com/example/kenning/kenning/retrieval/KMeans$Vector" "weights" "[D" (.ref aw)) (At : Arv Z h ta kt .int (2 : Int32) [.int t0, .int t1] (.int (0 : Int32))) (Aw : Arv Z h aw kw .double (2 : Int32) [.double w0, .double w1] (.double (0 : UInt64))) (Ad : Arv Z h b kd .double (4 : Int32) [Value.double d0, .double d1, .double d2, .double d3] (.double (0 : UInt64))) :
    Con l Z (⟨"com/example/kenning/kenning/retrieval/KMeans$Vector", "dot", "([D)D"⟩ : MethodName) prog_50_method_3_code 5 (some .double) ⟨0, 0, 0, 0⟩ #[.ref a, .ref b] h (fun v h' L => ∃ r, v = some (.double r) ∧ FP.Core.DInt (0 + i0 * j0 + i1 * j1) r ∧ L = [] ∧ h' = h) := by
  refine con_of_go pnV (fun m => efD m a b) ?_
  intro p e s m below meth c T0 C X0 e0
  refine g_dconst0 C X0 (pc' := 1) d4_0 rfl rfl ?_
  refine g_dstoreN C X0 (pc' := 2) d4_1 (x := FP.dconst0) rfl (l' := #[.val (.ref a), .val (.ref b), .val (.double FP.dconst0), .second, .unset]) rfl rfl ?_
  refine g_iconst C X0 (pc' := 3) d4_2 (v := (0 : Int32)) (by decide) rfl ?_
  refine g_istore C X0 (pc' := 5) d4_3 (x := (0 : Int32)) rfl (l' := #[.val (.ref a), .val (.ref b), .val (.double FP.dconst0), .second, .val (.int (0 : Int32))]) rfl rfl ?_
  refine g_iload C X0 (pc' := 7) d4_5 rfl rfl ?_
  refine g_aloadN C X0 (pc' := 8) d4_7 rfl rfl rfl ?_
  refine g_getF C X0 (host := "") (Or.inl (hw _ (List.mem_of_getElem? (i := 16) rfl))) Via.refl e0 F1 d4_8 rfl ?_
  intro T1 X1 e1
  refine g_len C X1 (pc' := 12) e1 At d4_11 rfl ?_
  refine g_icmpN C X1 d4_12 (by decide) rfl ?_
  refine g_dloadN C X1 (pc' := 16) d4_15 rfl rfl ?_
  refine g_aloadN C X1 (pc' := 17) d4_16 rfl rfl rfl ?_
  refine g_getF C X1 (host := "") (Or.inl (hw _ (List.mem_of_getElem? (i := 18) rfl))) Via.refl e1 F2 d4_17 rfl ?_
  intro T2 X2 e2
  refine g_iload C X2 (pc' := 22) d4_20 rfl rfl ?_
  refine g_daload C X2 (pc' := 23) e2 Aw (by decide) (by decide) 0 (by decide) rfl d4_22 rfl ?_
  refine g_aloadN C X2 (pc' := 24) d4_23 rfl rfl rfl ?_
  refine g_aloadN C X2 (pc' := 25) d4_24 rfl rfl rfl ?_
  refine g_getF C X2 (host := "") (Or.inl (hw _ (List.mem_of_getElem? (i := 16) rfl))) Via.refl e2 F1 d4_25 rfl ?_
  intro T3 X3 e3
  refine g_iload C X3 (pc' := 30) d4_28 rfl rfl ?_
  refine g_iaload C X3 (pc' := 31) e3 At (by decide) (by decide) 0 (by decide) rfl d4_30 rfl ?_
  refine g_daload C X3 e3 Ad B0.1 B0.2 t0.toNatClampNeg rfl G0 d4_31 rfl ?_
  have D101 : FP.Core.DInt (i0 * j0) (FP.dmul w0 y0) := dmul_D Dw0 Dy0 (by have := own_m (X := 32768) (Y := 32768) (x := i0) (y := j0) (by omega) (by omega) (by omega) (by omega); show _ ≤ 9007199254740992; omega)
  refine g_dmul C X3 (pc' := 33) d4_32 (nn_of_int D101) rfl ?_
  have m0 := own_m (X := 32768) (Y := 32768) (x := i0) (y := j0) (by omega) (by omega) (by omega) (by omega)
  have D102 : FP.Core.DInt (0 + (i0 * j0)) (FP.dadd FP.dconst0 (FP.dmul w0 y0)) := dadd_D dint_zero D101 (by show _ ≤ 9007199254740992; omega)
  refine g_dadd C X3 (pc' := 34) d4_33 (nn_of_int D102) rfl ?_
  obtain ⟨d103, e_d103⟩ : ∃ z : UInt64, z = FP.dadd FP.dconst0 (FP.dmul w0 y0) := ⟨_, rfl⟩
  have D_d103 : FP.Core.DInt (0 + (i0 * j0)) d103 := e_d103 ▸ D102
  refine g_dstoreN C X3 (pc' := 35) d4_34 (x := d103) e_d103 (l' := #[.val (.ref a), .val (.ref b), .val (.double d103), .second, .val (.int (0 : Int32))]) rfl rfl ?_
  refine g_iinc C X3 (pc' := 38) d4_35 rfl (z := (1 : Int32)) (by decide) (l' := #[.val (.ref a), .val (.ref b), .val (.double d103), .second, .val (.int (1 : Int32))]) rfl rfl ?_
  refine g_goto C X3 d4_38 (pc' := 5) (by decide) (by decide) ?_
  refine g_iload C X3 (pc' := 7) d4_5 rfl rfl ?_
  refine g_aloadN C X3 (pc' := 8) d4_7 rfl rfl rfl ?_
  refine g_getF C X3 (host := "") (Or.inl (hw _ (List.mem_of_getElem? (i := 16) rfl))) Via.refl e3 F1 d4_8 rfl ?_
  intro T4 X4 e4
  refine g_len C X4 (pc' := 12) e4 At d4_11 rfl ?_
  refine g_icmpN C X4 d4_12 (by decide) rfl ?_
  refine g_dloadN C X4 (pc' := 16) d4_15 rfl rfl ?_
  refine g_aloadN C X4 (pc' := 17) d4_16 rfl rfl rfl ?_
  refine g_getF C X4 (host := "") (Or.inl (hw _ (List.mem_of_getElem? (i := 18) rfl))) Via.refl e4 F2 d4_17 rfl ?_
  intro T5 X5 e5
  refine g_iload C X5 (pc' := 22) d4_20 rfl rfl ?_
  refine g_daload C X5 (pc' := 23) e5 Aw (by decide) (by decide) 1 (by decide) rfl d4_22 rfl ?_
  refine g_aloadN C X5 (pc' := 24) d4_23 rfl rfl rfl ?_
  refine g_aloadN C X5 (pc' := 25) d4_24 rfl rfl rfl ?_
  refine g_getF C X5 (host := "") (Or.inl (hw _ (List.mem_of_getElem? (i := 16) rfl))) Via.refl e5 F1 d4_25 rfl ?_
  intro T6 X6 e6
  refine g_iload C X6 (pc' := 30) d4_28 rfl rfl ?_
  refine g_iaload C X6 (pc' := 31) e6 At (by decide) (by decide) 1 (by decide) rfl d4_30 rfl ?_
  refine g_daload C X6 e6 Ad B1.1 B1.2 t1.toNatClampNeg rfl G1 d4_31 rfl ?_
  have D104 : FP.Core.DInt (i1 * j1) (FP.dmul w1 y1) := dmul_D Dw1 Dy1 (by have := own_m (X := 32768) (Y := 32768) (x := i1) (y := j1) (by omega) (by omega) (by omega) (by omega); show _ ≤ 9007199254740992; omega)
  refine g_dmul C X6 (pc' := 33) d4_32 (nn_of_int D104) rfl ?_
  have m0 := own_m (X := 32768) (Y := 32768) (x := i0) (y := j0) (by omega) (by omega) (by omega) (by omega)
  have m1 := own_m (X := 32768) (Y := 32768) (x := i1) (y := j1) (by omega) (by omega) (by omega) (by omega)
  have D105 : FP.Core.DInt ((0 + (i0 * j0)) + (i1 * j1)) (FP.dadd d103 (FP.dmul w1 y1)) := dadd_D D_d103 D104 (by show _ ≤ 9007199254740992; omega)
  refine g_dadd C X6 (pc' := 34) d4_33 (nn_of_int D105) rfl ?_
  obtain ⟨d106, e_d106⟩ : ∃ z : UInt64, z = FP.dadd d103 (FP.dmul w1 y1) := ⟨_, rfl⟩
  have D_d106 : FP.Core.DInt ((0 + (i0 * j0)) + (i1 * j1)) d106 := e_d106 ▸ D105
  refine g_dstoreN C X6 (pc' := 35) d4_34 (x := d106) e_d106 (l' := #[.val (.ref a), .val (.ref b), .val (.double d106), .second, .val (.int (1 : Int32))]) rfl rfl ?_
  refine g_iinc C X6 (pc' := 38) d4_35 rfl (z := (2 : Int32)) (by decide) (l' := #[.val (.ref a), .val (.ref b), .val (.double d106), .second, .val (.int (2 : Int32))]) rfl rfl ?_
  refine g_goto C X6 d4_38 (pc' := 5) (by decide) (by decide) ?_
  refine g_iload C X6 (pc' := 7) d4_5 rfl rfl ?_
  refine g_aloadN C X6 (pc' := 8) d4_7 rfl rfl rfl ?_
  refine g_getF C X6 (host := "") (Or.inl (hw _ (List.mem_of_getElem? (i := 16) rfl))) Via.refl e6 F1 d4_8 rfl ?_
  intro T7 X7 e7
  refine g_len C X7 (pc' := 12) e7 At d4_11 rfl ?_
  refine g_icmpY C X7 d4_12 (pc' := 41) (by decide) (by decide) (by decide) ?_
  refine g_dloadN C X7 (pc' := 42) d4_41 rfl rfl ?_
  exact g_dreturn C X7 d4_42 ⟨_, rfl, D_d106, rfl, e7⟩ (by decide) (by decide)
set_option maxRecDepth 65536 in
set_option maxHeartbeats 40000000 in
theorem c_dot3 (l : Launch) (Z : State) (a0 : Array Value) (hw : ∀ d ∈ tables_1, d.before a0 Z = true) (h : Heap) (a b ta aw : Addr) (kt kw kd : ClassId) (d0 d1 d2 d3 : UInt64) (t0 : Int32) (w0 y0 : UInt64) (i0 j0 : Int) (Dw0 : FP.Core.DInt i0 w0) (Dy0 : FP.Core.DInt j0 y0) (B0 : 0 ≤ t0.toInt ∧ t0.toInt < 4) (G0 : [Value.double d0, .double d1, .double d2, .double d3].getD t0.toNatClampNeg (Value.double (0 : UInt64)) = Value.double y0) (Ri0 : -32768 ≤ i0 ∧ i0 ≤ 32768) (Rj0 : -32768 ≤ j0 ∧ j0 ≤ 32768) (t1 : Int32) (w1 y1 : UInt64) (i1 j1 : Int) (Dw1 : FP.Core.DInt i1 w1) (Dy1 : FP.Core.DInt j1 y1) (B1 : 0 ≤ t1.toInt ∧ t1.toInt < 4) (G1 : [Value.double d0, .double d1, .double d2, .double d3].getD t1.toNatClampNeg (Value.double (0 : UInt64)) = Value.double y1) (Ri1 : -32768 ≤ i1 ∧ i1 ≤ 32768) (Rj1 : -32768 ≤ j1 ∧ j1 ≤ 32768) (t2 : Int32) (w2 y2 : UInt64) (i2 j2 : Int) (Dw2 : FP.Core.DInt i2 w2) (Dy2 : FP.Core.DInt j2 y2) (B2 : 0 ≤ t2.toInt ∧ t2.toInt < 4) (G2 : [Value.double d0, .double d1, .double d2, .double d3].getD t2.toNatClampNeg (Value.double (0 : UInt64)) = Value.double y2) (Ri2 : -32768 ≤ i2 ∧ i2 ≤ 32768) (Rj2 : -32768 ≤ j2 ∧ j2 ≤ 32768) (F1 : Fld Z h a "com/example/kenning/kenning/retrieval/KMeans$Vector" "terms" "[I" (.ref ta)) (F2 : Fld Z h a "com/example/kenning/kenning/retrieval/KMeans$Vector" "weights" "[D" (.ref aw)) (At : Arv Z h ta kt .int (3 : Int32) [.int t0, .int t1, .int t2] (.int (0 : Int32))) (Aw : Arv Z h aw kw .double (3 : Int32) [.double w0, .double w1, .double w2] (.double (0 : UInt64))) (Ad : Arv Z h b kd .double (4 : Int32) [Value.double d0, .double d1, .double d2, .double d3] (.double (0 : UInt64))) :
    Con l Z (⟨"com/example/kenning/kenning/retrieval/KMeans$Vector", "dot", "([D)D"⟩ : MethodName) prog_50_method_3_code 5 (some .double) ⟨0, 0, 0, 0⟩ #[.ref a, .ref b] h (fun v h' L => ∃ r, v = some (.double r) ∧ FP.Core.DInt (0 + i0 * j0 + i1 * j1 + i2 * j2) r ∧ L = [] ∧ h' = h) := by
  refine con_of_go pnV (fun m => efD m a b) ?_
  intro p e s m below meth c T0 C X0 e0
  refine g_dconst0 C X0 (pc' := 1) d4_0 rfl rfl ?_
  refine g_dstoreN C X0 (pc' := 2) d4_1 (x := FP.dconst0) rfl (l' := #[.val (.ref a), .val (.ref b), .val (.double FP.dconst0), .second, .unset]) rfl rfl ?_
  refine g_iconst C X0 (pc' := 3) d4_2 (v := (0 : Int32)) (by decide) rfl ?_
  refine g_istore C X0 (pc' := 5) d4_3 (x := (0 : Int32)) rfl (l' := #[.val (.ref a), .val (.ref b), .val (.double FP.dconst0), .second, .val (.int (0 : Int32))]) rfl rfl ?_
  refine g_iload C X0 (pc' := 7) d4_5 rfl rfl ?_
  refine g_aloadN C X0 (pc' := 8) d4_7 rfl rfl rfl ?_
  refine g_getF C X0 (host := "") (Or.inl (hw _ (List.mem_of_getElem? (i := 16) rfl))) Via.refl e0 F1 d4_8 rfl ?_
  intro T1 X1 e1
  refine g_len C X1 (pc' := 12) e1 At d4_11 rfl ?_
  refine g_icmpN C X1 d4_12 (by decide) rfl ?_
  refine g_dloadN C X1 (pc' := 16) d4_15 rfl rfl ?_
  refine g_aloadN C X1 (pc' := 17) d4_16 rfl rfl rfl ?_
  refine g_getF C X1 (host := "") (Or.inl (hw _ (List.mem_of_getElem? (i := 18) rfl))) Via.refl e1 F2 d4_17 rfl ?_
  intro T2 X2 e2
  refine g_iload C X2 (pc' := 22) d4_20 rfl rfl ?_
  refine g_daload C X2 (pc' := 23) e2 Aw (by decide) (by decide) 0 (by decide) rfl d4_22 rfl ?_
  refine g_aloadN C X2 (pc' := 24) d4_23 rfl rfl rfl ?_
  refine g_aloadN C X2 (pc' := 25) d4_24 rfl rfl rfl ?_
  refine g_getF C X2 (host := "") (Or.inl (hw _ (List.mem_of_getElem? (i := 16) rfl))) Via.refl e2 F1 d4_25 rfl ?_
  intro T3 X3 e3
  refine g_iload C X3 (pc' := 30) d4_28 rfl rfl ?_
  refine g_iaload C X3 (pc' := 31) e3 At (by decide) (by decide) 0 (by decide) rfl d4_30 rfl ?_
  refine g_daload C X3 e3 Ad B0.1 B0.2 t0.toNatClampNeg rfl G0 d4_31 rfl ?_
  have D101 : FP.Core.DInt (i0 * j0) (FP.dmul w0 y0) := dmul_D Dw0 Dy0 (by have := own_m (X := 32768) (Y := 32768) (x := i0) (y := j0) (by omega) (by omega) (by omega) (by omega); show _ ≤ 9007199254740992; omega)
  refine g_dmul C X3 (pc' := 33) d4_32 (nn_of_int D101) rfl ?_
  have m0 := own_m (X := 32768) (Y := 32768) (x := i0) (y := j0) (by omega) (by omega) (by omega) (by omega)
  have D102 : FP.Core.DInt (0 + (i0 * j0)) (FP.dadd FP.dconst0 (FP.dmul w0 y0)) := dadd_D dint_zero D101 (by show _ ≤ 9007199254740992; omega)
  refine g_dadd C X3 (pc' := 34) d4_33 (nn_of_int D102) rfl ?_
  obtain ⟨d103, e_d103⟩ : ∃ z : UInt64, z = FP.dadd FP.dconst0 (FP.dmul w0 y0) := ⟨_, rfl⟩
  have D_d103 : FP.Core.DInt (0 + (i0 * j0)) d103 := e_d103 ▸ D102
  refine g_dstoreN C X3 (pc' := 35) d4_34 (x := d103) e_d103 (l' := #[.val (.ref a), .val (.ref b), .val (.double d103), .second, .val (.int (0 : Int32))]) rfl rfl ?_
  refine g_iinc C X3 (pc' := 38) d4_35 rfl (z := (1 : Int32)) (by decide) (l' := #[.val (.ref a), .val (.ref b), .val (.double d103), .second, .val (.int (1 : Int32))]) rfl rfl ?_
  refine g_goto C X3 d4_38 (pc' := 5) (by decide) (by decide) ?_
  refine g_iload C X3 (pc' := 7) d4_5 rfl rfl ?_
  refine g_aloadN C X3 (pc' := 8) d4_7 rfl rfl rfl ?_
  refine g_getF C X3 (host := "") (Or.inl (hw _ (List.mem_of_getElem? (i := 16) rfl))) Via.refl e3 F1 d4_8 rfl ?_
  intro T4 X4 e4
  refine g_len C X4 (pc' := 12) e4 At d4_11 rfl ?_
  refine g_icmpN C X4 d4_12 (by decide) rfl ?_
  refine g_dloadN C X4 (pc' := 16) d4_15 rfl rfl ?_
  refine g_aloadN C X4 (pc' := 17) d4_16 rfl rfl rfl ?_
  refine g_getF C X4 (host := "") (Or.inl (hw _ (List.mem_of_getElem? (i := 18) rfl))) Via.refl e4 F2 d4_17 rfl ?_
  intro T5 X5 e5
  refine g_iload C X5 (pc' := 22) d4_20 rfl rfl ?_
  refine g_daload C X5 (pc' := 23) e5 Aw (by decide) (by decide) 1 (by decide) rfl d4_22 rfl ?_
  refine g_aloadN C X5 (pc' := 24) d4_23 rfl rfl rfl ?_
  refine g_aloadN C X5 (pc' := 25) d4_24 rfl rfl rfl ?_
  refine g_getF C X5 (host := "") (Or.inl (hw _ (List.mem_of_getElem? (i := 16) rfl))) Via.refl e5 F1 d4_25 rfl ?_
  intro T6 X6 e6
  refine g_iload C X6 (pc' := 30) d4_28 rfl rfl ?_
  refine g_iaload C X6 (pc' := 31) e6 At (by decide) (by decide) 1 (by decide) rfl d4_30 rfl ?_
  refine g_daload C X6 e6 Ad B1.1 B1.2 t1.toNatClampNeg rfl G1 d4_31 rfl ?_
  have D104 : FP.Core.DInt (i1 * j1) (FP.dmul w1 y1) := dmul_D Dw1 Dy1 (by have := own_m (X := 32768) (Y := 32768) (x := i1) (y := j1) (by omega) (by omega) (by omega) (by omega); show _ ≤ 9007199254740992; omega)
  refine g_dmul C X6 (pc' := 33) d4_32 (nn_of_int D104) rfl ?_
  have m0 := own_m (X := 32768) (Y := 32768) (x := i0) (y := j0) (by omega) (by omega) (by omega) (by omega)
  have m1 := own_m (X := 32768) (Y := 32768) (x := i1) (y := j1) (by omega) (by omega) (by omega) (by omega)
  have D105 : FP.Core.DInt ((0 + (i0 * j0)) + (i1 * j1)) (FP.dadd d103 (FP.dmul w1 y1)) := dadd_D D_d103 D104 (by show _ ≤ 9007199254740992; omega)
  refine g_dadd C X6 (pc' := 34) d4_33 (nn_of_int D105) rfl ?_
  obtain ⟨d106, e_d106⟩ : ∃ z : UInt64, z = FP.dadd d103 (FP.dmul w1 y1) := ⟨_, rfl⟩
  have D_d106 : FP.Core.DInt ((0 + (i0 * j0)) + (i1 * j1)) d106 := e_d106 ▸ D105
  refine g_dstoreN C X6 (pc' := 35) d4_34 (x := d106) e_d106 (l' := #[.val (.ref a), .val (.ref b), .val (.double d106), .second, .val (.int (1 : Int32))]) rfl rfl ?_
  refine g_iinc C X6 (pc' := 38) d4_35 rfl (z := (2 : Int32)) (by decide) (l' := #[.val (.ref a), .val (.ref b), .val (.double d106), .second, .val (.int (2 : Int32))]) rfl rfl ?_
  refine g_goto C X6 d4_38 (pc' := 5) (by decide) (by decide) ?_
  refine g_iload C X6 (pc' := 7) d4_5 rfl rfl ?_
  refine g_aloadN C X6 (pc' := 8) d4_7 rfl rfl rfl ?_
  refine g_getF C X6 (host := "") (Or.inl (hw _ (List.mem_of_getElem? (i := 16) rfl))) Via.refl e6 F1 d4_8 rfl ?_
  intro T7 X7 e7
  refine g_len C X7 (pc' := 12) e7 At d4_11 rfl ?_
  refine g_icmpN C X7 d4_12 (by decide) rfl ?_
  refine g_dloadN C X7 (pc' := 16) d4_15 rfl rfl ?_
  refine g_aloadN C X7 (pc' := 17) d4_16 rfl rfl rfl ?_
  refine g_getF C X7 (host := "") (Or.inl (hw _ (List.mem_of_getElem? (i := 18) rfl))) Via.refl e7 F2 d4_17 rfl ?_
  intro T8 X8 e8
  refine g_iload C X8 (pc' := 22) d4_20 rfl rfl ?_
  refine g_daload C X8 (pc' := 23) e8 Aw (by decide) (by decide) 2 (by decide) rfl d4_22 rfl ?_
  refine g_aloadN C X8 (pc' := 24) d4_23 rfl rfl rfl ?_
  refine g_aloadN C X8 (pc' := 25) d4_24 rfl rfl rfl ?_
  refine g_getF C X8 (host := "") (Or.inl (hw _ (List.mem_of_getElem? (i := 16) rfl))) Via.refl e8 F1 d4_25 rfl ?_
  intro T9 X9 e9
  refine g_iload C X9 (pc' := 30) d4_28 rfl rfl ?_
  refine g_iaload C X9 (pc' := 31) e9 At (by decide) (by decide) 2 (by decide) rfl d4_30 rfl ?_
  refine g_daload C X9 e9 Ad B2.1 B2.2 t2.toNatClampNeg rfl G2 d4_31 rfl ?_
  have D107 : FP.Core.DInt (i2 * j2) (FP.dmul w2 y2) := dmul_D Dw2 Dy2 (by have := own_m (X := 32768) (Y := 32768) (x := i2) (y := j2) (by omega) (by omega) (by omega) (by omega); show _ ≤ 9007199254740992; omega)
  refine g_dmul C X9 (pc' := 33) d4_32 (nn_of_int D107) rfl ?_
  have m0 := own_m (X := 32768) (Y := 32768) (x := i0) (y := j0) (by omega) (by omega) (by omega) (by omega)
  have m1 := own_m (X := 32768) (Y := 32768) (x := i1) (y := j1) (by omega) (by omega) (by omega) (by omega)
  have m2 := own_m (X := 32768) (Y := 32768) (x := i2) (y := j2) (by omega) (by omega) (by omega) (by omega)
  have D108 : FP.Core.DInt (((0 + (i0 * j0)) + (i1 * j1)) + (i2 * j2)) (FP.dadd d106 (FP.dmul w2 y2)) := dadd_D D_d106 D107 (by show _ ≤ 9007199254740992; omega)
  refine g_dadd C X9 (pc' := 34) d4_33 (nn_of_int D108) rfl ?_
  obtain ⟨d109, e_d109⟩ : ∃ z : UInt64, z = FP.dadd d106 (FP.dmul w2 y2) := ⟨_, rfl⟩
  have D_d109 : FP.Core.DInt (((0 + (i0 * j0)) + (i1 * j1)) + (i2 * j2)) d109 := e_d109 ▸ D108
  refine g_dstoreN C X9 (pc' := 35) d4_34 (x := d109) e_d109 (l' := #[.val (.ref a), .val (.ref b), .val (.double d109), .second, .val (.int (2 : Int32))]) rfl rfl ?_
  refine g_iinc C X9 (pc' := 38) d4_35 rfl (z := (3 : Int32)) (by decide) (l' := #[.val (.ref a), .val (.ref b), .val (.double d109), .second, .val (.int (3 : Int32))]) rfl rfl ?_
  refine g_goto C X9 d4_38 (pc' := 5) (by decide) (by decide) ?_
  refine g_iload C X9 (pc' := 7) d4_5 rfl rfl ?_
  refine g_aloadN C X9 (pc' := 8) d4_7 rfl rfl rfl ?_
  refine g_getF C X9 (host := "") (Or.inl (hw _ (List.mem_of_getElem? (i := 16) rfl))) Via.refl e9 F1 d4_8 rfl ?_
  intro T10 X10 e10
  refine g_len C X10 (pc' := 12) e10 At d4_11 rfl ?_
  refine g_icmpY C X10 d4_12 (pc' := 41) (by decide) (by decide) (by decide) ?_
  refine g_dloadN C X10 (pc' := 42) d4_41 rfl rfl ?_
  exact g_dreturn C X10 d4_42 ⟨_, rfl, D_d109, rfl, e10⟩ (by decide) (by decide)
theorem own_n (x : Int32) : x &&& 3 = 0 ∨ x &&& 3 = 1 ∨ x &&& 3 = 2 ∨ x &&& 3 = 3 := by
  have h1 := c_and x 3 (by decide)
  have e0 : (0 : Int32).toInt = 0 := by decide
  have e1 : (1 : Int32).toInt = 1 := by decide
  have e2 : (2 : Int32).toInt = 2 := by decide
  have e3 : (3 : Int32).toInt = 3 := by decide
  simp only [← Int32.toInt_inj]
  omega
theorem own_t (x : Int32) : 0 ≤ (x &&& 3).toInt ∧ (x &&& 3).toInt < 4 := by
  have h1 := c_and x 3 (by decide)
  have e3 : (3 : Int32).toInt = 3 := by decide
  omega
theorem own_s (x : Int32) : -32768 ≤ x.toInt16.toInt32.toInt64.toInt ∧ x.toInt16.toInt32.toInt64.toInt ≤ 32768 := by
  have := c_i2s x
  rw [c_i2l]; omega
theorem own_get (i : Int32) (d0 d1 d2 d3 : Int64) (h : 0 ≤ i.toInt ∧ i.toInt < 4) : [Value.double (FP.l2d d0), .double (FP.l2d d1), .double (FP.l2d d2), .double (FP.l2d d3)].getD i.toNatClampNeg (.double (0 : UInt64)) = .double (FP.l2d (own_at i d0 d1 d2 d3)) := by
  have e : (i.toNatClampNeg : Int) = i.toInt := (nat_of (fun q => by rw [Int32.lt_iff_toInt_lt] at q; have z0 : (0 : Int32).toInt = 0 := (by decide); omega)).symm
  unfold own_at
  rcases (show i.toInt = 0 ∨ i.toInt = 1 ∨ i.toInt = 2 ∨ i.toInt = 3 by omega) with q | q | q | q
  · rw [show i.toNatClampNeg = 0 by omega, if_pos q]; rfl
  · rw [show i.toNatClampNeg = 1 by omega, if_neg (by omega), if_pos q]; rfl
  · rw [show i.toNatClampNeg = 2 by omega, if_neg (by omega), if_neg (by omega), if_pos q]; rfl
  · rw [show i.toNatClampNeg = 3 by omega, if_neg (by omega), if_neg (by omega), if_neg (by omega)]; rfl
theorem own_atr (i : Int32) {d0 d1 d2 d3 : Int64} (h0 : -32768 ≤ d0.toInt ∧ d0.toInt ≤ 32768) (h1 : -32768 ≤ d1.toInt ∧ d1.toInt ≤ 32768) (h2 : -32768 ≤ d2.toInt ∧ d2.toInt ≤ 32768) (h3 : -32768 ≤ d3.toInt ∧ d3.toInt ≤ 32768) : -32768 ≤ (own_at i d0 d1 d2 d3).toInt ∧ (own_at i d0 d1 d2 d3).toInt ≤ 32768 := by
  unfold own_at
  split
  · exact h0
  · split
    · exact h1
    · split
      · exact h2
      · exact h3
set_option maxRecDepth 65536 in
set_option maxHeartbeats 40000000 in
theorem law (l : Launch) (Z : State) (a0 : Array Value) (hw : ∀ d ∈ tables_1, d.before a0 Z = true) (p0 p1 p2 p3 p4 : Int32) (h : Heap) (n0 : Nat) (Z0 : n0 ≤ h.size) :
    Con l Z x code maxLocals ret room_1 #[.int p0, .int p1, .int p2, .int p3, .int p4] h (fun v _ L => v = some (.int 1) ∧ Fr n0 L) := by
  refine con_of_go pn0 (fun m => ef0 m p0 p1 p2 p3 p4) ?_
  intro p e s m below meth c T0 C X0 e0
  refine g_iloadN C X0 (pc' := 1) at_0 rfl rfl ?_
  refine g_iconst C X0 (pc' := 2) at_1 (v := (3 : Int32)) (by decide) rfl ?_
  refine g_iand C X0 (pc' := 3) at_2 rfl ?_
  obtain ⟨i1, e_i1⟩ : ∃ z : Int32, z = p0 &&& (3 : Int32) := ⟨_, rfl⟩
  refine g_istore C X0 (pc' := 5) at_3 (x := i1) e_i1 (l' := #[.val (.int p0), .val (.int p1), .val (.int p2), .val (.int p3), .val (.int p4), .val (.int i1), .unset, .unset, .unset, .unset, .unset, .unset, .unset, .unset, .unset, .unset, .unset, .unset, .unset, .unset, .unset, .unset, .unset, .unset, .unset, .unset, .unset, .unset, .unset, .unset, .unset, .unset, .unset, .unset]) rfl rfl ?_
  refine g_iloadN C X0 (pc' := 6) at_5 rfl rfl ?_
  refine g_iconst C X0 (pc' := 7) at_6 (v := (2 : Int32)) (by decide) rfl ?_
  refine g_iushr C X0 (pc' := 8) at_7 rfl ?_
  refine g_iconst C X0 (pc' := 9) at_8 (v := (3 : Int32)) (by decide) rfl ?_
  refine g_iand C X0 (pc' := 10) at_9 rfl ?_
  obtain ⟨i2, e_i2⟩ : ∃ z : Int32, z = (XT.ushr p0 (2 : Int32)) &&& (3 : Int32) := ⟨_, rfl⟩
  refine g_istore C X0 (pc' := 12) at_10 (x := i2) e_i2 (l' := #[.val (.int p0), .val (.int p1), .val (.int p2), .val (.int p3), .val (.int p4), .val (.int i1), .val (.int i2), .unset, .unset, .unset, .unset, .unset, .unset, .unset, .unset, .unset, .unset, .unset, .unset, .unset, .unset, .unset, .unset, .unset, .unset, .unset, .unset, .unset, .unset, .unset, .unset, .unset, .unset, .unset]) rfl rfl ?_
  refine g_iloadN C X0 (pc' := 13) at_12 rfl rfl ?_
  refine g_iconst C X0 (pc' := 14) at_13 (v := (4 : Int32)) (by decide) rfl ?_
  refine g_iushr C X0 (pc' := 15) at_14 rfl ?_
  refine g_iconst C X0 (pc' := 16) at_15 (v := (1 : Int32)) (by decide) rfl ?_
  refine g_iand C X0 (pc' := 17) at_16 rfl ?_
  have J25 : ∀ zs : Int32, Go p.tables e below (End s (fun v _ L => v = some (.int 1) ∧ Fr n0 L) room_1.cells room_1.slots) T0 (mkF m 25 #[.val (.int p0), .val (.int p1), .val (.int p2), .val (.int p3), .val (.int p4), .val (.int i1), .val (.int i2), .unset, .unset, .unset, .unset, .unset, .unset, .unset, .unset, .unset, .unset, .unset, .unset, .unset, .unset, .unset, .unset, .unset, .unset, .unset, .unset, .unset, .unset, .unset, .unset, .unset, .unset, .unset] [(.int zs)]) := by
    intro zs
    refine g_istore C X0 (pc' := 27) at_25 (x := zs) rfl (l' := #[.val (.int p0), .val (.int p1), .val (.int p2), .val (.int p3), .val (.int p4), .val (.int i1), .val (.int i2), .val (.int zs), .unset, .unset, .unset, .unset, .unset, .unset, .unset, .unset, .unset, .unset, .unset, .unset, .unset, .unset, .unset, .unset, .unset, .unset, .unset, .unset, .unset, .unset, .unset, .unset, .unset, .unset]) rfl rfl ?_
    refine g_iload C X0 (pc' := 29) at_27 rfl rfl ?_
    refine g_iconst C X0 (pc' := 30) at_29 (v := (3 : Int32)) (by decide) rfl ?_
    refine g_iand C X0 (pc' := 31) at_30 rfl ?_
    obtain ⟨i3, e_i3⟩ : ∃ z : Int32, z = i2 &&& (3 : Int32) := ⟨_, rfl⟩
    refine g_istore C X0 (pc' := 33) at_31 (x := i3) e_i3 (l' := #[.val (.int p0), .val (.int p1), .val (.int p2), .val (.int p3), .val (.int p4), .val (.int i1), .val (.int i2), .val (.int zs), .val (.int i3), .unset, .unset, .unset, .unset, .unset, .unset, .unset, .unset, .unset, .unset, .unset, .unset, .unset, .unset, .unset, .unset, .unset, .unset, .unset, .unset, .unset, .unset, .unset, .unset, .unset]) rfl rfl ?_
    have bt0 := own_t i2
    rw [← e_i3] at bt0
    refine g_iload C X0 (pc' := 35) at_33 rfl rfl ?_
    refine g_iload C X0 (pc' := 37) at_35 rfl rfl ?_
    refine g_iadd C X0 (pc' := 38) at_37 rfl ?_
    refine g_iconst C X0 (pc' := 39) at_38 (v := (3 : Int32)) (by decide) rfl ?_
    refine g_iand C X0 (pc' := 40) at_39 rfl ?_
    obtain ⟨i4, e_i4⟩ : ∃ z : Int32, z = (i2 + zs) &&& (3 : Int32) := ⟨_, rfl⟩
    refine g_istore C X0 (pc' := 42) at_40 (x := i4) e_i4 (l' := #[.val (.int p0), .val (.int p1), .val (.int p2), .val (.int p3), .val (.int p4), .val (.int i1), .val (.int i2), .val (.int zs), .val (.int i3), .val (.int i4), .unset, .unset, .unset, .unset, .unset, .unset, .unset, .unset, .unset, .unset, .unset, .unset, .unset, .unset, .unset, .unset, .unset, .unset, .unset, .unset, .unset, .unset, .unset, .unset]) rfl rfl ?_
    have bt1 := own_t (i2 + zs)
    rw [← e_i4] at bt1
    refine g_iload C X0 (pc' := 44) at_42 rfl rfl ?_
    refine g_iconst C X0 (pc' := 45) at_44 (v := (2 : Int32)) (by decide) rfl ?_
    refine g_iload C X0 (pc' := 47) at_45 rfl rfl ?_
    refine g_imul C X0 (pc' := 48) at_47 rfl ?_
    refine g_iadd C X0 (pc' := 49) at_48 rfl ?_
    refine g_iconst C X0 (pc' := 50) at_49 (v := (3 : Int32)) (by decide) rfl ?_
    refine g_iand C X0 (pc' := 51) at_50 rfl ?_
    obtain ⟨i5, e_i5⟩ : ∃ z : Int32, z = (i2 + ((2 : Int32) * zs)) &&& (3 : Int32) := ⟨_, rfl⟩
    refine g_istore C X0 (pc' := 53) at_51 (x := i5) e_i5 (l' := #[.val (.int p0), .val (.int p1), .val (.int p2), .val (.int p3), .val (.int p4), .val (.int i1), .val (.int i2), .val (.int zs), .val (.int i3), .val (.int i4), .val (.int i5), .unset, .unset, .unset, .unset, .unset, .unset, .unset, .unset, .unset, .unset, .unset, .unset, .unset, .unset, .unset, .unset, .unset, .unset, .unset, .unset, .unset, .unset, .unset]) rfl rfl ?_
    have bt2 := own_t (i2 + ((2 : Int32) * zs))
    rw [← e_i5] at bt2
    refine g_iloadN C X0 (pc' := 54) at_53 rfl rfl ?_
    refine g_i2s C X0 (pc' := 55) at_54 rfl ?_
    refine g_i2l C X0 (pc' := 56) at_55 rfl ?_
    obtain ⟨j6, e_j6⟩ : ∃ z : Int64, z = p1.toInt16.toInt32.toInt64 := ⟨_, rfl⟩
    refine g_lstore C X0 (pc' := 58) at_56 (x := j6) e_j6 (l' := #[.val (.int p0), .val (.int p1), .val (.int p2), .val (.int p3), .val (.int p4), .val (.int i1), .val (.int i2), .val (.int zs), .val (.int i3), .val (.int i4), .val (.int i5), .val (.long j6), .second, .unset, .unset, .unset, .unset, .unset, .unset, .unset, .unset, .unset, .unset, .unset, .unset, .unset, .unset, .unset, .unset, .unset, .unset, .unset, .unset, .unset]) rfl rfl ?_
    have bw0 := own_s p1
    rw [← e_j6] at bw0
    refine g_iloadN C X0 (pc' := 59) at_58 rfl rfl ?_
    refine g_bipush C X0 (pc' := 61) at_59 (v := (16 : Int32)) (by decide) rfl ?_
    refine g_ishr C X0 (pc' := 62) at_61 rfl ?_
    refine g_i2s C X0 (pc' := 63) at_62 rfl ?_
    refine g_i2l C X0 (pc' := 64) at_63 rfl ?_
    obtain ⟨j7, e_j7⟩ : ∃ z : Int64, z = ((p1 >>> ((16 : Int32) &&& 31)).toInt16.toInt32).toInt64 := ⟨_, rfl⟩
    refine g_lstore C X0 (pc' := 66) at_64 (x := j7) e_j7 (l' := #[.val (.int p0), .val (.int p1), .val (.int p2), .val (.int p3), .val (.int p4), .val (.int i1), .val (.int i2), .val (.int zs), .val (.int i3), .val (.int i4), .val (.int i5), .val (.long j6), .second, .val (.long j7), .second, .unset, .unset, .unset, .unset, .unset, .unset, .unset, .unset, .unset, .unset, .unset, .unset, .unset, .unset, .unset, .unset, .unset, .unset, .unset]) rfl rfl ?_
    have bw1 := own_s (p1 >>> ((16 : Int32) &&& 31))
    rw [← e_j7] at bw1
    refine g_iloadN C X0 (pc' := 67) at_66 rfl rfl ?_
    refine g_i2s C X0 (pc' := 68) at_67 rfl ?_
    refine g_i2l C X0 (pc' := 69) at_68 rfl ?_
    obtain ⟨j8, e_j8⟩ : ∃ z : Int64, z = p2.toInt16.toInt32.toInt64 := ⟨_, rfl⟩
    refine g_lstore C X0 (pc' := 71) at_69 (x := j8) e_j8 (l' := #[.val (.int p0), .val (.int p1), .val (.int p2), .val (.int p3), .val (.int p4), .val (.int i1), .val (.int i2), .val (.int zs), .val (.int i3), .val (.int i4), .val (.int i5), .val (.long j6), .second, .val (.long j7), .second, .val (.long j8), .second, .unset, .unset, .unset, .unset, .unset, .unset, .unset, .unset, .unset, .unset, .unset, .unset, .unset, .unset, .unset, .unset, .unset]) rfl rfl ?_
    have bw2 := own_s p2
    rw [← e_j8] at bw2
    refine g_iloadN C X0 (pc' := 72) at_71 rfl rfl ?_
    refine g_bipush C X0 (pc' := 74) at_72 (v := (16 : Int32)) (by decide) rfl ?_
    refine g_ishr C X0 (pc' := 75) at_74 rfl ?_
    refine g_i2s C X0 (pc' := 76) at_75 rfl ?_
    refine g_i2l C X0 (pc' := 77) at_76 rfl ?_
    obtain ⟨j9, e_j9⟩ : ∃ z : Int64, z = ((p2 >>> ((16 : Int32) &&& 31)).toInt16.toInt32).toInt64 := ⟨_, rfl⟩
    refine g_lstore C X0 (pc' := 79) at_77 (x := j9) e_j9 (l' := #[.val (.int p0), .val (.int p1), .val (.int p2), .val (.int p3), .val (.int p4), .val (.int i1), .val (.int i2), .val (.int zs), .val (.int i3), .val (.int i4), .val (.int i5), .val (.long j6), .second, .val (.long j7), .second, .val (.long j8), .second, .val (.long j9), .second, .unset, .unset, .unset, .unset, .unset, .unset, .unset, .unset, .unset, .unset, .unset, .unset, .unset, .unset, .unset]) rfl rfl ?_
    have bd0 := own_s (p2 >>> ((16 : Int32) &&& 31))
    rw [← e_j9] at bd0
    refine g_iloadN C X0 (pc' := 80) at_79 rfl rfl ?_
    refine g_i2s C X0 (pc' := 81) at_80 rfl ?_
    refine g_i2l C X0 (pc' := 82) at_81 rfl ?_
    obtain ⟨j10, e_j10⟩ : ∃ z : Int64, z = p3.toInt16.toInt32.toInt64 := ⟨_, rfl⟩
    refine g_lstore C X0 (pc' := 84) at_82 (x := j10) e_j10 (l' := #[.val (.int p0), .val (.int p1), .val (.int p2), .val (.int p3), .val (.int p4), .val (.int i1), .val (.int i2), .val (.int zs), .val (.int i3), .val (.int i4), .val (.int i5), .val (.long j6), .second, .val (.long j7), .second, .val (.long j8), .second, .val (.long j9), .second, .val (.long j10), .second, .unset, .unset, .unset, .unset, .unset, .unset, .unset, .unset, .unset, .unset, .unset, .unset, .unset]) rfl rfl ?_
    have bd1 := own_s p3
    rw [← e_j10] at bd1
    refine g_iloadN C X0 (pc' := 85) at_84 rfl rfl ?_
    refine g_bipush C X0 (pc' := 87) at_85 (v := (16 : Int32)) (by decide) rfl ?_
    refine g_ishr C X0 (pc' := 88) at_87 rfl ?_
    refine g_i2s C X0 (pc' := 89) at_88 rfl ?_
    refine g_i2l C X0 (pc' := 90) at_89 rfl ?_
    obtain ⟨j11, e_j11⟩ : ∃ z : Int64, z = ((p3 >>> ((16 : Int32) &&& 31)).toInt16.toInt32).toInt64 := ⟨_, rfl⟩
    refine g_lstore C X0 (pc' := 92) at_90 (x := j11) e_j11 (l' := #[.val (.int p0), .val (.int p1), .val (.int p2), .val (.int p3), .val (.int p4), .val (.int i1), .val (.int i2), .val (.int zs), .val (.int i3), .val (.int i4), .val (.int i5), .val (.long j6), .second, .val (.long j7), .second, .val (.long j8), .second, .val (.long j9), .second, .val (.long j10), .second, .val (.long j11), .second, .unset, .unset, .unset, .unset, .unset, .unset, .unset, .unset, .unset, .unset, .unset]) rfl rfl ?_
    have bd2 := own_s (p3 >>> ((16 : Int32) &&& 31))
    rw [← e_j11] at bd2
    refine g_iload C X0 (pc' := 94) at_92 rfl rfl ?_
    refine g_i2s C X0 (pc' := 95) at_94 rfl ?_
    refine g_i2l C X0 (pc' := 96) at_95 rfl ?_
    obtain ⟨j12, e_j12⟩ : ∃ z : Int64, z = p4.toInt16.toInt32.toInt64 := ⟨_, rfl⟩
    refine g_lstore C X0 (pc' := 98) at_96 (x := j12) e_j12 (l' := #[.val (.int p0), .val (.int p1), .val (.int p2), .val (.int p3), .val (.int p4), .val (.int i1), .val (.int i2), .val (.int zs), .val (.int i3), .val (.int i4), .val (.int i5), .val (.long j6), .second, .val (.long j7), .second, .val (.long j8), .second, .val (.long j9), .second, .val (.long j10), .second, .val (.long j11), .second, .val (.long j12), .second, .unset, .unset, .unset, .unset, .unset, .unset, .unset, .unset, .unset]) rfl rfl ?_
    have bd3 := own_s p4
    rw [← e_j12] at bd3
    have nn := own_n p0
    rw [← e_i1] at nn
    clear e_i1
    rcases nn with rfl | rfl | rfl | rfl
    · show Go p.tables e below _ T0 (mkF m 98 #[.val (.int p0), .val (.int p1), .val (.int p2), .val (.int p3), .val (.int p4), .val (.int (0 : Int32)), .val (.int i2), .val (.int zs), .val (.int i3), .val (.int i4), .val (.int i5), .val (.long j6), .second, .val (.long j7), .second, .val (.long j8), .second, .val (.long j9), .second, .val (.long j10), .second, .val (.long j11), .second, .val (.long j12), .second, .unset, .unset, .unset, .unset, .unset, .unset, .unset, .unset, .unset] [])
      refine g_iconst C X0 (pc' := 99) at_98 (v := (4 : Int32)) (by decide) rfl ?_
      refine g_newP C X0 (aty := .double) (hw _ (List.mem_of_getElem? (i := 0) rfl)) e0 at_99 (by decide) 4 (by decide) (by decide) (by decide) (by decide) rfl ?_
      intro T1 h1 a1 k1 g1 X1 e1 E1 A1
      have z_a1 : n0 ≤ a1 := by rw [g1]; exact Z0
      have Z1 : n0 ≤ h1.size := Nat.le_trans Z0 E1.1
      have A1 : Arv Z h1 a1 k1 .double (4 : Int32) [] (.double (0 : UInt64)) := A1
      refine g_dup C X1 (pc' := 102) at_101 rfl rfl ?_
      refine g_iconst C X1 (pc' := 103) at_102 (v := (0 : Int32)) (by decide) rfl ?_
      refine g_lload C X1 (pc' := 105) at_103 rfl rfl ?_
      refine g_l2d C X1 (pc' := 106) at_105 rfl ?_
      refine g_dastore C X1 (pc' := 107) e1 A1 (by decide) (by decide) 0 1 (by decide) (of_decide_eq_true rfl) at_106 rfl ?_
      intro T2 h2 X2 e2 W2 Aq
      have Z2 : n0 ≤ h2.size := by rw [W2.size]; exact Z1
      have N2 := Fr.snoc X2 (Fr.nil n0) z_a1
      have A1 : Arv Z h2 a1 k1 .double (4 : Int32) [(.double (FP.l2d j9))] (.double (0 : UInt64)) := Aq
      refine g_dup C X2 (pc' := 108) at_107 rfl rfl ?_
      refine g_iconst C X2 (pc' := 109) at_108 (v := (1 : Int32)) (by decide) rfl ?_
      refine g_lload C X2 (pc' := 111) at_109 rfl rfl ?_
      refine g_l2d C X2 (pc' := 112) at_111 rfl ?_
      refine g_dastore C X2 (pc' := 113) e2 A1 (by decide) (by decide) 1 1 (by decide) (of_decide_eq_true rfl) at_112 rfl ?_
      intro T3 h3 X3 e3 W3 Aq
      have Z3 : n0 ≤ h3.size := by rw [W3.size]; exact Z2
      have N3 := Fr.snoc X3 N2 z_a1
      have A1 : Arv Z h3 a1 k1 .double (4 : Int32) [(.double (FP.l2d j9)), (.double (FP.l2d j10))] (.double (0 : UInt64)) := Aq
      refine g_dup C X3 (pc' := 114) at_113 rfl rfl ?_
      refine g_iconst C X3 (pc' := 115) at_114 (v := (2 : Int32)) (by decide) rfl ?_
      refine g_lload C X3 (pc' := 117) at_115 rfl rfl ?_
      refine g_l2d C X3 (pc' := 118) at_117 rfl ?_
      refine g_dastore C X3 (pc' := 119) e3 A1 (by decide) (by decide) 2 1 (by decide) (of_decide_eq_true rfl) at_118 rfl ?_
      intro T4 h4 X4 e4 W4 Aq
      have Z4 : n0 ≤ h4.size := by rw [W4.size]; exact Z3
      have N4 := Fr.snoc X4 N3 z_a1
      have A1 : Arv Z h4 a1 k1 .double (4 : Int32) [(.double (FP.l2d j9)), (.double (FP.l2d j10)), (.double (FP.l2d j11))] (.double (0 : UInt64)) := Aq
      refine g_dup C X4 (pc' := 120) at_119 rfl rfl ?_
      refine g_iconst C X4 (pc' := 121) at_120 (v := (3 : Int32)) (by decide) rfl ?_
      refine g_lload C X4 (pc' := 123) at_121 rfl rfl ?_
      refine g_l2d C X4 (pc' := 124) at_123 rfl ?_
      refine g_dastore C X4 (pc' := 125) e4 A1 (by decide) (by decide) 3 1 (by decide) (of_decide_eq_true rfl) at_124 rfl ?_
      intro T5 h5 X5 e5 W5 Aq
      have Z5 : n0 ≤ h5.size := by rw [W5.size]; exact Z4
      have N5 := Fr.snoc X5 N4 z_a1
      have A1 : Arv Z h5 a1 k1 .double (4 : Int32) [(.double (FP.l2d j9)), (.double (FP.l2d j10)), (.double (FP.l2d j11)), (.double (FP.l2d j12))] (.double (0 : UInt64)) := Aq
      refine g_astore C X5 (pc' := 127) at_125 rfl (l' := #[.val (.int p0), .val (.int p1), .val (.int p2), .val (.int p3), .val (.int p4), .val (.int (0 : Int32)), .val (.int i2), .val (.int zs), .val (.int i3), .val (.int i4), .val (.int i5), .val (.long j6), .second, .val (.long j7), .second, .val (.long j8), .second, .val (.long j9), .second, .val (.long j10), .second, .val (.long j11), .second, .val (.long j12), .second, .val (.ref a1), .unset, .unset, .unset, .unset, .unset, .unset, .unset, .unset]) rfl rfl ?_
      refine g_iload C X5 (pc' := 129) at_127 rfl rfl ?_
      refine g_ifN C X5 at_129 (by decide) rfl ?_
      refine g_iconst C X5 (pc' := 133) at_132 (v := (0 : Int32)) (by decide) rfl ?_
      refine g_newP C X5 (aty := .int) (hw _ (List.mem_of_getElem? (i := 1) rfl)) e5 at_133 (by decide) 0 (by decide) (by decide) (by decide) (by decide) rfl ?_
      intro T6 h6 a6 k6 g6 X6 e6 E6 A6
      have ne_a1_a6 : a1 ≠ a6 := Nat.ne_of_lt (by rw [g6]; exact A1.lt)
      have z_a6 : n0 ≤ a6 := by rw [g6]; exact Z5
      have A1 := A1.ext E6
      have Z6 : n0 ≤ h6.size := Nat.le_trans Z5 E6.1
      have A6 : Arv Z h6 a6 k6 .int (0 : Int32) [] (.int (0 : Int32)) := A6
      refine g_astore C X6 (pc' := 137) at_135 rfl (l' := #[.val (.int p0), .val (.int p1), .val (.int p2), .val (.int p3), .val (.int p4), .val (.int (0 : Int32)), .val (.int i2), .val (.int zs), .val (.int i3), .val (.int i4), .val (.int i5), .val (.long j6), .second, .val (.long j7), .second, .val (.long j8), .second, .val (.long j9), .second, .val (.long j10), .second, .val (.long j11), .second, .val (.long j12), .second, .val (.ref a1), .val (.ref a6), .unset, .unset, .unset, .unset, .unset, .unset, .unset]) rfl rfl ?_
      refine g_iconst C X6 (pc' := 138) at_137 (v := (0 : Int32)) (by decide) rfl ?_
      refine g_newP C X6 (aty := .double) (hw _ (List.mem_of_getElem? (i := 0) rfl)) e6 at_138 (by decide) 0 (by decide) (by decide) (by decide) (by decide) rfl ?_
      intro T7 h7 a7 k7 g7 X7 e7 E7 A7
      have ne_a1_a7 : a1 ≠ a7 := Nat.ne_of_lt (by rw [g7]; exact A1.lt)
      have ne_a6_a7 : a6 ≠ a7 := Nat.ne_of_lt (by rw [g7]; exact A6.lt)
      have z_a7 : n0 ≤ a7 := by rw [g7]; exact Z6
      have A1 := A1.ext E7
      have A6 := A6.ext E7
      have Z7 : n0 ≤ h7.size := Nat.le_trans Z6 E7.1
      have A7 : Arv Z h7 a7 k7 .double (0 : Int32) [] (.double (0 : UInt64)) := A7
      refine g_astore C X7 (pc' := 142) at_140 rfl (l' := #[.val (.int p0), .val (.int p1), .val (.int p2), .val (.int p3), .val (.int p4), .val (.int (0 : Int32)), .val (.int i2), .val (.int zs), .val (.int i3), .val (.int i4), .val (.int i5), .val (.long j6), .second, .val (.long j7), .second, .val (.long j8), .second, .val (.long j9), .second, .val (.long j10), .second, .val (.long j11), .second, .val (.long j12), .second, .val (.ref a1), .val (.ref a6), .val (.ref a7), .unset, .unset, .unset, .unset, .unset, .unset]) rfl rfl ?_
      refine g_goto C X7 at_142 (pc' := 259) (by decide) (by decide) ?_
      refine g_new C X7 (hw _ (List.mem_of_getElem? (i := 2) rfl)) (hw _ (List.mem_of_getElem? (i := 3) rfl)) (hw _ (List.mem_of_getElem? (i := 4) rfl)) e7 at_259 (by decide) (by decide) rfl ?_
      intro T8 h8 a8 g8 X8 e8 E8 A8 D8
      have ne_a1_a8 : a1 ≠ a8 := Nat.ne_of_lt (by rw [g8]; exact A1.lt)
      have ne_a6_a8 : a6 ≠ a8 := Nat.ne_of_lt (by rw [g8]; exact A6.lt)
      have ne_a7_a8 : a7 ≠ a8 := Nat.ne_of_lt (by rw [g8]; exact A7.lt)
      have z_a8 : n0 ≤ a8 := by rw [g8]; exact Z7
      have A1 := A1.ext E8
      have A6 := A6.ext E8
      have A7 := A7.ext E8
      have Z8 : n0 ≤ h8.size := Nat.le_trans Z7 E8.1
      refine g_dup C X8 (pc' := 263) at_262 rfl rfl ?_
      refine g_aload C X8 (pc' := 265) at_263 rfl rfl rfl ?_
      refine g_aload C X8 (pc' := 267) at_265 rfl rfl rfl ?_
      have F8_terms : ∃ w, Fld Z h8 a8 "com/example/kenning/kenning/retrieval/KMeans$Vector" "terms" "[I" w := ⟨_, D8 (Or.inr (hw _ (List.mem_of_getElem? (i := 17) rfl))) (ty := (.array .int)) (by decide)⟩
      have F8_weights : ∃ w, Fld Z h8 a8 "com/example/kenning/kenning/retrieval/KMeans$Vector" "weights" "[D" w := ⟨_, D8 (Or.inr (hw _ (List.mem_of_getElem? (i := 19) rfl))) (ty := (.array .double)) (by decide)⟩
      refine g_callI C X8 (c_init l Z a0 hw h8 n0 Z8 a8 z_a8 a6 a7 A8 F8_terms F8_weights) rfl (hw _ (List.mem_of_getElem? (i := 5) rfl)) (hw _ (List.mem_of_getElem? (i := 6) rfl)) (hw _ (List.mem_of_getElem? (i := 4) rfl)) (hw _ (List.mem_of_getElem? (i := 7) rfl)) (by decide) e8 at_267 rfl pdI a8 [(.ref a6), (.ref a7)] [(.ref a8)] rfl rfl rfl 1 rfl (by decide) (by decide) (by decide) (by decide) rfl ?_
      rintro _ T9 L9 X9 ⟨rfl, M9, K9, Aq, Ft9, Fw9⟩
      have A1 := A1.keep K9 (ninS ne_a1_a8 nin0)
      have A6 := A6.keep K9 (ninS ne_a6_a8 nin0)
      have A7 := A7.keep K9 (ninS ne_a7_a8 nin0)
      have A8 := A8.keep K9
      have Z9 : n0 ≤ T9.heap.size := Nat.le_trans Z8 K9.1
      have N9 := Fr.app N5 M9
      obtain ⟨h9, e9⟩ : ∃ z, T9.heap = z := ⟨_, rfl⟩
      rw [e9] at A1 A6 A7 A8 Ft9 Fw9 Z9
      show Go p.tables e below _ T9 (mkF m 270 #[.val (.int p0), .val (.int p1), .val (.int p2), .val (.int p3), .val (.int p4), .val (.int (0 : Int32)), .val (.int i2), .val (.int zs), .val (.int i3), .val (.int i4), .val (.int i5), .val (.long j6), .second, .val (.long j7), .second, .val (.long j8), .second, .val (.long j9), .second, .val (.long j10), .second, .val (.long j11), .second, .val (.long j12), .second, .val (.ref a1), .val (.ref a6), .val (.ref a7), .unset, .unset, .unset, .unset, .unset, .unset] [(.ref a8)])
      refine g_astore C X9 (pc' := 272) at_270 rfl (l' := #[.val (.int p0), .val (.int p1), .val (.int p2), .val (.int p3), .val (.int p4), .val (.int (0 : Int32)), .val (.int i2), .val (.int zs), .val (.int i3), .val (.int i4), .val (.int i5), .val (.long j6), .second, .val (.long j7), .second, .val (.long j8), .second, .val (.long j9), .second, .val (.long j10), .second, .val (.long j11), .second, .val (.long j12), .second, .val (.ref a1), .val (.ref a6), .val (.ref a7), .val (.ref a8), .unset, .unset, .unset, .unset, .unset]) rfl rfl ?_
      refine g_aload C X9 (pc' := 274) at_272 rfl rfl rfl ?_
      refine g_aload C X9 (pc' := 276) at_274 rfl rfl rfl ?_
      refine g_callV C X9 (c_dot0 l Z a0 hw h9 a8 a1 a6 a7 k6 k7 k1 (FP.l2d j9) (FP.l2d j10) (FP.l2d j11) (FP.l2d j12) Ft9 Fw9 A6 A7 A1) (hw _ (List.mem_of_getElem? (i := 20) rfl)) (hw _ (List.mem_of_getElem? (i := 21) rfl)) (hw _ (List.mem_of_getElem? (i := 23) rfl)) (hw _ (List.mem_of_getElem? (i := 22) rfl)) (hw _ (List.mem_of_getElem? (i := 4) rfl)) (hw _ (List.mem_of_getElem? (i := 24) rfl)) (by decide) e9 A8 at_276 rfl pdD [(.ref a1)] [] rfl rfl rfl 0 rfl (by decide) (by decide) (by decide) (by decide) rfl ?_
      rintro _ T10 _ X10 ⟨r10, rfl, D_r10, rfl, e10⟩
      rw [List.append_nil] at X10
      show Go p.tables e below _ T10 (mkF m 279 #[.val (.int p0), .val (.int p1), .val (.int p2), .val (.int p3), .val (.int p4), .val (.int (0 : Int32)), .val (.int i2), .val (.int zs), .val (.int i3), .val (.int i4), .val (.int i5), .val (.long j6), .second, .val (.long j7), .second, .val (.long j8), .second, .val (.long j9), .second, .val (.long j10), .second, .val (.long j11), .second, .val (.long j12), .second, .val (.ref a1), .val (.ref a6), .val (.ref a7), .val (.ref a8), .unset, .unset, .unset, .unset, .unset] [(.double r10)])
      refine g_dstore C X10 (pc' := 281) at_279 (x := r10) rfl (l' := #[.val (.int p0), .val (.int p1), .val (.int p2), .val (.int p3), .val (.int p4), .val (.int (0 : Int32)), .val (.int i2), .val (.int zs), .val (.int i3), .val (.int i4), .val (.int i5), .val (.long j6), .second, .val (.long j7), .second, .val (.long j8), .second, .val (.long j9), .second, .val (.long j10), .second, .val (.long j11), .second, .val (.long j12), .second, .val (.ref a1), .val (.ref a6), .val (.ref a7), .val (.ref a8), .val (.double r10), .second, .unset, .unset, .unset]) rfl rfl ?_
      refine g_lconst C X10 (pc' := 282) at_281 (v := (0 : Int64)) (by decide) rfl ?_
      refine g_lstore C X10 (pc' := 284) at_282 (x := (0 : Int64)) rfl (l' := #[.val (.int p0), .val (.int p1), .val (.int p2), .val (.int p3), .val (.int p4), .val (.int (0 : Int32)), .val (.int i2), .val (.int zs), .val (.int i3), .val (.int i4), .val (.int i5), .val (.long j6), .second, .val (.long j7), .second, .val (.long j8), .second, .val (.long j9), .second, .val (.long j10), .second, .val (.long j11), .second, .val (.long j12), .second, .val (.ref a1), .val (.ref a6), .val (.ref a7), .val (.ref a8), .val (.double r10), .second, .val (.long (0 : Int64)), .second, .unset]) rfl rfl ?_
      refine g_iload C X10 (pc' := 286) at_284 rfl rfl ?_
      refine g_iconst C X10 (pc' := 287) at_286 (v := (1 : Int32)) (by decide) rfl ?_
      refine g_icmpY C X10 at_287 (pc' := 311) (by decide) (by decide) (by decide) ?_
      refine g_iload C X10 (pc' := 313) at_311 rfl rfl ?_
      refine g_iconst C X10 (pc' := 314) at_313 (v := (2 : Int32)) (by decide) rfl ?_
      refine g_icmpY C X10 at_314 (pc' := 338) (by decide) (by decide) (by decide) ?_
      refine g_iload C X10 (pc' := 340) at_338 rfl rfl ?_
      refine g_iconst C X10 (pc' := 341) at_340 (v := (3 : Int32)) (by decide) rfl ?_
      refine g_icmpY C X10 at_341 (pc' := 365) (by decide) (by decide) (by decide) ?_
      refine g_aload C X10 (pc' := 367) at_365 rfl rfl rfl ?_
      refine g_iconst C X10 (pc' := 368) at_367 (v := (0 : Int32)) (by decide) rfl ?_
      refine g_daload C X10 (pc' := 369) e10 A1 (by decide) (by decide) 0 (by decide) rfl at_368 rfl ?_
      refine g_lload C X10 (pc' := 371) at_369 rfl rfl ?_
      refine g_l2d C X10 (pc' := 372) at_371 rfl ?_
      refine g_dcmpV C X10 at_372 (v := (0 : Int32)) ((dcmp_cmpI (l2d_D (x := j9) (by show _ ≤ 9007199254740992; omega)) (l2d_D (x := j9) (by show _ ≤ 9007199254740992; omega)) _).trans (cmpI_self _)) rfl ?_
      refine g_ifN C X10 at_373 (by decide) rfl ?_
      refine g_aload C X10 (pc' := 378) at_376 rfl rfl rfl ?_
      refine g_iconst C X10 (pc' := 379) at_378 (v := (1 : Int32)) (by decide) rfl ?_
      refine g_daload C X10 (pc' := 380) e10 A1 (by decide) (by decide) 1 (by decide) rfl at_379 rfl ?_
      refine g_lload C X10 (pc' := 382) at_380 rfl rfl ?_
      refine g_l2d C X10 (pc' := 383) at_382 rfl ?_
      refine g_dcmpV C X10 at_383 (v := (0 : Int32)) ((dcmp_cmpI (l2d_D (x := j10) (by show _ ≤ 9007199254740992; omega)) (l2d_D (x := j10) (by show _ ≤ 9007199254740992; omega)) _).trans (cmpI_self _)) rfl ?_
      refine g_ifN C X10 at_384 (by decide) rfl ?_
      refine g_aload C X10 (pc' := 389) at_387 rfl rfl rfl ?_
      refine g_iconst C X10 (pc' := 390) at_389 (v := (2 : Int32)) (by decide) rfl ?_
      refine g_daload C X10 (pc' := 391) e10 A1 (by decide) (by decide) 2 (by decide) rfl at_390 rfl ?_
      refine g_lload C X10 (pc' := 393) at_391 rfl rfl ?_
      refine g_l2d C X10 (pc' := 394) at_393 rfl ?_
      refine g_dcmpV C X10 at_394 (v := (0 : Int32)) ((dcmp_cmpI (l2d_D (x := j11) (by show _ ≤ 9007199254740992; omega)) (l2d_D (x := j11) (by show _ ≤ 9007199254740992; omega)) _).trans (cmpI_self _)) rfl ?_
      refine g_ifN C X10 at_395 (by decide) rfl ?_
      refine g_aload C X10 (pc' := 400) at_398 rfl rfl rfl ?_
      refine g_iconst C X10 (pc' := 401) at_400 (v := (3 : Int32)) (by decide) rfl ?_
      refine g_daload C X10 (pc' := 402) e10 A1 (by decide) (by decide) 3 (by decide) rfl at_401 rfl ?_
      refine g_lload C X10 (pc' := 404) at_402 rfl rfl ?_
      refine g_l2d C X10 (pc' := 405) at_404 rfl ?_
      refine g_dcmpV C X10 at_405 (v := (0 : Int32)) ((dcmp_cmpI (l2d_D (x := j12) (by show _ ≤ 9007199254740992; omega)) (l2d_D (x := j12) (by show _ ≤ 9007199254740992; omega)) _).trans (cmpI_self _)) rfl ?_
      refine g_ifN C X10 at_406 (by decide) rfl ?_
      refine g_iconst C X10 (pc' := 410) at_409 (v := (1 : Int32)) (by decide) rfl ?_
      refine g_goto C X10 at_410 (pc' := 414) (by decide) (by decide) ?_
      refine g_istore C X10 (pc' := 416) at_414 (x := (1 : Int32)) rfl (l' := #[.val (.int p0), .val (.int p1), .val (.int p2), .val (.int p3), .val (.int p4), .val (.int (0 : Int32)), .val (.int i2), .val (.int zs), .val (.int i3), .val (.int i4), .val (.int i5), .val (.long j6), .second, .val (.long j7), .second, .val (.long j8), .second, .val (.long j9), .second, .val (.long j10), .second, .val (.long j11), .second, .val (.long j12), .second, .val (.ref a1), .val (.ref a6), .val (.ref a7), .val (.ref a8), .val (.double r10), .second, .val (.long (0 : Int64)), .second, .val (.int (1 : Int32))]) rfl rfl ?_
      refine g_dload C X10 (pc' := 418) at_416 rfl rfl ?_
      refine g_lload C X10 (pc' := 420) at_418 rfl rfl ?_
      refine g_l2d C X10 (pc' := 421) at_420 rfl ?_
      refine g_dcmpV C X10 at_421 (v := (0 : Int32)) ((dcmp_cmpI D_r10 (l2d_D (x := (0 : Int64)) (by decide)) _).trans (cmpI_self _)) rfl ?_
      refine g_ifN C X10 at_422 (by decide) rfl ?_
      refine g_iload C X10 (pc' := 427) at_425 rfl rfl ?_
      refine g_ifN C X10 at_427 (by decide) rfl ?_
      refine g_iconst C X10 (pc' := 431) at_430 (v := (1 : Int32)) (by decide) rfl ?_
      refine g_goto C X10 at_431 (pc' := 435) (by decide) (by decide) ?_
      exact g_zreturn C X10 at_435 (w := 1) (by decide) ⟨rfl, N9⟩ (by decide) (by decide)
    · show Go p.tables e below _ T0 (mkF m 98 #[.val (.int p0), .val (.int p1), .val (.int p2), .val (.int p3), .val (.int p4), .val (.int (1 : Int32)), .val (.int i2), .val (.int zs), .val (.int i3), .val (.int i4), .val (.int i5), .val (.long j6), .second, .val (.long j7), .second, .val (.long j8), .second, .val (.long j9), .second, .val (.long j10), .second, .val (.long j11), .second, .val (.long j12), .second, .unset, .unset, .unset, .unset, .unset, .unset, .unset, .unset, .unset] [])
      refine g_iconst C X0 (pc' := 99) at_98 (v := (4 : Int32)) (by decide) rfl ?_
      refine g_newP C X0 (aty := .double) (hw _ (List.mem_of_getElem? (i := 0) rfl)) e0 at_99 (by decide) 4 (by decide) (by decide) (by decide) (by decide) rfl ?_
      intro T11 h11 a11 k11 g11 X11 e11 E11 A11
      have z_a11 : n0 ≤ a11 := by rw [g11]; exact Z0
      have Z11 : n0 ≤ h11.size := Nat.le_trans Z0 E11.1
      have A11 : Arv Z h11 a11 k11 .double (4 : Int32) [] (.double (0 : UInt64)) := A11
      refine g_dup C X11 (pc' := 102) at_101 rfl rfl ?_
      refine g_iconst C X11 (pc' := 103) at_102 (v := (0 : Int32)) (by decide) rfl ?_
      refine g_lload C X11 (pc' := 105) at_103 rfl rfl ?_
      refine g_l2d C X11 (pc' := 106) at_105 rfl ?_
      refine g_dastore C X11 (pc' := 107) e11 A11 (by decide) (by decide) 0 1 (by decide) (of_decide_eq_true rfl) at_106 rfl ?_
      intro T12 h12 X12 e12 W12 Aq
      have Z12 : n0 ≤ h12.size := by rw [W12.size]; exact Z11
      have N12 := Fr.snoc X12 (Fr.nil n0) z_a11
      have A11 : Arv Z h12 a11 k11 .double (4 : Int32) [(.double (FP.l2d j9))] (.double (0 : UInt64)) := Aq
      refine g_dup C X12 (pc' := 108) at_107 rfl rfl ?_
      refine g_iconst C X12 (pc' := 109) at_108 (v := (1 : Int32)) (by decide) rfl ?_
      refine g_lload C X12 (pc' := 111) at_109 rfl rfl ?_
      refine g_l2d C X12 (pc' := 112) at_111 rfl ?_
      refine g_dastore C X12 (pc' := 113) e12 A11 (by decide) (by decide) 1 1 (by decide) (of_decide_eq_true rfl) at_112 rfl ?_
      intro T13 h13 X13 e13 W13 Aq
      have Z13 : n0 ≤ h13.size := by rw [W13.size]; exact Z12
      have N13 := Fr.snoc X13 N12 z_a11
      have A11 : Arv Z h13 a11 k11 .double (4 : Int32) [(.double (FP.l2d j9)), (.double (FP.l2d j10))] (.double (0 : UInt64)) := Aq
      refine g_dup C X13 (pc' := 114) at_113 rfl rfl ?_
      refine g_iconst C X13 (pc' := 115) at_114 (v := (2 : Int32)) (by decide) rfl ?_
      refine g_lload C X13 (pc' := 117) at_115 rfl rfl ?_
      refine g_l2d C X13 (pc' := 118) at_117 rfl ?_
      refine g_dastore C X13 (pc' := 119) e13 A11 (by decide) (by decide) 2 1 (by decide) (of_decide_eq_true rfl) at_118 rfl ?_
      intro T14 h14 X14 e14 W14 Aq
      have Z14 : n0 ≤ h14.size := by rw [W14.size]; exact Z13
      have N14 := Fr.snoc X14 N13 z_a11
      have A11 : Arv Z h14 a11 k11 .double (4 : Int32) [(.double (FP.l2d j9)), (.double (FP.l2d j10)), (.double (FP.l2d j11))] (.double (0 : UInt64)) := Aq
      refine g_dup C X14 (pc' := 120) at_119 rfl rfl ?_
      refine g_iconst C X14 (pc' := 121) at_120 (v := (3 : Int32)) (by decide) rfl ?_
      refine g_lload C X14 (pc' := 123) at_121 rfl rfl ?_
      refine g_l2d C X14 (pc' := 124) at_123 rfl ?_
      refine g_dastore C X14 (pc' := 125) e14 A11 (by decide) (by decide) 3 1 (by decide) (of_decide_eq_true rfl) at_124 rfl ?_
      intro T15 h15 X15 e15 W15 Aq
      have Z15 : n0 ≤ h15.size := by rw [W15.size]; exact Z14
      have N15 := Fr.snoc X15 N14 z_a11
      have A11 : Arv Z h15 a11 k11 .double (4 : Int32) [(.double (FP.l2d j9)), (.double (FP.l2d j10)), (.double (FP.l2d j11)), (.double (FP.l2d j12))] (.double (0 : UInt64)) := Aq
      refine g_astore C X15 (pc' := 127) at_125 rfl (l' := #[.val (.int p0), .val (.int p1), .val (.int p2), .val (.int p3), .val (.int p4), .val (.int (1 : Int32)), .val (.int i2), .val (.int zs), .val (.int i3), .val (.int i4), .val (.int i5), .val (.long j6), .second, .val (.long j7), .second, .val (.long j8), .second, .val (.long j9), .second, .val (.long j10), .second, .val (.long j11), .second, .val (.long j12), .second, .val (.ref a11), .unset, .unset, .unset, .unset, .unset, .unset, .unset, .unset]) rfl rfl ?_
      refine g_iload C X15 (pc' := 129) at_127 rfl rfl ?_
      refine g_ifY C X15 at_129 (pc' := 145) (by decide) (by decide) (by decide) ?_
      refine g_iload C X15 (pc' := 147) at_145 rfl rfl ?_
      refine g_iconst C X15 (pc' := 148) at_147 (v := (1 : Int32)) (by decide) rfl ?_
      refine g_icmpN C X15 at_148 (by decide) rfl ?_
      refine g_iconst C X15 (pc' := 152) at_151 (v := (1 : Int32)) (by decide) rfl ?_
      refine g_newP C X15 (aty := .int) (hw _ (List.mem_of_getElem? (i := 1) rfl)) e15 at_152 (by decide) 1 (by decide) (by decide) (by decide) (by decide) rfl ?_
      intro T16 h16 a16 k16 g16 X16 e16 E16 A16
      have ne_a11_a16 : a11 ≠ a16 := Nat.ne_of_lt (by rw [g16]; exact A11.lt)
      have z_a16 : n0 ≤ a16 := by rw [g16]; exact Z15
      have A11 := A11.ext E16
      have Z16 : n0 ≤ h16.size := Nat.le_trans Z15 E16.1
      have A16 : Arv Z h16 a16 k16 .int (1 : Int32) [] (.int (0 : Int32)) := A16
      refine g_dup C X16 (pc' := 155) at_154 rfl rfl ?_
      refine g_iconst C X16 (pc' := 156) at_155 (v := (0 : Int32)) (by decide) rfl ?_
      refine g_iload C X16 (pc' := 158) at_156 rfl rfl ?_
      refine g_iastore C X16 (pc' := 159) e16 A16 (by decide) (by decide) 0 1 (by decide) (of_decide_eq_true rfl) at_158 rfl ?_
      intro T17 h17 X17 e17 W17 Aq
      have A11 := A11.other W17 ne_a11_a16
      have Z17 : n0 ≤ h17.size := by rw [W17.size]; exact Z16
      have N17 := Fr.snoc X17 N15 z_a16
      have A16 : Arv Z h17 a16 k16 .int (1 : Int32) [(.int i3)] (.int (0 : Int32)) := Aq
      refine g_astore C X17 (pc' := 161) at_159 rfl (l' := #[.val (.int p0), .val (.int p1), .val (.int p2), .val (.int p3), .val (.int p4), .val (.int (1 : Int32)), .val (.int i2), .val (.int zs), .val (.int i3), .val (.int i4), .val (.int i5), .val (.long j6), .second, .val (.long j7), .second, .val (.long j8), .second, .val (.long j9), .second, .val (.long j10), .second, .val (.long j11), .second, .val (.long j12), .second, .val (.ref a11), .val (.ref a16), .unset, .unset, .unset, .unset, .unset, .unset, .unset]) rfl rfl ?_
      refine g_iconst C X17 (pc' := 162) at_161 (v := (1 : Int32)) (by decide) rfl ?_
      refine g_newP C X17 (aty := .double) (hw _ (List.mem_of_getElem? (i := 0) rfl)) e17 at_162 (by decide) 1 (by decide) (by decide) (by decide) (by decide) rfl ?_
      intro T18 h18 a18 k18 g18 X18 e18 E18 A18
      have ne_a11_a18 : a11 ≠ a18 := Nat.ne_of_lt (by rw [g18]; exact A11.lt)
      have ne_a16_a18 : a16 ≠ a18 := Nat.ne_of_lt (by rw [g18]; exact A16.lt)
      have z_a18 : n0 ≤ a18 := by rw [g18]; exact Z17
      have A11 := A11.ext E18
      have A16 := A16.ext E18
      have Z18 : n0 ≤ h18.size := Nat.le_trans Z17 E18.1
      have A18 : Arv Z h18 a18 k18 .double (1 : Int32) [] (.double (0 : UInt64)) := A18
      refine g_dup C X18 (pc' := 165) at_164 rfl rfl ?_
      refine g_iconst C X18 (pc' := 166) at_165 (v := (0 : Int32)) (by decide) rfl ?_
      refine g_lload C X18 (pc' := 168) at_166 rfl rfl ?_
      refine g_l2d C X18 (pc' := 169) at_168 rfl ?_
      refine g_dastore C X18 (pc' := 170) e18 A18 (by decide) (by decide) 0 1 (by decide) (of_decide_eq_true rfl) at_169 rfl ?_
      intro T19 h19 X19 e19 W19 Aq
      have A11 := A11.other W19 ne_a11_a18
      have A16 := A16.other W19 ne_a16_a18
      have Z19 : n0 ≤ h19.size := by rw [W19.size]; exact Z18
      have N19 := Fr.snoc X19 N17 z_a18
      have A18 : Arv Z h19 a18 k18 .double (1 : Int32) [(.double (FP.l2d j6))] (.double (0 : UInt64)) := Aq
      refine g_astore C X19 (pc' := 172) at_170 rfl (l' := #[.val (.int p0), .val (.int p1), .val (.int p2), .val (.int p3), .val (.int p4), .val (.int (1 : Int32)), .val (.int i2), .val (.int zs), .val (.int i3), .val (.int i4), .val (.int i5), .val (.long j6), .second, .val (.long j7), .second, .val (.long j8), .second, .val (.long j9), .second, .val (.long j10), .second, .val (.long j11), .second, .val (.long j12), .second, .val (.ref a11), .val (.ref a16), .val (.ref a18), .unset, .unset, .unset, .unset, .unset, .unset]) rfl rfl ?_
      refine g_goto C X19 at_172 (pc' := 259) (by decide) (by decide) ?_
      refine g_new C X19 (hw _ (List.mem_of_getElem? (i := 2) rfl)) (hw _ (List.mem_of_getElem? (i := 3) rfl)) (hw _ (List.mem_of_getElem? (i := 4) rfl)) e19 at_259 (by decide) (by decide) rfl ?_
      intro T20 h20 a20 g20 X20 e20 E20 A20 D20
      have ne_a11_a20 : a11 ≠ a20 := Nat.ne_of_lt (by rw [g20]; exact A11.lt)
      have ne_a16_a20 : a16 ≠ a20 := Nat.ne_of_lt (by rw [g20]; exact A16.lt)
      have ne_a18_a20 : a18 ≠ a20 := Nat.ne_of_lt (by rw [g20]; exact A18.lt)
      have z_a20 : n0 ≤ a20 := by rw [g20]; exact Z19
      have A11 := A11.ext E20
      have A16 := A16.ext E20
      have A18 := A18.ext E20
      have Z20 : n0 ≤ h20.size := Nat.le_trans Z19 E20.1
      refine g_dup C X20 (pc' := 263) at_262 rfl rfl ?_
      refine g_aload C X20 (pc' := 265) at_263 rfl rfl rfl ?_
      refine g_aload C X20 (pc' := 267) at_265 rfl rfl rfl ?_
      have F20_terms : ∃ w, Fld Z h20 a20 "com/example/kenning/kenning/retrieval/KMeans$Vector" "terms" "[I" w := ⟨_, D20 (Or.inr (hw _ (List.mem_of_getElem? (i := 17) rfl))) (ty := (.array .int)) (by decide)⟩
      have F20_weights : ∃ w, Fld Z h20 a20 "com/example/kenning/kenning/retrieval/KMeans$Vector" "weights" "[D" w := ⟨_, D20 (Or.inr (hw _ (List.mem_of_getElem? (i := 19) rfl))) (ty := (.array .double)) (by decide)⟩
      refine g_callI C X20 (c_init l Z a0 hw h20 n0 Z20 a20 z_a20 a16 a18 A20 F20_terms F20_weights) rfl (hw _ (List.mem_of_getElem? (i := 5) rfl)) (hw _ (List.mem_of_getElem? (i := 6) rfl)) (hw _ (List.mem_of_getElem? (i := 4) rfl)) (hw _ (List.mem_of_getElem? (i := 7) rfl)) (by decide) e20 at_267 rfl pdI a20 [(.ref a16), (.ref a18)] [(.ref a20)] rfl rfl rfl 1 rfl (by decide) (by decide) (by decide) (by decide) rfl ?_
      rintro _ T21 L21 X21 ⟨rfl, M21, K21, Aq, Ft21, Fw21⟩
      have A11 := A11.keep K21 (ninS ne_a11_a20 nin0)
      have A16 := A16.keep K21 (ninS ne_a16_a20 nin0)
      have A18 := A18.keep K21 (ninS ne_a18_a20 nin0)
      have A20 := A20.keep K21
      have Z21 : n0 ≤ T21.heap.size := Nat.le_trans Z20 K21.1
      have N21 := Fr.app N19 M21
      obtain ⟨h21, e21⟩ : ∃ z, T21.heap = z := ⟨_, rfl⟩
      rw [e21] at A11 A16 A18 A20 Ft21 Fw21 Z21
      show Go p.tables e below _ T21 (mkF m 270 #[.val (.int p0), .val (.int p1), .val (.int p2), .val (.int p3), .val (.int p4), .val (.int (1 : Int32)), .val (.int i2), .val (.int zs), .val (.int i3), .val (.int i4), .val (.int i5), .val (.long j6), .second, .val (.long j7), .second, .val (.long j8), .second, .val (.long j9), .second, .val (.long j10), .second, .val (.long j11), .second, .val (.long j12), .second, .val (.ref a11), .val (.ref a16), .val (.ref a18), .unset, .unset, .unset, .unset, .unset, .unset] [(.ref a20)])
      refine g_astore C X21 (pc' := 272) at_270 rfl (l' := #[.val (.int p0), .val (.int p1), .val (.int p2), .val (.int p3), .val (.int p4), .val (.int (1 : Int32)), .val (.int i2), .val (.int zs), .val (.int i3), .val (.int i4), .val (.int i5), .val (.long j6), .second, .val (.long j7), .second, .val (.long j8), .second, .val (.long j9), .second, .val (.long j10), .second, .val (.long j11), .second, .val (.long j12), .second, .val (.ref a11), .val (.ref a16), .val (.ref a18), .val (.ref a20), .unset, .unset, .unset, .unset, .unset]) rfl rfl ?_
      refine g_aload C X21 (pc' := 274) at_272 rfl rfl rfl ?_
      refine g_aload C X21 (pc' := 276) at_274 rfl rfl rfl ?_
      have ra0 := own_atr i3 bd0 bd1 bd2 bd3
      refine g_callV C X21 (c_dot1 l Z a0 hw h21 a20 a11 a16 a18 k16 k18 k11 (FP.l2d j9) (FP.l2d j10) (FP.l2d j11) (FP.l2d j12) i3 (FP.l2d j6) (FP.l2d (own_at i3 j9 j10 j11 j12)) _ _ (l2d_D (x := j6) (by show _ ≤ 9007199254740992; omega)) (l2d_D (by show _ ≤ 9007199254740992; omega)) bt0 (own_get i3 j9 j10 j11 j12 bt0) bw0 ra0 Ft21 Fw21 A16 A18 A11) (hw _ (List.mem_of_getElem? (i := 20) rfl)) (hw _ (List.mem_of_getElem? (i := 21) rfl)) (hw _ (List.mem_of_getElem? (i := 23) rfl)) (hw _ (List.mem_of_getElem? (i := 22) rfl)) (hw _ (List.mem_of_getElem? (i := 4) rfl)) (hw _ (List.mem_of_getElem? (i := 24) rfl)) (by decide) e21 A20 at_276 rfl pdD [(.ref a11)] [] rfl rfl rfl 0 rfl (by decide) (by decide) (by decide) (by decide) rfl ?_
      rintro _ T22 _ X22 ⟨r22, rfl, D_r22, rfl, e22⟩
      rw [List.append_nil] at X22
      show Go p.tables e below _ T22 (mkF m 279 #[.val (.int p0), .val (.int p1), .val (.int p2), .val (.int p3), .val (.int p4), .val (.int (1 : Int32)), .val (.int i2), .val (.int zs), .val (.int i3), .val (.int i4), .val (.int i5), .val (.long j6), .second, .val (.long j7), .second, .val (.long j8), .second, .val (.long j9), .second, .val (.long j10), .second, .val (.long j11), .second, .val (.long j12), .second, .val (.ref a11), .val (.ref a16), .val (.ref a18), .val (.ref a20), .unset, .unset, .unset, .unset, .unset] [(.double r22)])
      refine g_dstore C X22 (pc' := 281) at_279 (x := r22) rfl (l' := #[.val (.int p0), .val (.int p1), .val (.int p2), .val (.int p3), .val (.int p4), .val (.int (1 : Int32)), .val (.int i2), .val (.int zs), .val (.int i3), .val (.int i4), .val (.int i5), .val (.long j6), .second, .val (.long j7), .second, .val (.long j8), .second, .val (.long j9), .second, .val (.long j10), .second, .val (.long j11), .second, .val (.long j12), .second, .val (.ref a11), .val (.ref a16), .val (.ref a18), .val (.ref a20), .val (.double r22), .second, .unset, .unset, .unset]) rfl rfl ?_
      refine g_lconst C X22 (pc' := 282) at_281 (v := (0 : Int64)) (by decide) rfl ?_
      refine g_lstore C X22 (pc' := 284) at_282 (x := (0 : Int64)) rfl (l' := #[.val (.int p0), .val (.int p1), .val (.int p2), .val (.int p3), .val (.int p4), .val (.int (1 : Int32)), .val (.int i2), .val (.int zs), .val (.int i3), .val (.int i4), .val (.int i5), .val (.long j6), .second, .val (.long j7), .second, .val (.long j8), .second, .val (.long j9), .second, .val (.long j10), .second, .val (.long j11), .second, .val (.long j12), .second, .val (.ref a11), .val (.ref a16), .val (.ref a18), .val (.ref a20), .val (.double r22), .second, .val (.long (0 : Int64)), .second, .unset]) rfl rfl ?_
      refine g_iload C X22 (pc' := 286) at_284 rfl rfl ?_
      refine g_iconst C X22 (pc' := 287) at_286 (v := (1 : Int32)) (by decide) rfl ?_
      refine g_icmpN C X22 at_287 (by decide) rfl ?_
      refine g_lload C X22 (pc' := 292) at_290 rfl rfl ?_
      refine g_lload C X22 (pc' := 294) at_292 rfl rfl ?_
      refine g_iload C X22 (pc' := 296) at_294 rfl rfl ?_
      refine g_lload C X22 (pc' := 298) at_296 rfl rfl ?_
      refine g_lload C X22 (pc' := 300) at_298 rfl rfl ?_
      refine g_lload C X22 (pc' := 302) at_300 rfl rfl ?_
      refine g_lload C X22 (pc' := 304) at_302 rfl rfl ?_
      refine g_callS C X22 (c_at l Z h21 i3 j9 j10 j11 j12) (hw _ (List.mem_of_getElem? (i := 25) rfl)) (hw _ (List.mem_of_getElem? (i := 26) rfl)) (hw _ (List.mem_of_getElem? (i := 27) rfl)) (hw _ (List.mem_of_getElem? (i := 28) rfl)) (by decide) e22 at_304 rfl pdA [(.int i3), (.long j9), (.long j10), (.long j11), (.long j12)] [(.long j6), (.long (0 : Int64))] rfl rfl rfl 4 rfl (by decide) (by decide) (by decide) (by decide) rfl ?_
      rintro _ T23 _ X23 ⟨rfl, rfl, e23⟩
      rw [List.append_nil] at X23
      show Go p.tables e below _ T23 (mkF m 307 #[.val (.int p0), .val (.int p1), .val (.int p2), .val (.int p3), .val (.int p4), .val (.int (1 : Int32)), .val (.int i2), .val (.int zs), .val (.int i3), .val (.int i4), .val (.int i5), .val (.long j6), .second, .val (.long j7), .second, .val (.long j8), .second, .val (.long j9), .second, .val (.long j10), .second, .val (.long j11), .second, .val (.long j12), .second, .val (.ref a11), .val (.ref a16), .val (.ref a18), .val (.ref a20), .val (.double r22), .second, .val (.long (0 : Int64)), .second, .unset] [(.long (own_at i3 j9 j10 j11 j12)), (.long j6), (.long (0 : Int64))])
      refine g_lmul C X23 (pc' := 308) at_307 rfl ?_
      refine g_ladd C X23 (pc' := 309) at_308 rfl ?_
      obtain ⟨j13, e_j13⟩ : ∃ z : Int64, z = (0 : Int64) + (j6 * (own_at i3 j9 j10 j11 j12)) := ⟨_, rfl⟩
      refine g_lstore C X23 (pc' := 311) at_309 (x := j13) e_j13 (l' := #[.val (.int p0), .val (.int p1), .val (.int p2), .val (.int p3), .val (.int p4), .val (.int (1 : Int32)), .val (.int i2), .val (.int zs), .val (.int i3), .val (.int i4), .val (.int i5), .val (.long j6), .second, .val (.long j7), .second, .val (.long j8), .second, .val (.long j9), .second, .val (.long j10), .second, .val (.long j11), .second, .val (.long j12), .second, .val (.ref a11), .val (.ref a16), .val (.ref a18), .val (.ref a20), .val (.double r22), .second, .val (.long j13), .second, .unset]) rfl rfl ?_
      refine g_iload C X23 (pc' := 313) at_311 rfl rfl ?_
      refine g_iconst C X23 (pc' := 314) at_313 (v := (2 : Int32)) (by decide) rfl ?_
      refine g_icmpY C X23 at_314 (pc' := 338) (by decide) (by decide) (by decide) ?_
      refine g_iload C X23 (pc' := 340) at_338 rfl rfl ?_
      refine g_iconst C X23 (pc' := 341) at_340 (v := (3 : Int32)) (by decide) rfl ?_
      refine g_icmpY C X23 at_341 (pc' := 365) (by decide) (by decide) (by decide) ?_
      refine g_aload C X23 (pc' := 367) at_365 rfl rfl rfl ?_
      refine g_iconst C X23 (pc' := 368) at_367 (v := (0 : Int32)) (by decide) rfl ?_
      refine g_daload C X23 (pc' := 369) e23 A11 (by decide) (by decide) 0 (by decide) rfl at_368 rfl ?_
      refine g_lload C X23 (pc' := 371) at_369 rfl rfl ?_
      refine g_l2d C X23 (pc' := 372) at_371 rfl ?_
      refine g_dcmpV C X23 at_372 (v := (0 : Int32)) ((dcmp_cmpI (l2d_D (x := j9) (by show _ ≤ 9007199254740992; omega)) (l2d_D (x := j9) (by show _ ≤ 9007199254740992; omega)) _).trans (cmpI_self _)) rfl ?_
      refine g_ifN C X23 at_373 (by decide) rfl ?_
      refine g_aload C X23 (pc' := 378) at_376 rfl rfl rfl ?_
      refine g_iconst C X23 (pc' := 379) at_378 (v := (1 : Int32)) (by decide) rfl ?_
      refine g_daload C X23 (pc' := 380) e23 A11 (by decide) (by decide) 1 (by decide) rfl at_379 rfl ?_
      refine g_lload C X23 (pc' := 382) at_380 rfl rfl ?_
      refine g_l2d C X23 (pc' := 383) at_382 rfl ?_
      refine g_dcmpV C X23 at_383 (v := (0 : Int32)) ((dcmp_cmpI (l2d_D (x := j10) (by show _ ≤ 9007199254740992; omega)) (l2d_D (x := j10) (by show _ ≤ 9007199254740992; omega)) _).trans (cmpI_self _)) rfl ?_
      refine g_ifN C X23 at_384 (by decide) rfl ?_
      refine g_aload C X23 (pc' := 389) at_387 rfl rfl rfl ?_
      refine g_iconst C X23 (pc' := 390) at_389 (v := (2 : Int32)) (by decide) rfl ?_
      refine g_daload C X23 (pc' := 391) e23 A11 (by decide) (by decide) 2 (by decide) rfl at_390 rfl ?_
      refine g_lload C X23 (pc' := 393) at_391 rfl rfl ?_
      refine g_l2d C X23 (pc' := 394) at_393 rfl ?_
      refine g_dcmpV C X23 at_394 (v := (0 : Int32)) ((dcmp_cmpI (l2d_D (x := j11) (by show _ ≤ 9007199254740992; omega)) (l2d_D (x := j11) (by show _ ≤ 9007199254740992; omega)) _).trans (cmpI_self _)) rfl ?_
      refine g_ifN C X23 at_395 (by decide) rfl ?_
      refine g_aload C X23 (pc' := 400) at_398 rfl rfl rfl ?_
      refine g_iconst C X23 (pc' := 401) at_400 (v := (3 : Int32)) (by decide) rfl ?_
      refine g_daload C X23 (pc' := 402) e23 A11 (by decide) (by decide) 3 (by decide) rfl at_401 rfl ?_
      refine g_lload C X23 (pc' := 404) at_402 rfl rfl ?_
      refine g_l2d C X23 (pc' := 405) at_404 rfl ?_
      refine g_dcmpV C X23 at_405 (v := (0 : Int32)) ((dcmp_cmpI (l2d_D (x := j12) (by show _ ≤ 9007199254740992; omega)) (l2d_D (x := j12) (by show _ ≤ 9007199254740992; omega)) _).trans (cmpI_self _)) rfl ?_
      refine g_ifN C X23 at_406 (by decide) rfl ?_
      refine g_iconst C X23 (pc' := 410) at_409 (v := (1 : Int32)) (by decide) rfl ?_
      refine g_goto C X23 at_410 (pc' := 414) (by decide) (by decide) ?_
      refine g_istore C X23 (pc' := 416) at_414 (x := (1 : Int32)) rfl (l' := #[.val (.int p0), .val (.int p1), .val (.int p2), .val (.int p3), .val (.int p4), .val (.int (1 : Int32)), .val (.int i2), .val (.int zs), .val (.int i3), .val (.int i4), .val (.int i5), .val (.long j6), .second, .val (.long j7), .second, .val (.long j8), .second, .val (.long j9), .second, .val (.long j10), .second, .val (.long j11), .second, .val (.long j12), .second, .val (.ref a11), .val (.ref a16), .val (.ref a18), .val (.ref a20), .val (.double r22), .second, .val (.long j13), .second, .val (.int (1 : Int32))]) rfl rfl ?_
      refine g_dload C X23 (pc' := 418) at_416 rfl rfl ?_
      refine g_lload C X23 (pc' := 420) at_418 rfl rfl ?_
      have ek15 : (0 : Int64).toInt = 0 := by decide
      have rk15 : 0 ≤ (0 : Int) ∧ (0 : Int) ≤ 0 := by decide
      have rm16 : -1073741824 ≤ j6.toInt * ((own_at i3 j9 j10 j11 j12).toInt) ∧ j6.toInt * ((own_at i3 j9 j10 j11 j12).toInt) ≤ 1073741824 := own_m (X := 32768) (Y := 32768) (by omega) (by omega) (by omega) (by omega)
      have em16 : (j6 * (own_at i3 j9 j10 j11 j12)).toInt = j6.toInt * ((own_at i3 j9 j10 j11 j12).toInt) := by rw [own_mul (by rw [(rfl : j6.toInt = j6.toInt), (rfl : (own_at i3 j9 j10 j11 j12).toInt = (own_at i3 j9 j10 j11 j12).toInt)]; omega) (by rw [(rfl : j6.toInt = j6.toInt), (rfl : (own_at i3 j9 j10 j11 j12).toInt = (own_at i3 j9 j10 j11 j12).toInt)]; omega), (rfl : j6.toInt = j6.toInt), (rfl : (own_at i3 j9 j10 j11 j12).toInt = (own_at i3 j9 j10 j11 j12).toInt)]
      have em14 : ((0 : Int64) + (j6 * (own_at i3 j9 j10 j11 j12))).toInt = 0 + (j6.toInt * ((own_at i3 j9 j10 j11 j12).toInt)) := by rw [own_add (by rw [ek15, em16]; omega) (by rw [ek15, em16]; omega), ek15, em16]
      have rm14 : -1073741824 ≤ 0 + (j6.toInt * ((own_at i3 j9 j10 j11 j12).toInt)) ∧ 0 + (j6.toInt * ((own_at i3 j9 j10 j11 j12).toInt)) ≤ 1073741824 := by omega
      have ev_j13 : j13.toInt = 0 + (j6.toInt * ((own_at i3 j9 j10 j11 j12).toInt)) := by rw [e_j13]; exact em14
      refine g_l2d C X23 (pc' := 421) at_420 rfl ?_
      refine g_dcmpV C X23 (pc' := 422) at_421 (dcmp_cmpI D_r22 (l2d_D (x := j13) (by rw [ev_j13]; show _ ≤ 9007199254740992; omega)) _) rfl ?_
      refine g_if C X23 at_422 (pc' := 434) (pc'' := 425) (by decide) (by decide) rfl (fun c422 => ?_) (fun c422 => ?_)
      · have c422 : ¬ ((cmpI (0 + j6.toInt * (own_at i3 j9 j10 j11 j12).toInt) j13.toInt).toInt = 0) := c422
        have c422 : ¬ (0 + j6.toInt * (own_at i3 j9 j10 j11 j12).toInt = j13.toInt) := fun q => c422 ((cmpI_eq _ _).mpr q)
        refine g_iconst C X23 (pc' := 435) at_434 (v := (0 : Int32)) (by decide) rfl ?_
        exfalso; omega
      · have c422 : (cmpI (0 + j6.toInt * (own_at i3 j9 j10 j11 j12).toInt) j13.toInt).toInt = 0 := Decidable.not_not.mp c422
        have c422 : 0 + j6.toInt * (own_at i3 j9 j10 j11 j12).toInt = j13.toInt := (cmpI_eq _ _).mp c422
        refine g_iload C X23 (pc' := 427) at_425 rfl rfl ?_
        refine g_ifN C X23 at_427 (by decide) rfl ?_
        refine g_iconst C X23 (pc' := 431) at_430 (v := (1 : Int32)) (by decide) rfl ?_
        refine g_goto C X23 at_431 (pc' := 435) (by decide) (by decide) ?_
        exact g_zreturn C X23 at_435 (w := 1) (by decide) ⟨rfl, N21⟩ (by decide) (by decide)
    · show Go p.tables e below _ T0 (mkF m 98 #[.val (.int p0), .val (.int p1), .val (.int p2), .val (.int p3), .val (.int p4), .val (.int (2 : Int32)), .val (.int i2), .val (.int zs), .val (.int i3), .val (.int i4), .val (.int i5), .val (.long j6), .second, .val (.long j7), .second, .val (.long j8), .second, .val (.long j9), .second, .val (.long j10), .second, .val (.long j11), .second, .val (.long j12), .second, .unset, .unset, .unset, .unset, .unset, .unset, .unset, .unset, .unset] [])
      refine g_iconst C X0 (pc' := 99) at_98 (v := (4 : Int32)) (by decide) rfl ?_
      refine g_newP C X0 (aty := .double) (hw _ (List.mem_of_getElem? (i := 0) rfl)) e0 at_99 (by decide) 4 (by decide) (by decide) (by decide) (by decide) rfl ?_
      intro T24 h24 a24 k24 g24 X24 e24 E24 A24
      have z_a24 : n0 ≤ a24 := by rw [g24]; exact Z0
      have Z24 : n0 ≤ h24.size := Nat.le_trans Z0 E24.1
      have A24 : Arv Z h24 a24 k24 .double (4 : Int32) [] (.double (0 : UInt64)) := A24
      refine g_dup C X24 (pc' := 102) at_101 rfl rfl ?_
      refine g_iconst C X24 (pc' := 103) at_102 (v := (0 : Int32)) (by decide) rfl ?_
      refine g_lload C X24 (pc' := 105) at_103 rfl rfl ?_
      refine g_l2d C X24 (pc' := 106) at_105 rfl ?_
      refine g_dastore C X24 (pc' := 107) e24 A24 (by decide) (by decide) 0 1 (by decide) (of_decide_eq_true rfl) at_106 rfl ?_
      intro T25 h25 X25 e25 W25 Aq
      have Z25 : n0 ≤ h25.size := by rw [W25.size]; exact Z24
      have N25 := Fr.snoc X25 (Fr.nil n0) z_a24
      have A24 : Arv Z h25 a24 k24 .double (4 : Int32) [(.double (FP.l2d j9))] (.double (0 : UInt64)) := Aq
      refine g_dup C X25 (pc' := 108) at_107 rfl rfl ?_
      refine g_iconst C X25 (pc' := 109) at_108 (v := (1 : Int32)) (by decide) rfl ?_
      refine g_lload C X25 (pc' := 111) at_109 rfl rfl ?_
      refine g_l2d C X25 (pc' := 112) at_111 rfl ?_
      refine g_dastore C X25 (pc' := 113) e25 A24 (by decide) (by decide) 1 1 (by decide) (of_decide_eq_true rfl) at_112 rfl ?_
      intro T26 h26 X26 e26 W26 Aq
      have Z26 : n0 ≤ h26.size := by rw [W26.size]; exact Z25
      have N26 := Fr.snoc X26 N25 z_a24
      have A24 : Arv Z h26 a24 k24 .double (4 : Int32) [(.double (FP.l2d j9)), (.double (FP.l2d j10))] (.double (0 : UInt64)) := Aq
      refine g_dup C X26 (pc' := 114) at_113 rfl rfl ?_
      refine g_iconst C X26 (pc' := 115) at_114 (v := (2 : Int32)) (by decide) rfl ?_
      refine g_lload C X26 (pc' := 117) at_115 rfl rfl ?_
      refine g_l2d C X26 (pc' := 118) at_117 rfl ?_
      refine g_dastore C X26 (pc' := 119) e26 A24 (by decide) (by decide) 2 1 (by decide) (of_decide_eq_true rfl) at_118 rfl ?_
      intro T27 h27 X27 e27 W27 Aq
      have Z27 : n0 ≤ h27.size := by rw [W27.size]; exact Z26
      have N27 := Fr.snoc X27 N26 z_a24
      have A24 : Arv Z h27 a24 k24 .double (4 : Int32) [(.double (FP.l2d j9)), (.double (FP.l2d j10)), (.double (FP.l2d j11))] (.double (0 : UInt64)) := Aq
      refine g_dup C X27 (pc' := 120) at_119 rfl rfl ?_
      refine g_iconst C X27 (pc' := 121) at_120 (v := (3 : Int32)) (by decide) rfl ?_
      refine g_lload C X27 (pc' := 123) at_121 rfl rfl ?_
      refine g_l2d C X27 (pc' := 124) at_123 rfl ?_
      refine g_dastore C X27 (pc' := 125) e27 A24 (by decide) (by decide) 3 1 (by decide) (of_decide_eq_true rfl) at_124 rfl ?_
      intro T28 h28 X28 e28 W28 Aq
      have Z28 : n0 ≤ h28.size := by rw [W28.size]; exact Z27
      have N28 := Fr.snoc X28 N27 z_a24
      have A24 : Arv Z h28 a24 k24 .double (4 : Int32) [(.double (FP.l2d j9)), (.double (FP.l2d j10)), (.double (FP.l2d j11)), (.double (FP.l2d j12))] (.double (0 : UInt64)) := Aq
      refine g_astore C X28 (pc' := 127) at_125 rfl (l' := #[.val (.int p0), .val (.int p1), .val (.int p2), .val (.int p3), .val (.int p4), .val (.int (2 : Int32)), .val (.int i2), .val (.int zs), .val (.int i3), .val (.int i4), .val (.int i5), .val (.long j6), .second, .val (.long j7), .second, .val (.long j8), .second, .val (.long j9), .second, .val (.long j10), .second, .val (.long j11), .second, .val (.long j12), .second, .val (.ref a24), .unset, .unset, .unset, .unset, .unset, .unset, .unset, .unset]) rfl rfl ?_
      refine g_iload C X28 (pc' := 129) at_127 rfl rfl ?_
      refine g_ifY C X28 at_129 (pc' := 145) (by decide) (by decide) (by decide) ?_
      refine g_iload C X28 (pc' := 147) at_145 rfl rfl ?_
      refine g_iconst C X28 (pc' := 148) at_147 (v := (1 : Int32)) (by decide) rfl ?_
      refine g_icmpY C X28 at_148 (pc' := 175) (by decide) (by decide) (by decide) ?_
      refine g_iload C X28 (pc' := 177) at_175 rfl rfl ?_
      refine g_iconst C X28 (pc' := 178) at_177 (v := (2 : Int32)) (by decide) rfl ?_
      refine g_icmpN C X28 at_178 (by decide) rfl ?_
      refine g_iconst C X28 (pc' := 182) at_181 (v := (2 : Int32)) (by decide) rfl ?_
      refine g_newP C X28 (aty := .int) (hw _ (List.mem_of_getElem? (i := 1) rfl)) e28 at_182 (by decide) 2 (by decide) (by decide) (by decide) (by decide) rfl ?_
      intro T29 h29 a29 k29 g29 X29 e29 E29 A29
      have ne_a24_a29 : a24 ≠ a29 := Nat.ne_of_lt (by rw [g29]; exact A24.lt)
      have z_a29 : n0 ≤ a29 := by rw [g29]; exact Z28
      have A24 := A24.ext E29
      have Z29 : n0 ≤ h29.size := Nat.le_trans Z28 E29.1
      have A29 : Arv Z h29 a29 k29 .int (2 : Int32) [] (.int (0 : Int32)) := A29
      refine g_dup C X29 (pc' := 185) at_184 rfl rfl ?_
      refine g_iconst C X29 (pc' := 186) at_185 (v := (0 : Int32)) (by decide) rfl ?_
      refine g_iload C X29 (pc' := 188) at_186 rfl rfl ?_
      refine g_iastore C X29 (pc' := 189) e29 A29 (by decide) (by decide) 0 1 (by decide) (of_decide_eq_true rfl) at_188 rfl ?_
      intro T30 h30 X30 e30 W30 Aq
      have A24 := A24.other W30 ne_a24_a29
      have Z30 : n0 ≤ h30.size := by rw [W30.size]; exact Z29
      have N30 := Fr.snoc X30 N28 z_a29
      have A29 : Arv Z h30 a29 k29 .int (2 : Int32) [(.int i3)] (.int (0 : Int32)) := Aq
      refine g_dup C X30 (pc' := 190) at_189 rfl rfl ?_
      refine g_iconst C X30 (pc' := 191) at_190 (v := (1 : Int32)) (by decide) rfl ?_
      refine g_iload C X30 (pc' := 193) at_191 rfl rfl ?_
      refine g_iastore C X30 (pc' := 194) e30 A29 (by decide) (by decide) 1 1 (by decide) (of_decide_eq_true rfl) at_193 rfl ?_
      intro T31 h31 X31 e31 W31 Aq
      have A24 := A24.other W31 ne_a24_a29
      have Z31 : n0 ≤ h31.size := by rw [W31.size]; exact Z30
      have N31 := Fr.snoc X31 N30 z_a29
      have A29 : Arv Z h31 a29 k29 .int (2 : Int32) [(.int i3), (.int i4)] (.int (0 : Int32)) := Aq
      refine g_astore C X31 (pc' := 196) at_194 rfl (l' := #[.val (.int p0), .val (.int p1), .val (.int p2), .val (.int p3), .val (.int p4), .val (.int (2 : Int32)), .val (.int i2), .val (.int zs), .val (.int i3), .val (.int i4), .val (.int i5), .val (.long j6), .second, .val (.long j7), .second, .val (.long j8), .second, .val (.long j9), .second, .val (.long j10), .second, .val (.long j11), .second, .val (.long j12), .second, .val (.ref a24), .val (.ref a29), .unset, .unset, .unset, .unset, .unset, .unset, .unset]) rfl rfl ?_
      refine g_iconst C X31 (pc' := 197) at_196 (v := (2 : Int32)) (by decide) rfl ?_
      refine g_newP C X31 (aty := .double) (hw _ (List.mem_of_getElem? (i := 0) rfl)) e31 at_197 (by decide) 2 (by decide) (by decide) (by decide) (by decide) rfl ?_
      intro T32 h32 a32 k32 g32 X32 e32 E32 A32
      have ne_a24_a32 : a24 ≠ a32 := Nat.ne_of_lt (by rw [g32]; exact A24.lt)
      have ne_a29_a32 : a29 ≠ a32 := Nat.ne_of_lt (by rw [g32]; exact A29.lt)
      have z_a32 : n0 ≤ a32 := by rw [g32]; exact Z31
      have A24 := A24.ext E32
      have A29 := A29.ext E32
      have Z32 : n0 ≤ h32.size := Nat.le_trans Z31 E32.1
      have A32 : Arv Z h32 a32 k32 .double (2 : Int32) [] (.double (0 : UInt64)) := A32
      refine g_dup C X32 (pc' := 200) at_199 rfl rfl ?_
      refine g_iconst C X32 (pc' := 201) at_200 (v := (0 : Int32)) (by decide) rfl ?_
      refine g_lload C X32 (pc' := 203) at_201 rfl rfl ?_
      refine g_l2d C X32 (pc' := 204) at_203 rfl ?_
      refine g_dastore C X32 (pc' := 205) e32 A32 (by decide) (by decide) 0 1 (by decide) (of_decide_eq_true rfl) at_204 rfl ?_
      intro T33 h33 X33 e33 W33 Aq
      have A24 := A24.other W33 ne_a24_a32
      have A29 := A29.other W33 ne_a29_a32
      have Z33 : n0 ≤ h33.size := by rw [W33.size]; exact Z32
      have N33 := Fr.snoc X33 N31 z_a32
      have A32 : Arv Z h33 a32 k32 .double (2 : Int32) [(.double (FP.l2d j6))] (.double (0 : UInt64)) := Aq
      refine g_dup C X33 (pc' := 206) at_205 rfl rfl ?_
      refine g_iconst C X33 (pc' := 207) at_206 (v := (1 : Int32)) (by decide) rfl ?_
      refine g_lload C X33 (pc' := 209) at_207 rfl rfl ?_
      refine g_l2d C X33 (pc' := 210) at_209 rfl ?_
      refine g_dastore C X33 (pc' := 211) e33 A32 (by decide) (by decide) 1 1 (by decide) (of_decide_eq_true rfl) at_210 rfl ?_
      intro T34 h34 X34 e34 W34 Aq
      have A24 := A24.other W34 ne_a24_a32
      have A29 := A29.other W34 ne_a29_a32
      have Z34 : n0 ≤ h34.size := by rw [W34.size]; exact Z33
      have N34 := Fr.snoc X34 N33 z_a32
      have A32 : Arv Z h34 a32 k32 .double (2 : Int32) [(.double (FP.l2d j6)), (.double (FP.l2d j7))] (.double (0 : UInt64)) := Aq
      refine g_astore C X34 (pc' := 213) at_211 rfl (l' := #[.val (.int p0), .val (.int p1), .val (.int p2), .val (.int p3), .val (.int p4), .val (.int (2 : Int32)), .val (.int i2), .val (.int zs), .val (.int i3), .val (.int i4), .val (.int i5), .val (.long j6), .second, .val (.long j7), .second, .val (.long j8), .second, .val (.long j9), .second, .val (.long j10), .second, .val (.long j11), .second, .val (.long j12), .second, .val (.ref a24), .val (.ref a29), .val (.ref a32), .unset, .unset, .unset, .unset, .unset, .unset]) rfl rfl ?_
      refine g_goto C X34 at_213 (pc' := 259) (by decide) (by decide) ?_
      refine g_new C X34 (hw _ (List.mem_of_getElem? (i := 2) rfl)) (hw _ (List.mem_of_getElem? (i := 3) rfl)) (hw _ (List.mem_of_getElem? (i := 4) rfl)) e34 at_259 (by decide) (by decide) rfl ?_
      intro T35 h35 a35 g35 X35 e35 E35 A35 D35
      have ne_a24_a35 : a24 ≠ a35 := Nat.ne_of_lt (by rw [g35]; exact A24.lt)
      have ne_a29_a35 : a29 ≠ a35 := Nat.ne_of_lt (by rw [g35]; exact A29.lt)
      have ne_a32_a35 : a32 ≠ a35 := Nat.ne_of_lt (by rw [g35]; exact A32.lt)
      have z_a35 : n0 ≤ a35 := by rw [g35]; exact Z34
      have A24 := A24.ext E35
      have A29 := A29.ext E35
      have A32 := A32.ext E35
      have Z35 : n0 ≤ h35.size := Nat.le_trans Z34 E35.1
      refine g_dup C X35 (pc' := 263) at_262 rfl rfl ?_
      refine g_aload C X35 (pc' := 265) at_263 rfl rfl rfl ?_
      refine g_aload C X35 (pc' := 267) at_265 rfl rfl rfl ?_
      have F35_terms : ∃ w, Fld Z h35 a35 "com/example/kenning/kenning/retrieval/KMeans$Vector" "terms" "[I" w := ⟨_, D35 (Or.inr (hw _ (List.mem_of_getElem? (i := 17) rfl))) (ty := (.array .int)) (by decide)⟩
      have F35_weights : ∃ w, Fld Z h35 a35 "com/example/kenning/kenning/retrieval/KMeans$Vector" "weights" "[D" w := ⟨_, D35 (Or.inr (hw _ (List.mem_of_getElem? (i := 19) rfl))) (ty := (.array .double)) (by decide)⟩
      refine g_callI C X35 (c_init l Z a0 hw h35 n0 Z35 a35 z_a35 a29 a32 A35 F35_terms F35_weights) rfl (hw _ (List.mem_of_getElem? (i := 5) rfl)) (hw _ (List.mem_of_getElem? (i := 6) rfl)) (hw _ (List.mem_of_getElem? (i := 4) rfl)) (hw _ (List.mem_of_getElem? (i := 7) rfl)) (by decide) e35 at_267 rfl pdI a35 [(.ref a29), (.ref a32)] [(.ref a35)] rfl rfl rfl 1 rfl (by decide) (by decide) (by decide) (by decide) rfl ?_
      rintro _ T36 L36 X36 ⟨rfl, M36, K36, Aq, Ft36, Fw36⟩
      have A24 := A24.keep K36 (ninS ne_a24_a35 nin0)
      have A29 := A29.keep K36 (ninS ne_a29_a35 nin0)
      have A32 := A32.keep K36 (ninS ne_a32_a35 nin0)
      have A35 := A35.keep K36
      have Z36 : n0 ≤ T36.heap.size := Nat.le_trans Z35 K36.1
      have N36 := Fr.app N34 M36
      obtain ⟨h36, e36⟩ : ∃ z, T36.heap = z := ⟨_, rfl⟩
      rw [e36] at A24 A29 A32 A35 Ft36 Fw36 Z36
      show Go p.tables e below _ T36 (mkF m 270 #[.val (.int p0), .val (.int p1), .val (.int p2), .val (.int p3), .val (.int p4), .val (.int (2 : Int32)), .val (.int i2), .val (.int zs), .val (.int i3), .val (.int i4), .val (.int i5), .val (.long j6), .second, .val (.long j7), .second, .val (.long j8), .second, .val (.long j9), .second, .val (.long j10), .second, .val (.long j11), .second, .val (.long j12), .second, .val (.ref a24), .val (.ref a29), .val (.ref a32), .unset, .unset, .unset, .unset, .unset, .unset] [(.ref a35)])
      refine g_astore C X36 (pc' := 272) at_270 rfl (l' := #[.val (.int p0), .val (.int p1), .val (.int p2), .val (.int p3), .val (.int p4), .val (.int (2 : Int32)), .val (.int i2), .val (.int zs), .val (.int i3), .val (.int i4), .val (.int i5), .val (.long j6), .second, .val (.long j7), .second, .val (.long j8), .second, .val (.long j9), .second, .val (.long j10), .second, .val (.long j11), .second, .val (.long j12), .second, .val (.ref a24), .val (.ref a29), .val (.ref a32), .val (.ref a35), .unset, .unset, .unset, .unset, .unset]) rfl rfl ?_
      refine g_aload C X36 (pc' := 274) at_272 rfl rfl rfl ?_
      refine g_aload C X36 (pc' := 276) at_274 rfl rfl rfl ?_
      have ra0 := own_atr i3 bd0 bd1 bd2 bd3
      have ra1 := own_atr i4 bd0 bd1 bd2 bd3
      refine g_callV C X36 (c_dot2 l Z a0 hw h36 a35 a24 a29 a32 k29 k32 k24 (FP.l2d j9) (FP.l2d j10) (FP.l2d j11) (FP.l2d j12) i3 (FP.l2d j6) (FP.l2d (own_at i3 j9 j10 j11 j12)) _ _ (l2d_D (x := j6) (by show _ ≤ 9007199254740992; omega)) (l2d_D (by show _ ≤ 9007199254740992; omega)) bt0 (own_get i3 j9 j10 j11 j12 bt0) bw0 ra0 i4 (FP.l2d j7) (FP.l2d (own_at i4 j9 j10 j11 j12)) _ _ (l2d_D (x := j7) (by show _ ≤ 9007199254740992; omega)) (l2d_D (by show _ ≤ 9007199254740992; omega)) bt1 (own_get i4 j9 j10 j11 j12 bt1) bw1 ra1 Ft36 Fw36 A29 A32 A24) (hw _ (List.mem_of_getElem? (i := 20) rfl)) (hw _ (List.mem_of_getElem? (i := 21) rfl)) (hw _ (List.mem_of_getElem? (i := 23) rfl)) (hw _ (List.mem_of_getElem? (i := 22) rfl)) (hw _ (List.mem_of_getElem? (i := 4) rfl)) (hw _ (List.mem_of_getElem? (i := 24) rfl)) (by decide) e36 A35 at_276 rfl pdD [(.ref a24)] [] rfl rfl rfl 0 rfl (by decide) (by decide) (by decide) (by decide) rfl ?_
      rintro _ T37 _ X37 ⟨r37, rfl, D_r37, rfl, e37⟩
      rw [List.append_nil] at X37
      show Go p.tables e below _ T37 (mkF m 279 #[.val (.int p0), .val (.int p1), .val (.int p2), .val (.int p3), .val (.int p4), .val (.int (2 : Int32)), .val (.int i2), .val (.int zs), .val (.int i3), .val (.int i4), .val (.int i5), .val (.long j6), .second, .val (.long j7), .second, .val (.long j8), .second, .val (.long j9), .second, .val (.long j10), .second, .val (.long j11), .second, .val (.long j12), .second, .val (.ref a24), .val (.ref a29), .val (.ref a32), .val (.ref a35), .unset, .unset, .unset, .unset, .unset] [(.double r37)])
      refine g_dstore C X37 (pc' := 281) at_279 (x := r37) rfl (l' := #[.val (.int p0), .val (.int p1), .val (.int p2), .val (.int p3), .val (.int p4), .val (.int (2 : Int32)), .val (.int i2), .val (.int zs), .val (.int i3), .val (.int i4), .val (.int i5), .val (.long j6), .second, .val (.long j7), .second, .val (.long j8), .second, .val (.long j9), .second, .val (.long j10), .second, .val (.long j11), .second, .val (.long j12), .second, .val (.ref a24), .val (.ref a29), .val (.ref a32), .val (.ref a35), .val (.double r37), .second, .unset, .unset, .unset]) rfl rfl ?_
      refine g_lconst C X37 (pc' := 282) at_281 (v := (0 : Int64)) (by decide) rfl ?_
      refine g_lstore C X37 (pc' := 284) at_282 (x := (0 : Int64)) rfl (l' := #[.val (.int p0), .val (.int p1), .val (.int p2), .val (.int p3), .val (.int p4), .val (.int (2 : Int32)), .val (.int i2), .val (.int zs), .val (.int i3), .val (.int i4), .val (.int i5), .val (.long j6), .second, .val (.long j7), .second, .val (.long j8), .second, .val (.long j9), .second, .val (.long j10), .second, .val (.long j11), .second, .val (.long j12), .second, .val (.ref a24), .val (.ref a29), .val (.ref a32), .val (.ref a35), .val (.double r37), .second, .val (.long (0 : Int64)), .second, .unset]) rfl rfl ?_
      refine g_iload C X37 (pc' := 286) at_284 rfl rfl ?_
      refine g_iconst C X37 (pc' := 287) at_286 (v := (1 : Int32)) (by decide) rfl ?_
      refine g_icmpN C X37 at_287 (by decide) rfl ?_
      refine g_lload C X37 (pc' := 292) at_290 rfl rfl ?_
      refine g_lload C X37 (pc' := 294) at_292 rfl rfl ?_
      refine g_iload C X37 (pc' := 296) at_294 rfl rfl ?_
      refine g_lload C X37 (pc' := 298) at_296 rfl rfl ?_
      refine g_lload C X37 (pc' := 300) at_298 rfl rfl ?_
      refine g_lload C X37 (pc' := 302) at_300 rfl rfl ?_
      refine g_lload C X37 (pc' := 304) at_302 rfl rfl ?_
      refine g_callS C X37 (c_at l Z h36 i3 j9 j10 j11 j12) (hw _ (List.mem_of_getElem? (i := 25) rfl)) (hw _ (List.mem_of_getElem? (i := 26) rfl)) (hw _ (List.mem_of_getElem? (i := 27) rfl)) (hw _ (List.mem_of_getElem? (i := 28) rfl)) (by decide) e37 at_304 rfl pdA [(.int i3), (.long j9), (.long j10), (.long j11), (.long j12)] [(.long j6), (.long (0 : Int64))] rfl rfl rfl 4 rfl (by decide) (by decide) (by decide) (by decide) rfl ?_
      rintro _ T38 _ X38 ⟨rfl, rfl, e38⟩
      rw [List.append_nil] at X38
      show Go p.tables e below _ T38 (mkF m 307 #[.val (.int p0), .val (.int p1), .val (.int p2), .val (.int p3), .val (.int p4), .val (.int (2 : Int32)), .val (.int i2), .val (.int zs), .val (.int i3), .val (.int i4), .val (.int i5), .val (.long j6), .second, .val (.long j7), .second, .val (.long j8), .second, .val (.long j9), .second, .val (.long j10), .second, .val (.long j11), .second, .val (.long j12), .second, .val (.ref a24), .val (.ref a29), .val (.ref a32), .val (.ref a35), .val (.double r37), .second, .val (.long (0 : Int64)), .second, .unset] [(.long (own_at i3 j9 j10 j11 j12)), (.long j6), (.long (0 : Int64))])
      refine g_lmul C X38 (pc' := 308) at_307 rfl ?_
      refine g_ladd C X38 (pc' := 309) at_308 rfl ?_
      obtain ⟨j17, e_j17⟩ : ∃ z : Int64, z = (0 : Int64) + (j6 * (own_at i3 j9 j10 j11 j12)) := ⟨_, rfl⟩
      refine g_lstore C X38 (pc' := 311) at_309 (x := j17) e_j17 (l' := #[.val (.int p0), .val (.int p1), .val (.int p2), .val (.int p3), .val (.int p4), .val (.int (2 : Int32)), .val (.int i2), .val (.int zs), .val (.int i3), .val (.int i4), .val (.int i5), .val (.long j6), .second, .val (.long j7), .second, .val (.long j8), .second, .val (.long j9), .second, .val (.long j10), .second, .val (.long j11), .second, .val (.long j12), .second, .val (.ref a24), .val (.ref a29), .val (.ref a32), .val (.ref a35), .val (.double r37), .second, .val (.long j17), .second, .unset]) rfl rfl ?_
      refine g_iload C X38 (pc' := 313) at_311 rfl rfl ?_
      refine g_iconst C X38 (pc' := 314) at_313 (v := (2 : Int32)) (by decide) rfl ?_
      refine g_icmpN C X38 at_314 (by decide) rfl ?_
      refine g_lload C X38 (pc' := 319) at_317 rfl rfl ?_
      refine g_lload C X38 (pc' := 321) at_319 rfl rfl ?_
      refine g_iload C X38 (pc' := 323) at_321 rfl rfl ?_
      refine g_lload C X38 (pc' := 325) at_323 rfl rfl ?_
      refine g_lload C X38 (pc' := 327) at_325 rfl rfl ?_
      refine g_lload C X38 (pc' := 329) at_327 rfl rfl ?_
      refine g_lload C X38 (pc' := 331) at_329 rfl rfl ?_
      refine g_callS C X38 (c_at l Z h36 i4 j9 j10 j11 j12) (hw _ (List.mem_of_getElem? (i := 25) rfl)) (hw _ (List.mem_of_getElem? (i := 26) rfl)) (hw _ (List.mem_of_getElem? (i := 27) rfl)) (hw _ (List.mem_of_getElem? (i := 28) rfl)) (by decide) e38 at_331 rfl pdA [(.int i4), (.long j9), (.long j10), (.long j11), (.long j12)] [(.long j7), (.long j17)] rfl rfl rfl 4 rfl (by decide) (by decide) (by decide) (by decide) rfl ?_
      rintro _ T39 _ X39 ⟨rfl, rfl, e39⟩
      rw [List.append_nil] at X39
      show Go p.tables e below _ T39 (mkF m 334 #[.val (.int p0), .val (.int p1), .val (.int p2), .val (.int p3), .val (.int p4), .val (.int (2 : Int32)), .val (.int i2), .val (.int zs), .val (.int i3), .val (.int i4), .val (.int i5), .val (.long j6), .second, .val (.long j7), .second, .val (.long j8), .second, .val (.long j9), .second, .val (.long j10), .second, .val (.long j11), .second, .val (.long j12), .second, .val (.ref a24), .val (.ref a29), .val (.ref a32), .val (.ref a35), .val (.double r37), .second, .val (.long j17), .second, .unset] [(.long (own_at i4 j9 j10 j11 j12)), (.long j7), (.long j17)])
      refine g_lmul C X39 (pc' := 335) at_334 rfl ?_
      refine g_ladd C X39 (pc' := 336) at_335 rfl ?_
      obtain ⟨j18, e_j18⟩ : ∃ z : Int64, z = j17 + (j7 * (own_at i4 j9 j10 j11 j12)) := ⟨_, rfl⟩
      refine g_lstore C X39 (pc' := 338) at_336 (x := j18) e_j18 (l' := #[.val (.int p0), .val (.int p1), .val (.int p2), .val (.int p3), .val (.int p4), .val (.int (2 : Int32)), .val (.int i2), .val (.int zs), .val (.int i3), .val (.int i4), .val (.int i5), .val (.long j6), .second, .val (.long j7), .second, .val (.long j8), .second, .val (.long j9), .second, .val (.long j10), .second, .val (.long j11), .second, .val (.long j12), .second, .val (.ref a24), .val (.ref a29), .val (.ref a32), .val (.ref a35), .val (.double r37), .second, .val (.long j18), .second, .unset]) rfl rfl ?_
      refine g_iload C X39 (pc' := 340) at_338 rfl rfl ?_
      refine g_iconst C X39 (pc' := 341) at_340 (v := (3 : Int32)) (by decide) rfl ?_
      refine g_icmpY C X39 at_341 (pc' := 365) (by decide) (by decide) (by decide) ?_
      refine g_aload C X39 (pc' := 367) at_365 rfl rfl rfl ?_
      refine g_iconst C X39 (pc' := 368) at_367 (v := (0 : Int32)) (by decide) rfl ?_
      refine g_daload C X39 (pc' := 369) e39 A24 (by decide) (by decide) 0 (by decide) rfl at_368 rfl ?_
      refine g_lload C X39 (pc' := 371) at_369 rfl rfl ?_
      refine g_l2d C X39 (pc' := 372) at_371 rfl ?_
      refine g_dcmpV C X39 at_372 (v := (0 : Int32)) ((dcmp_cmpI (l2d_D (x := j9) (by show _ ≤ 9007199254740992; omega)) (l2d_D (x := j9) (by show _ ≤ 9007199254740992; omega)) _).trans (cmpI_self _)) rfl ?_
      refine g_ifN C X39 at_373 (by decide) rfl ?_
      refine g_aload C X39 (pc' := 378) at_376 rfl rfl rfl ?_
      refine g_iconst C X39 (pc' := 379) at_378 (v := (1 : Int32)) (by decide) rfl ?_
      refine g_daload C X39 (pc' := 380) e39 A24 (by decide) (by decide) 1 (by decide) rfl at_379 rfl ?_
      refine g_lload C X39 (pc' := 382) at_380 rfl rfl ?_
      refine g_l2d C X39 (pc' := 383) at_382 rfl ?_
      refine g_dcmpV C X39 at_383 (v := (0 : Int32)) ((dcmp_cmpI (l2d_D (x := j10) (by show _ ≤ 9007199254740992; omega)) (l2d_D (x := j10) (by show _ ≤ 9007199254740992; omega)) _).trans (cmpI_self _)) rfl ?_
      refine g_ifN C X39 at_384 (by decide) rfl ?_
      refine g_aload C X39 (pc' := 389) at_387 rfl rfl rfl ?_
      refine g_iconst C X39 (pc' := 390) at_389 (v := (2 : Int32)) (by decide) rfl ?_
      refine g_daload C X39 (pc' := 391) e39 A24 (by decide) (by decide) 2 (by decide) rfl at_390 rfl ?_
      refine g_lload C X39 (pc' := 393) at_391 rfl rfl ?_
      refine g_l2d C X39 (pc' := 394) at_393 rfl ?_
      refine g_dcmpV C X39 at_394 (v := (0 : Int32)) ((dcmp_cmpI (l2d_D (x := j11) (by show _ ≤ 9007199254740992; omega)) (l2d_D (x := j11) (by show _ ≤ 9007199254740992; omega)) _).trans (cmpI_self _)) rfl ?_
      refine g_ifN C X39 at_395 (by decide) rfl ?_
      refine g_aload C X39 (pc' := 400) at_398 rfl rfl rfl ?_
      refine g_iconst C X39 (pc' := 401) at_400 (v := (3 : Int32)) (by decide) rfl ?_
      refine g_daload C X39 (pc' := 402) e39 A24 (by decide) (by decide) 3 (by decide) rfl at_401 rfl ?_
      refine g_lload C X39 (pc' := 404) at_402 rfl rfl ?_
      refine g_l2d C X39 (pc' := 405) at_404 rfl ?_
      refine g_dcmpV C X39 at_405 (v := (0 : Int32)) ((dcmp_cmpI (l2d_D (x := j12) (by show _ ≤ 9007199254740992; omega)) (l2d_D (x := j12) (by show _ ≤ 9007199254740992; omega)) _).trans (cmpI_self _)) rfl ?_
      refine g_ifN C X39 at_406 (by decide) rfl ?_
      refine g_iconst C X39 (pc' := 410) at_409 (v := (1 : Int32)) (by decide) rfl ?_
      refine g_goto C X39 at_410 (pc' := 414) (by decide) (by decide) ?_
      refine g_istore C X39 (pc' := 416) at_414 (x := (1 : Int32)) rfl (l' := #[.val (.int p0), .val (.int p1), .val (.int p2), .val (.int p3), .val (.int p4), .val (.int (2 : Int32)), .val (.int i2), .val (.int zs), .val (.int i3), .val (.int i4), .val (.int i5), .val (.long j6), .second, .val (.long j7), .second, .val (.long j8), .second, .val (.long j9), .second, .val (.long j10), .second, .val (.long j11), .second, .val (.long j12), .second, .val (.ref a24), .val (.ref a29), .val (.ref a32), .val (.ref a35), .val (.double r37), .second, .val (.long j18), .second, .val (.int (1 : Int32))]) rfl rfl ?_
      refine g_dload C X39 (pc' := 418) at_416 rfl rfl ?_
      refine g_lload C X39 (pc' := 420) at_418 rfl rfl ?_
      have ek21 : (0 : Int64).toInt = 0 := by decide
      have rk21 : 0 ≤ (0 : Int) ∧ (0 : Int) ≤ 0 := by decide
      have rm22 : -1073741824 ≤ j6.toInt * ((own_at i3 j9 j10 j11 j12).toInt) ∧ j6.toInt * ((own_at i3 j9 j10 j11 j12).toInt) ≤ 1073741824 := own_m (X := 32768) (Y := 32768) (by omega) (by omega) (by omega) (by omega)
      have em22 : (j6 * (own_at i3 j9 j10 j11 j12)).toInt = j6.toInt * ((own_at i3 j9 j10 j11 j12).toInt) := by rw [own_mul (by rw [(rfl : j6.toInt = j6.toInt), (rfl : (own_at i3 j9 j10 j11 j12).toInt = (own_at i3 j9 j10 j11 j12).toInt)]; omega) (by rw [(rfl : j6.toInt = j6.toInt), (rfl : (own_at i3 j9 j10 j11 j12).toInt = (own_at i3 j9 j10 j11 j12).toInt)]; omega), (rfl : j6.toInt = j6.toInt), (rfl : (own_at i3 j9 j10 j11 j12).toInt = (own_at i3 j9 j10 j11 j12).toInt)]
      have em20 : ((0 : Int64) + (j6 * (own_at i3 j9 j10 j11 j12))).toInt = 0 + (j6.toInt * ((own_at i3 j9 j10 j11 j12).toInt)) := by rw [own_add (by rw [ek21, em22]; omega) (by rw [ek21, em22]; omega), ek21, em22]
      have rm20 : -1073741824 ≤ 0 + (j6.toInt * ((own_at i3 j9 j10 j11 j12).toInt)) ∧ 0 + (j6.toInt * ((own_at i3 j9 j10 j11 j12).toInt)) ≤ 1073741824 := by omega
      have ev_j17 : j17.toInt = 0 + (j6.toInt * ((own_at i3 j9 j10 j11 j12).toInt)) := by rw [e_j17]; exact em20
      have rm23 : -1073741824 ≤ j7.toInt * ((own_at i4 j9 j10 j11 j12).toInt) ∧ j7.toInt * ((own_at i4 j9 j10 j11 j12).toInt) ≤ 1073741824 := own_m (X := 32768) (Y := 32768) (by omega) (by omega) (by omega) (by omega)
      have em23 : (j7 * (own_at i4 j9 j10 j11 j12)).toInt = j7.toInt * ((own_at i4 j9 j10 j11 j12).toInt) := by rw [own_mul (by rw [(rfl : j7.toInt = j7.toInt), (rfl : (own_at i4 j9 j10 j11 j12).toInt = (own_at i4 j9 j10 j11 j12).toInt)]; omega) (by rw [(rfl : j7.toInt = j7.toInt), (rfl : (own_at i4 j9 j10 j11 j12).toInt = (own_at i4 j9 j10 j11 j12).toInt)]; omega), (rfl : j7.toInt = j7.toInt), (rfl : (own_at i4 j9 j10 j11 j12).toInt = (own_at i4 j9 j10 j11 j12).toInt)]
      have em19 : (j17 + (j7 * (own_at i4 j9 j10 j11 j12))).toInt = (0 + (j6.toInt * ((own_at i3 j9 j10 j11 j12).toInt))) + (j7.toInt * ((own_at i4 j9 j10 j11 j12).toInt)) := by rw [own_add (by rw [ev_j17, em23]; omega) (by rw [ev_j17, em23]; omega), ev_j17, em23]
      have rm19 : -2147483648 ≤ (0 + (j6.toInt * ((own_at i3 j9 j10 j11 j12).toInt))) + (j7.toInt * ((own_at i4 j9 j10 j11 j12).toInt)) ∧ (0 + (j6.toInt * ((own_at i3 j9 j10 j11 j12).toInt))) + (j7.toInt * ((own_at i4 j9 j10 j11 j12).toInt)) ≤ 2147483648 := by omega
      have ev_j18 : j18.toInt = (0 + (j6.toInt * ((own_at i3 j9 j10 j11 j12).toInt))) + (j7.toInt * ((own_at i4 j9 j10 j11 j12).toInt)) := by rw [e_j18]; exact em19
      refine g_l2d C X39 (pc' := 421) at_420 rfl ?_
      refine g_dcmpV C X39 (pc' := 422) at_421 (dcmp_cmpI D_r37 (l2d_D (x := j18) (by rw [ev_j18]; show _ ≤ 9007199254740992; omega)) _) rfl ?_
      refine g_if C X39 at_422 (pc' := 434) (pc'' := 425) (by decide) (by decide) rfl (fun c422 => ?_) (fun c422 => ?_)
      · have c422 : ¬ ((cmpI (0 + j6.toInt * (own_at i3 j9 j10 j11 j12).toInt + j7.toInt * (own_at i4 j9 j10 j11 j12).toInt) j18.toInt).toInt = 0) := c422
        have c422 : ¬ (0 + j6.toInt * (own_at i3 j9 j10 j11 j12).toInt + j7.toInt * (own_at i4 j9 j10 j11 j12).toInt = j18.toInt) := fun q => c422 ((cmpI_eq _ _).mpr q)
        refine g_iconst C X39 (pc' := 435) at_434 (v := (0 : Int32)) (by decide) rfl ?_
        exfalso; omega
      · have c422 : (cmpI (0 + j6.toInt * (own_at i3 j9 j10 j11 j12).toInt + j7.toInt * (own_at i4 j9 j10 j11 j12).toInt) j18.toInt).toInt = 0 := Decidable.not_not.mp c422
        have c422 : 0 + j6.toInt * (own_at i3 j9 j10 j11 j12).toInt + j7.toInt * (own_at i4 j9 j10 j11 j12).toInt = j18.toInt := (cmpI_eq _ _).mp c422
        refine g_iload C X39 (pc' := 427) at_425 rfl rfl ?_
        refine g_ifN C X39 at_427 (by decide) rfl ?_
        refine g_iconst C X39 (pc' := 431) at_430 (v := (1 : Int32)) (by decide) rfl ?_
        refine g_goto C X39 at_431 (pc' := 435) (by decide) (by decide) ?_
        exact g_zreturn C X39 at_435 (w := 1) (by decide) ⟨rfl, N36⟩ (by decide) (by decide)
    · show Go p.tables e below _ T0 (mkF m 98 #[.val (.int p0), .val (.int p1), .val (.int p2), .val (.int p3), .val (.int p4), .val (.int (3 : Int32)), .val (.int i2), .val (.int zs), .val (.int i3), .val (.int i4), .val (.int i5), .val (.long j6), .second, .val (.long j7), .second, .val (.long j8), .second, .val (.long j9), .second, .val (.long j10), .second, .val (.long j11), .second, .val (.long j12), .second, .unset, .unset, .unset, .unset, .unset, .unset, .unset, .unset, .unset] [])
      refine g_iconst C X0 (pc' := 99) at_98 (v := (4 : Int32)) (by decide) rfl ?_
      refine g_newP C X0 (aty := .double) (hw _ (List.mem_of_getElem? (i := 0) rfl)) e0 at_99 (by decide) 4 (by decide) (by decide) (by decide) (by decide) rfl ?_
      intro T40 h40 a40 k40 g40 X40 e40 E40 A40
      have z_a40 : n0 ≤ a40 := by rw [g40]; exact Z0
      have Z40 : n0 ≤ h40.size := Nat.le_trans Z0 E40.1
      have A40 : Arv Z h40 a40 k40 .double (4 : Int32) [] (.double (0 : UInt64)) := A40
      refine g_dup C X40 (pc' := 102) at_101 rfl rfl ?_
      refine g_iconst C X40 (pc' := 103) at_102 (v := (0 : Int32)) (by decide) rfl ?_
      refine g_lload C X40 (pc' := 105) at_103 rfl rfl ?_
      refine g_l2d C X40 (pc' := 106) at_105 rfl ?_
      refine g_dastore C X40 (pc' := 107) e40 A40 (by decide) (by decide) 0 1 (by decide) (of_decide_eq_true rfl) at_106 rfl ?_
      intro T41 h41 X41 e41 W41 Aq
      have Z41 : n0 ≤ h41.size := by rw [W41.size]; exact Z40
      have N41 := Fr.snoc X41 (Fr.nil n0) z_a40
      have A40 : Arv Z h41 a40 k40 .double (4 : Int32) [(.double (FP.l2d j9))] (.double (0 : UInt64)) := Aq
      refine g_dup C X41 (pc' := 108) at_107 rfl rfl ?_
      refine g_iconst C X41 (pc' := 109) at_108 (v := (1 : Int32)) (by decide) rfl ?_
      refine g_lload C X41 (pc' := 111) at_109 rfl rfl ?_
      refine g_l2d C X41 (pc' := 112) at_111 rfl ?_
      refine g_dastore C X41 (pc' := 113) e41 A40 (by decide) (by decide) 1 1 (by decide) (of_decide_eq_true rfl) at_112 rfl ?_
      intro T42 h42 X42 e42 W42 Aq
      have Z42 : n0 ≤ h42.size := by rw [W42.size]; exact Z41
      have N42 := Fr.snoc X42 N41 z_a40
      have A40 : Arv Z h42 a40 k40 .double (4 : Int32) [(.double (FP.l2d j9)), (.double (FP.l2d j10))] (.double (0 : UInt64)) := Aq
      refine g_dup C X42 (pc' := 114) at_113 rfl rfl ?_
      refine g_iconst C X42 (pc' := 115) at_114 (v := (2 : Int32)) (by decide) rfl ?_
      refine g_lload C X42 (pc' := 117) at_115 rfl rfl ?_
      refine g_l2d C X42 (pc' := 118) at_117 rfl ?_
      refine g_dastore C X42 (pc' := 119) e42 A40 (by decide) (by decide) 2 1 (by decide) (of_decide_eq_true rfl) at_118 rfl ?_
      intro T43 h43 X43 e43 W43 Aq
      have Z43 : n0 ≤ h43.size := by rw [W43.size]; exact Z42
      have N43 := Fr.snoc X43 N42 z_a40
      have A40 : Arv Z h43 a40 k40 .double (4 : Int32) [(.double (FP.l2d j9)), (.double (FP.l2d j10)), (.double (FP.l2d j11))] (.double (0 : UInt64)) := Aq
      refine g_dup C X43 (pc' := 120) at_119 rfl rfl ?_
      refine g_iconst C X43 (pc' := 121) at_120 (v := (3 : Int32)) (by decide) rfl ?_
      refine g_lload C X43 (pc' := 123) at_121 rfl rfl ?_
      refine g_l2d C X43 (pc' := 124) at_123 rfl ?_
      refine g_dastore C X43 (pc' := 125) e43 A40 (by decide) (by decide) 3 1 (by decide) (of_decide_eq_true rfl) at_124 rfl ?_
      intro T44 h44 X44 e44 W44 Aq
      have Z44 : n0 ≤ h44.size := by rw [W44.size]; exact Z43
      have N44 := Fr.snoc X44 N43 z_a40
      have A40 : Arv Z h44 a40 k40 .double (4 : Int32) [(.double (FP.l2d j9)), (.double (FP.l2d j10)), (.double (FP.l2d j11)), (.double (FP.l2d j12))] (.double (0 : UInt64)) := Aq
      refine g_astore C X44 (pc' := 127) at_125 rfl (l' := #[.val (.int p0), .val (.int p1), .val (.int p2), .val (.int p3), .val (.int p4), .val (.int (3 : Int32)), .val (.int i2), .val (.int zs), .val (.int i3), .val (.int i4), .val (.int i5), .val (.long j6), .second, .val (.long j7), .second, .val (.long j8), .second, .val (.long j9), .second, .val (.long j10), .second, .val (.long j11), .second, .val (.long j12), .second, .val (.ref a40), .unset, .unset, .unset, .unset, .unset, .unset, .unset, .unset]) rfl rfl ?_
      refine g_iload C X44 (pc' := 129) at_127 rfl rfl ?_
      refine g_ifY C X44 at_129 (pc' := 145) (by decide) (by decide) (by decide) ?_
      refine g_iload C X44 (pc' := 147) at_145 rfl rfl ?_
      refine g_iconst C X44 (pc' := 148) at_147 (v := (1 : Int32)) (by decide) rfl ?_
      refine g_icmpY C X44 at_148 (pc' := 175) (by decide) (by decide) (by decide) ?_
      refine g_iload C X44 (pc' := 177) at_175 rfl rfl ?_
      refine g_iconst C X44 (pc' := 178) at_177 (v := (2 : Int32)) (by decide) rfl ?_
      refine g_icmpY C X44 at_178 (pc' := 216) (by decide) (by decide) (by decide) ?_
      refine g_iconst C X44 (pc' := 217) at_216 (v := (3 : Int32)) (by decide) rfl ?_
      refine g_newP C X44 (aty := .int) (hw _ (List.mem_of_getElem? (i := 1) rfl)) e44 at_217 (by decide) 3 (by decide) (by decide) (by decide) (by decide) rfl ?_
      intro T45 h45 a45 k45 g45 X45 e45 E45 A45
      have ne_a40_a45 : a40 ≠ a45 := Nat.ne_of_lt (by rw [g45]; exact A40.lt)
      have z_a45 : n0 ≤ a45 := by rw [g45]; exact Z44
      have A40 := A40.ext E45
      have Z45 : n0 ≤ h45.size := Nat.le_trans Z44 E45.1
      have A45 : Arv Z h45 a45 k45 .int (3 : Int32) [] (.int (0 : Int32)) := A45
      refine g_dup C X45 (pc' := 220) at_219 rfl rfl ?_
      refine g_iconst C X45 (pc' := 221) at_220 (v := (0 : Int32)) (by decide) rfl ?_
      refine g_iload C X45 (pc' := 223) at_221 rfl rfl ?_
      refine g_iastore C X45 (pc' := 224) e45 A45 (by decide) (by decide) 0 1 (by decide) (of_decide_eq_true rfl) at_223 rfl ?_
      intro T46 h46 X46 e46 W46 Aq
      have A40 := A40.other W46 ne_a40_a45
      have Z46 : n0 ≤ h46.size := by rw [W46.size]; exact Z45
      have N46 := Fr.snoc X46 N44 z_a45
      have A45 : Arv Z h46 a45 k45 .int (3 : Int32) [(.int i3)] (.int (0 : Int32)) := Aq
      refine g_dup C X46 (pc' := 225) at_224 rfl rfl ?_
      refine g_iconst C X46 (pc' := 226) at_225 (v := (1 : Int32)) (by decide) rfl ?_
      refine g_iload C X46 (pc' := 228) at_226 rfl rfl ?_
      refine g_iastore C X46 (pc' := 229) e46 A45 (by decide) (by decide) 1 1 (by decide) (of_decide_eq_true rfl) at_228 rfl ?_
      intro T47 h47 X47 e47 W47 Aq
      have A40 := A40.other W47 ne_a40_a45
      have Z47 : n0 ≤ h47.size := by rw [W47.size]; exact Z46
      have N47 := Fr.snoc X47 N46 z_a45
      have A45 : Arv Z h47 a45 k45 .int (3 : Int32) [(.int i3), (.int i4)] (.int (0 : Int32)) := Aq
      refine g_dup C X47 (pc' := 230) at_229 rfl rfl ?_
      refine g_iconst C X47 (pc' := 231) at_230 (v := (2 : Int32)) (by decide) rfl ?_
      refine g_iload C X47 (pc' := 233) at_231 rfl rfl ?_
      refine g_iastore C X47 (pc' := 234) e47 A45 (by decide) (by decide) 2 1 (by decide) (of_decide_eq_true rfl) at_233 rfl ?_
      intro T48 h48 X48 e48 W48 Aq
      have A40 := A40.other W48 ne_a40_a45
      have Z48 : n0 ≤ h48.size := by rw [W48.size]; exact Z47
      have N48 := Fr.snoc X48 N47 z_a45
      have A45 : Arv Z h48 a45 k45 .int (3 : Int32) [(.int i3), (.int i4), (.int i5)] (.int (0 : Int32)) := Aq
      refine g_astore C X48 (pc' := 236) at_234 rfl (l' := #[.val (.int p0), .val (.int p1), .val (.int p2), .val (.int p3), .val (.int p4), .val (.int (3 : Int32)), .val (.int i2), .val (.int zs), .val (.int i3), .val (.int i4), .val (.int i5), .val (.long j6), .second, .val (.long j7), .second, .val (.long j8), .second, .val (.long j9), .second, .val (.long j10), .second, .val (.long j11), .second, .val (.long j12), .second, .val (.ref a40), .val (.ref a45), .unset, .unset, .unset, .unset, .unset, .unset, .unset]) rfl rfl ?_
      refine g_iconst C X48 (pc' := 237) at_236 (v := (3 : Int32)) (by decide) rfl ?_
      refine g_newP C X48 (aty := .double) (hw _ (List.mem_of_getElem? (i := 0) rfl)) e48 at_237 (by decide) 3 (by decide) (by decide) (by decide) (by decide) rfl ?_
      intro T49 h49 a49 k49 g49 X49 e49 E49 A49
      have ne_a40_a49 : a40 ≠ a49 := Nat.ne_of_lt (by rw [g49]; exact A40.lt)
      have ne_a45_a49 : a45 ≠ a49 := Nat.ne_of_lt (by rw [g49]; exact A45.lt)
      have z_a49 : n0 ≤ a49 := by rw [g49]; exact Z48
      have A40 := A40.ext E49
      have A45 := A45.ext E49
      have Z49 : n0 ≤ h49.size := Nat.le_trans Z48 E49.1
      have A49 : Arv Z h49 a49 k49 .double (3 : Int32) [] (.double (0 : UInt64)) := A49
      refine g_dup C X49 (pc' := 240) at_239 rfl rfl ?_
      refine g_iconst C X49 (pc' := 241) at_240 (v := (0 : Int32)) (by decide) rfl ?_
      refine g_lload C X49 (pc' := 243) at_241 rfl rfl ?_
      refine g_l2d C X49 (pc' := 244) at_243 rfl ?_
      refine g_dastore C X49 (pc' := 245) e49 A49 (by decide) (by decide) 0 1 (by decide) (of_decide_eq_true rfl) at_244 rfl ?_
      intro T50 h50 X50 e50 W50 Aq
      have A40 := A40.other W50 ne_a40_a49
      have A45 := A45.other W50 ne_a45_a49
      have Z50 : n0 ≤ h50.size := by rw [W50.size]; exact Z49
      have N50 := Fr.snoc X50 N48 z_a49
      have A49 : Arv Z h50 a49 k49 .double (3 : Int32) [(.double (FP.l2d j6))] (.double (0 : UInt64)) := Aq
      refine g_dup C X50 (pc' := 246) at_245 rfl rfl ?_
      refine g_iconst C X50 (pc' := 247) at_246 (v := (1 : Int32)) (by decide) rfl ?_
      refine g_lload C X50 (pc' := 249) at_247 rfl rfl ?_
      refine g_l2d C X50 (pc' := 250) at_249 rfl ?_
      refine g_dastore C X50 (pc' := 251) e50 A49 (by decide) (by decide) 1 1 (by decide) (of_decide_eq_true rfl) at_250 rfl ?_
      intro T51 h51 X51 e51 W51 Aq
      have A40 := A40.other W51 ne_a40_a49
      have A45 := A45.other W51 ne_a45_a49
      have Z51 : n0 ≤ h51.size := by rw [W51.size]; exact Z50
      have N51 := Fr.snoc X51 N50 z_a49
      have A49 : Arv Z h51 a49 k49 .double (3 : Int32) [(.double (FP.l2d j6)), (.double (FP.l2d j7))] (.double (0 : UInt64)) := Aq
      refine g_dup C X51 (pc' := 252) at_251 rfl rfl ?_
      refine g_iconst C X51 (pc' := 253) at_252 (v := (2 : Int32)) (by decide) rfl ?_
      refine g_lload C X51 (pc' := 255) at_253 rfl rfl ?_
      refine g_l2d C X51 (pc' := 256) at_255 rfl ?_
      refine g_dastore C X51 (pc' := 257) e51 A49 (by decide) (by decide) 2 1 (by decide) (of_decide_eq_true rfl) at_256 rfl ?_
      intro T52 h52 X52 e52 W52 Aq
      have A40 := A40.other W52 ne_a40_a49
      have A45 := A45.other W52 ne_a45_a49
      have Z52 : n0 ≤ h52.size := by rw [W52.size]; exact Z51
      have N52 := Fr.snoc X52 N51 z_a49
      have A49 : Arv Z h52 a49 k49 .double (3 : Int32) [(.double (FP.l2d j6)), (.double (FP.l2d j7)), (.double (FP.l2d j8))] (.double (0 : UInt64)) := Aq
      refine g_astore C X52 (pc' := 259) at_257 rfl (l' := #[.val (.int p0), .val (.int p1), .val (.int p2), .val (.int p3), .val (.int p4), .val (.int (3 : Int32)), .val (.int i2), .val (.int zs), .val (.int i3), .val (.int i4), .val (.int i5), .val (.long j6), .second, .val (.long j7), .second, .val (.long j8), .second, .val (.long j9), .second, .val (.long j10), .second, .val (.long j11), .second, .val (.long j12), .second, .val (.ref a40), .val (.ref a45), .val (.ref a49), .unset, .unset, .unset, .unset, .unset, .unset]) rfl rfl ?_
      refine g_new C X52 (hw _ (List.mem_of_getElem? (i := 2) rfl)) (hw _ (List.mem_of_getElem? (i := 3) rfl)) (hw _ (List.mem_of_getElem? (i := 4) rfl)) e52 at_259 (by decide) (by decide) rfl ?_
      intro T53 h53 a53 g53 X53 e53 E53 A53 D53
      have ne_a40_a53 : a40 ≠ a53 := Nat.ne_of_lt (by rw [g53]; exact A40.lt)
      have ne_a45_a53 : a45 ≠ a53 := Nat.ne_of_lt (by rw [g53]; exact A45.lt)
      have ne_a49_a53 : a49 ≠ a53 := Nat.ne_of_lt (by rw [g53]; exact A49.lt)
      have z_a53 : n0 ≤ a53 := by rw [g53]; exact Z52
      have A40 := A40.ext E53
      have A45 := A45.ext E53
      have A49 := A49.ext E53
      have Z53 : n0 ≤ h53.size := Nat.le_trans Z52 E53.1
      refine g_dup C X53 (pc' := 263) at_262 rfl rfl ?_
      refine g_aload C X53 (pc' := 265) at_263 rfl rfl rfl ?_
      refine g_aload C X53 (pc' := 267) at_265 rfl rfl rfl ?_
      have F53_terms : ∃ w, Fld Z h53 a53 "com/example/kenning/kenning/retrieval/KMeans$Vector" "terms" "[I" w := ⟨_, D53 (Or.inr (hw _ (List.mem_of_getElem? (i := 17) rfl))) (ty := (.array .int)) (by decide)⟩
      have F53_weights : ∃ w, Fld Z h53 a53 "com/example/kenning/kenning/retrieval/KMeans$Vector" "weights" "[D" w := ⟨_, D53 (Or.inr (hw _ (List.mem_of_getElem? (i := 19) rfl))) (ty := (.array .double)) (by decide)⟩
      refine g_callI C X53 (c_init l Z a0 hw h53 n0 Z53 a53 z_a53 a45 a49 A53 F53_terms F53_weights) rfl (hw _ (List.mem_of_getElem? (i := 5) rfl)) (hw _ (List.mem_of_getElem? (i := 6) rfl)) (hw _ (List.mem_of_getElem? (i := 4) rfl)) (hw _ (List.mem_of_getElem? (i := 7) rfl)) (by decide) e53 at_267 rfl pdI a53 [(.ref a45), (.ref a49)] [(.ref a53)] rfl rfl rfl 1 rfl (by decide) (by decide) (by decide) (by decide) rfl ?_
      rintro _ T54 L54 X54 ⟨rfl, M54, K54, Aq, Ft54, Fw54⟩
      have A40 := A40.keep K54 (ninS ne_a40_a53 nin0)
      have A45 := A45.keep K54 (ninS ne_a45_a53 nin0)
      have A49 := A49.keep K54 (ninS ne_a49_a53 nin0)
      have A53 := A53.keep K54
      have Z54 : n0 ≤ T54.heap.size := Nat.le_trans Z53 K54.1
      have N54 := Fr.app N52 M54
      obtain ⟨h54, e54⟩ : ∃ z, T54.heap = z := ⟨_, rfl⟩
      rw [e54] at A40 A45 A49 A53 Ft54 Fw54 Z54
      show Go p.tables e below _ T54 (mkF m 270 #[.val (.int p0), .val (.int p1), .val (.int p2), .val (.int p3), .val (.int p4), .val (.int (3 : Int32)), .val (.int i2), .val (.int zs), .val (.int i3), .val (.int i4), .val (.int i5), .val (.long j6), .second, .val (.long j7), .second, .val (.long j8), .second, .val (.long j9), .second, .val (.long j10), .second, .val (.long j11), .second, .val (.long j12), .second, .val (.ref a40), .val (.ref a45), .val (.ref a49), .unset, .unset, .unset, .unset, .unset, .unset] [(.ref a53)])
      refine g_astore C X54 (pc' := 272) at_270 rfl (l' := #[.val (.int p0), .val (.int p1), .val (.int p2), .val (.int p3), .val (.int p4), .val (.int (3 : Int32)), .val (.int i2), .val (.int zs), .val (.int i3), .val (.int i4), .val (.int i5), .val (.long j6), .second, .val (.long j7), .second, .val (.long j8), .second, .val (.long j9), .second, .val (.long j10), .second, .val (.long j11), .second, .val (.long j12), .second, .val (.ref a40), .val (.ref a45), .val (.ref a49), .val (.ref a53), .unset, .unset, .unset, .unset, .unset]) rfl rfl ?_
      refine g_aload C X54 (pc' := 274) at_272 rfl rfl rfl ?_
      refine g_aload C X54 (pc' := 276) at_274 rfl rfl rfl ?_
      have ra0 := own_atr i3 bd0 bd1 bd2 bd3
      have ra1 := own_atr i4 bd0 bd1 bd2 bd3
      have ra2 := own_atr i5 bd0 bd1 bd2 bd3
      refine g_callV C X54 (c_dot3 l Z a0 hw h54 a53 a40 a45 a49 k45 k49 k40 (FP.l2d j9) (FP.l2d j10) (FP.l2d j11) (FP.l2d j12) i3 (FP.l2d j6) (FP.l2d (own_at i3 j9 j10 j11 j12)) _ _ (l2d_D (x := j6) (by show _ ≤ 9007199254740992; omega)) (l2d_D (by show _ ≤ 9007199254740992; omega)) bt0 (own_get i3 j9 j10 j11 j12 bt0) bw0 ra0 i4 (FP.l2d j7) (FP.l2d (own_at i4 j9 j10 j11 j12)) _ _ (l2d_D (x := j7) (by show _ ≤ 9007199254740992; omega)) (l2d_D (by show _ ≤ 9007199254740992; omega)) bt1 (own_get i4 j9 j10 j11 j12 bt1) bw1 ra1 i5 (FP.l2d j8) (FP.l2d (own_at i5 j9 j10 j11 j12)) _ _ (l2d_D (x := j8) (by show _ ≤ 9007199254740992; omega)) (l2d_D (by show _ ≤ 9007199254740992; omega)) bt2 (own_get i5 j9 j10 j11 j12 bt2) bw2 ra2 Ft54 Fw54 A45 A49 A40) (hw _ (List.mem_of_getElem? (i := 20) rfl)) (hw _ (List.mem_of_getElem? (i := 21) rfl)) (hw _ (List.mem_of_getElem? (i := 23) rfl)) (hw _ (List.mem_of_getElem? (i := 22) rfl)) (hw _ (List.mem_of_getElem? (i := 4) rfl)) (hw _ (List.mem_of_getElem? (i := 24) rfl)) (by decide) e54 A53 at_276 rfl pdD [(.ref a40)] [] rfl rfl rfl 0 rfl (by decide) (by decide) (by decide) (by decide) rfl ?_
      rintro _ T55 _ X55 ⟨r55, rfl, D_r55, rfl, e55⟩
      rw [List.append_nil] at X55
      show Go p.tables e below _ T55 (mkF m 279 #[.val (.int p0), .val (.int p1), .val (.int p2), .val (.int p3), .val (.int p4), .val (.int (3 : Int32)), .val (.int i2), .val (.int zs), .val (.int i3), .val (.int i4), .val (.int i5), .val (.long j6), .second, .val (.long j7), .second, .val (.long j8), .second, .val (.long j9), .second, .val (.long j10), .second, .val (.long j11), .second, .val (.long j12), .second, .val (.ref a40), .val (.ref a45), .val (.ref a49), .val (.ref a53), .unset, .unset, .unset, .unset, .unset] [(.double r55)])
      refine g_dstore C X55 (pc' := 281) at_279 (x := r55) rfl (l' := #[.val (.int p0), .val (.int p1), .val (.int p2), .val (.int p3), .val (.int p4), .val (.int (3 : Int32)), .val (.int i2), .val (.int zs), .val (.int i3), .val (.int i4), .val (.int i5), .val (.long j6), .second, .val (.long j7), .second, .val (.long j8), .second, .val (.long j9), .second, .val (.long j10), .second, .val (.long j11), .second, .val (.long j12), .second, .val (.ref a40), .val (.ref a45), .val (.ref a49), .val (.ref a53), .val (.double r55), .second, .unset, .unset, .unset]) rfl rfl ?_
      refine g_lconst C X55 (pc' := 282) at_281 (v := (0 : Int64)) (by decide) rfl ?_
      refine g_lstore C X55 (pc' := 284) at_282 (x := (0 : Int64)) rfl (l' := #[.val (.int p0), .val (.int p1), .val (.int p2), .val (.int p3), .val (.int p4), .val (.int (3 : Int32)), .val (.int i2), .val (.int zs), .val (.int i3), .val (.int i4), .val (.int i5), .val (.long j6), .second, .val (.long j7), .second, .val (.long j8), .second, .val (.long j9), .second, .val (.long j10), .second, .val (.long j11), .second, .val (.long j12), .second, .val (.ref a40), .val (.ref a45), .val (.ref a49), .val (.ref a53), .val (.double r55), .second, .val (.long (0 : Int64)), .second, .unset]) rfl rfl ?_
      refine g_iload C X55 (pc' := 286) at_284 rfl rfl ?_
      refine g_iconst C X55 (pc' := 287) at_286 (v := (1 : Int32)) (by decide) rfl ?_
      refine g_icmpN C X55 at_287 (by decide) rfl ?_
      refine g_lload C X55 (pc' := 292) at_290 rfl rfl ?_
      refine g_lload C X55 (pc' := 294) at_292 rfl rfl ?_
      refine g_iload C X55 (pc' := 296) at_294 rfl rfl ?_
      refine g_lload C X55 (pc' := 298) at_296 rfl rfl ?_
      refine g_lload C X55 (pc' := 300) at_298 rfl rfl ?_
      refine g_lload C X55 (pc' := 302) at_300 rfl rfl ?_
      refine g_lload C X55 (pc' := 304) at_302 rfl rfl ?_
      refine g_callS C X55 (c_at l Z h54 i3 j9 j10 j11 j12) (hw _ (List.mem_of_getElem? (i := 25) rfl)) (hw _ (List.mem_of_getElem? (i := 26) rfl)) (hw _ (List.mem_of_getElem? (i := 27) rfl)) (hw _ (List.mem_of_getElem? (i := 28) rfl)) (by decide) e55 at_304 rfl pdA [(.int i3), (.long j9), (.long j10), (.long j11), (.long j12)] [(.long j6), (.long (0 : Int64))] rfl rfl rfl 4 rfl (by decide) (by decide) (by decide) (by decide) rfl ?_
      rintro _ T56 _ X56 ⟨rfl, rfl, e56⟩
      rw [List.append_nil] at X56
      show Go p.tables e below _ T56 (mkF m 307 #[.val (.int p0), .val (.int p1), .val (.int p2), .val (.int p3), .val (.int p4), .val (.int (3 : Int32)), .val (.int i2), .val (.int zs), .val (.int i3), .val (.int i4), .val (.int i5), .val (.long j6), .second, .val (.long j7), .second, .val (.long j8), .second, .val (.long j9), .second, .val (.long j10), .second, .val (.long j11), .second, .val (.long j12), .second, .val (.ref a40), .val (.ref a45), .val (.ref a49), .val (.ref a53), .val (.double r55), .second, .val (.long (0 : Int64)), .second, .unset] [(.long (own_at i3 j9 j10 j11 j12)), (.long j6), (.long (0 : Int64))])
      refine g_lmul C X56 (pc' := 308) at_307 rfl ?_
      refine g_ladd C X56 (pc' := 309) at_308 rfl ?_
      obtain ⟨j24, e_j24⟩ : ∃ z : Int64, z = (0 : Int64) + (j6 * (own_at i3 j9 j10 j11 j12)) := ⟨_, rfl⟩
      refine g_lstore C X56 (pc' := 311) at_309 (x := j24) e_j24 (l' := #[.val (.int p0), .val (.int p1), .val (.int p2), .val (.int p3), .val (.int p4), .val (.int (3 : Int32)), .val (.int i2), .val (.int zs), .val (.int i3), .val (.int i4), .val (.int i5), .val (.long j6), .second, .val (.long j7), .second, .val (.long j8), .second, .val (.long j9), .second, .val (.long j10), .second, .val (.long j11), .second, .val (.long j12), .second, .val (.ref a40), .val (.ref a45), .val (.ref a49), .val (.ref a53), .val (.double r55), .second, .val (.long j24), .second, .unset]) rfl rfl ?_
      refine g_iload C X56 (pc' := 313) at_311 rfl rfl ?_
      refine g_iconst C X56 (pc' := 314) at_313 (v := (2 : Int32)) (by decide) rfl ?_
      refine g_icmpN C X56 at_314 (by decide) rfl ?_
      refine g_lload C X56 (pc' := 319) at_317 rfl rfl ?_
      refine g_lload C X56 (pc' := 321) at_319 rfl rfl ?_
      refine g_iload C X56 (pc' := 323) at_321 rfl rfl ?_
      refine g_lload C X56 (pc' := 325) at_323 rfl rfl ?_
      refine g_lload C X56 (pc' := 327) at_325 rfl rfl ?_
      refine g_lload C X56 (pc' := 329) at_327 rfl rfl ?_
      refine g_lload C X56 (pc' := 331) at_329 rfl rfl ?_
      refine g_callS C X56 (c_at l Z h54 i4 j9 j10 j11 j12) (hw _ (List.mem_of_getElem? (i := 25) rfl)) (hw _ (List.mem_of_getElem? (i := 26) rfl)) (hw _ (List.mem_of_getElem? (i := 27) rfl)) (hw _ (List.mem_of_getElem? (i := 28) rfl)) (by decide) e56 at_331 rfl pdA [(.int i4), (.long j9), (.long j10), (.long j11), (.long j12)] [(.long j7), (.long j24)] rfl rfl rfl 4 rfl (by decide) (by decide) (by decide) (by decide) rfl ?_
      rintro _ T57 _ X57 ⟨rfl, rfl, e57⟩
      rw [List.append_nil] at X57
      show Go p.tables e below _ T57 (mkF m 334 #[.val (.int p0), .val (.int p1), .val (.int p2), .val (.int p3), .val (.int p4), .val (.int (3 : Int32)), .val (.int i2), .val (.int zs), .val (.int i3), .val (.int i4), .val (.int i5), .val (.long j6), .second, .val (.long j7), .second, .val (.long j8), .second, .val (.long j9), .second, .val (.long j10), .second, .val (.long j11), .second, .val (.long j12), .second, .val (.ref a40), .val (.ref a45), .val (.ref a49), .val (.ref a53), .val (.double r55), .second, .val (.long j24), .second, .unset] [(.long (own_at i4 j9 j10 j11 j12)), (.long j7), (.long j24)])
      refine g_lmul C X57 (pc' := 335) at_334 rfl ?_
      refine g_ladd C X57 (pc' := 336) at_335 rfl ?_
      obtain ⟨j25, e_j25⟩ : ∃ z : Int64, z = j24 + (j7 * (own_at i4 j9 j10 j11 j12)) := ⟨_, rfl⟩
      refine g_lstore C X57 (pc' := 338) at_336 (x := j25) e_j25 (l' := #[.val (.int p0), .val (.int p1), .val (.int p2), .val (.int p3), .val (.int p4), .val (.int (3 : Int32)), .val (.int i2), .val (.int zs), .val (.int i3), .val (.int i4), .val (.int i5), .val (.long j6), .second, .val (.long j7), .second, .val (.long j8), .second, .val (.long j9), .second, .val (.long j10), .second, .val (.long j11), .second, .val (.long j12), .second, .val (.ref a40), .val (.ref a45), .val (.ref a49), .val (.ref a53), .val (.double r55), .second, .val (.long j25), .second, .unset]) rfl rfl ?_
      refine g_iload C X57 (pc' := 340) at_338 rfl rfl ?_
      refine g_iconst C X57 (pc' := 341) at_340 (v := (3 : Int32)) (by decide) rfl ?_
      refine g_icmpN C X57 at_341 (by decide) rfl ?_
      refine g_lload C X57 (pc' := 346) at_344 rfl rfl ?_
      refine g_lload C X57 (pc' := 348) at_346 rfl rfl ?_
      refine g_iload C X57 (pc' := 350) at_348 rfl rfl ?_
      refine g_lload C X57 (pc' := 352) at_350 rfl rfl ?_
      refine g_lload C X57 (pc' := 354) at_352 rfl rfl ?_
      refine g_lload C X57 (pc' := 356) at_354 rfl rfl ?_
      refine g_lload C X57 (pc' := 358) at_356 rfl rfl ?_
      refine g_callS C X57 (c_at l Z h54 i5 j9 j10 j11 j12) (hw _ (List.mem_of_getElem? (i := 25) rfl)) (hw _ (List.mem_of_getElem? (i := 26) rfl)) (hw _ (List.mem_of_getElem? (i := 27) rfl)) (hw _ (List.mem_of_getElem? (i := 28) rfl)) (by decide) e57 at_358 rfl pdA [(.int i5), (.long j9), (.long j10), (.long j11), (.long j12)] [(.long j8), (.long j25)] rfl rfl rfl 4 rfl (by decide) (by decide) (by decide) (by decide) rfl ?_
      rintro _ T58 _ X58 ⟨rfl, rfl, e58⟩
      rw [List.append_nil] at X58
      show Go p.tables e below _ T58 (mkF m 361 #[.val (.int p0), .val (.int p1), .val (.int p2), .val (.int p3), .val (.int p4), .val (.int (3 : Int32)), .val (.int i2), .val (.int zs), .val (.int i3), .val (.int i4), .val (.int i5), .val (.long j6), .second, .val (.long j7), .second, .val (.long j8), .second, .val (.long j9), .second, .val (.long j10), .second, .val (.long j11), .second, .val (.long j12), .second, .val (.ref a40), .val (.ref a45), .val (.ref a49), .val (.ref a53), .val (.double r55), .second, .val (.long j25), .second, .unset] [(.long (own_at i5 j9 j10 j11 j12)), (.long j8), (.long j25)])
      refine g_lmul C X58 (pc' := 362) at_361 rfl ?_
      refine g_ladd C X58 (pc' := 363) at_362 rfl ?_
      obtain ⟨j26, e_j26⟩ : ∃ z : Int64, z = j25 + (j8 * (own_at i5 j9 j10 j11 j12)) := ⟨_, rfl⟩
      refine g_lstore C X58 (pc' := 365) at_363 (x := j26) e_j26 (l' := #[.val (.int p0), .val (.int p1), .val (.int p2), .val (.int p3), .val (.int p4), .val (.int (3 : Int32)), .val (.int i2), .val (.int zs), .val (.int i3), .val (.int i4), .val (.int i5), .val (.long j6), .second, .val (.long j7), .second, .val (.long j8), .second, .val (.long j9), .second, .val (.long j10), .second, .val (.long j11), .second, .val (.long j12), .second, .val (.ref a40), .val (.ref a45), .val (.ref a49), .val (.ref a53), .val (.double r55), .second, .val (.long j26), .second, .unset]) rfl rfl ?_
      refine g_aload C X58 (pc' := 367) at_365 rfl rfl rfl ?_
      refine g_iconst C X58 (pc' := 368) at_367 (v := (0 : Int32)) (by decide) rfl ?_
      refine g_daload C X58 (pc' := 369) e58 A40 (by decide) (by decide) 0 (by decide) rfl at_368 rfl ?_
      refine g_lload C X58 (pc' := 371) at_369 rfl rfl ?_
      refine g_l2d C X58 (pc' := 372) at_371 rfl ?_
      refine g_dcmpV C X58 at_372 (v := (0 : Int32)) ((dcmp_cmpI (l2d_D (x := j9) (by show _ ≤ 9007199254740992; omega)) (l2d_D (x := j9) (by show _ ≤ 9007199254740992; omega)) _).trans (cmpI_self _)) rfl ?_
      refine g_ifN C X58 at_373 (by decide) rfl ?_
      refine g_aload C X58 (pc' := 378) at_376 rfl rfl rfl ?_
      refine g_iconst C X58 (pc' := 379) at_378 (v := (1 : Int32)) (by decide) rfl ?_
      refine g_daload C X58 (pc' := 380) e58 A40 (by decide) (by decide) 1 (by decide) rfl at_379 rfl ?_
      refine g_lload C X58 (pc' := 382) at_380 rfl rfl ?_
      refine g_l2d C X58 (pc' := 383) at_382 rfl ?_
      refine g_dcmpV C X58 at_383 (v := (0 : Int32)) ((dcmp_cmpI (l2d_D (x := j10) (by show _ ≤ 9007199254740992; omega)) (l2d_D (x := j10) (by show _ ≤ 9007199254740992; omega)) _).trans (cmpI_self _)) rfl ?_
      refine g_ifN C X58 at_384 (by decide) rfl ?_
      refine g_aload C X58 (pc' := 389) at_387 rfl rfl rfl ?_
      refine g_iconst C X58 (pc' := 390) at_389 (v := (2 : Int32)) (by decide) rfl ?_
      refine g_daload C X58 (pc' := 391) e58 A40 (by decide) (by decide) 2 (by decide) rfl at_390 rfl ?_
      refine g_lload C X58 (pc' := 393) at_391 rfl rfl ?_
      refine g_l2d C X58 (pc' := 394) at_393 rfl ?_
      refine g_dcmpV C X58 at_394 (v := (0 : Int32)) ((dcmp_cmpI (l2d_D (x := j11) (by show _ ≤ 9007199254740992; omega)) (l2d_D (x := j11) (by show _ ≤ 9007199254740992; omega)) _).trans (cmpI_self _)) rfl ?_
      refine g_ifN C X58 at_395 (by decide) rfl ?_
      refine g_aload C X58 (pc' := 400) at_398 rfl rfl rfl ?_
      refine g_iconst C X58 (pc' := 401) at_400 (v := (3 : Int32)) (by decide) rfl ?_
      refine g_daload C X58 (pc' := 402) e58 A40 (by decide) (by decide) 3 (by decide) rfl at_401 rfl ?_
      refine g_lload C X58 (pc' := 404) at_402 rfl rfl ?_
      refine g_l2d C X58 (pc' := 405) at_404 rfl ?_
      refine g_dcmpV C X58 at_405 (v := (0 : Int32)) ((dcmp_cmpI (l2d_D (x := j12) (by show _ ≤ 9007199254740992; omega)) (l2d_D (x := j12) (by show _ ≤ 9007199254740992; omega)) _).trans (cmpI_self _)) rfl ?_
      refine g_ifN C X58 at_406 (by decide) rfl ?_
      refine g_iconst C X58 (pc' := 410) at_409 (v := (1 : Int32)) (by decide) rfl ?_
      refine g_goto C X58 at_410 (pc' := 414) (by decide) (by decide) ?_
      refine g_istore C X58 (pc' := 416) at_414 (x := (1 : Int32)) rfl (l' := #[.val (.int p0), .val (.int p1), .val (.int p2), .val (.int p3), .val (.int p4), .val (.int (3 : Int32)), .val (.int i2), .val (.int zs), .val (.int i3), .val (.int i4), .val (.int i5), .val (.long j6), .second, .val (.long j7), .second, .val (.long j8), .second, .val (.long j9), .second, .val (.long j10), .second, .val (.long j11), .second, .val (.long j12), .second, .val (.ref a40), .val (.ref a45), .val (.ref a49), .val (.ref a53), .val (.double r55), .second, .val (.long j26), .second, .val (.int (1 : Int32))]) rfl rfl ?_
      refine g_dload C X58 (pc' := 418) at_416 rfl rfl ?_
      refine g_lload C X58 (pc' := 420) at_418 rfl rfl ?_
      have ek30 : (0 : Int64).toInt = 0 := by decide
      have rk30 : 0 ≤ (0 : Int) ∧ (0 : Int) ≤ 0 := by decide
      have rm31 : -1073741824 ≤ j6.toInt * ((own_at i3 j9 j10 j11 j12).toInt) ∧ j6.toInt * ((own_at i3 j9 j10 j11 j12).toInt) ≤ 1073741824 := own_m (X := 32768) (Y := 32768) (by omega) (by omega) (by omega) (by omega)
      have em31 : (j6 * (own_at i3 j9 j10 j11 j12)).toInt = j6.toInt * ((own_at i3 j9 j10 j11 j12).toInt) := by rw [own_mul (by rw [(rfl : j6.toInt = j6.toInt), (rfl : (own_at i3 j9 j10 j11 j12).toInt = (own_at i3 j9 j10 j11 j12).toInt)]; omega) (by rw [(rfl : j6.toInt = j6.toInt), (rfl : (own_at i3 j9 j10 j11 j12).toInt = (own_at i3 j9 j10 j11 j12).toInt)]; omega), (rfl : j6.toInt = j6.toInt), (rfl : (own_at i3 j9 j10 j11 j12).toInt = (own_at i3 j9 j10 j11 j12).toInt)]
      have em29 : ((0 : Int64) + (j6 * (own_at i3 j9 j10 j11 j12))).toInt = 0 + (j6.toInt * ((own_at i3 j9 j10 j11 j12).toInt)) := by rw [own_add (by rw [ek30, em31]; omega) (by rw [ek30, em31]; omega), ek30, em31]
      have rm29 : -1073741824 ≤ 0 + (j6.toInt * ((own_at i3 j9 j10 j11 j12).toInt)) ∧ 0 + (j6.toInt * ((own_at i3 j9 j10 j11 j12).toInt)) ≤ 1073741824 := by omega
      have ev_j24 : j24.toInt = 0 + (j6.toInt * ((own_at i3 j9 j10 j11 j12).toInt)) := by rw [e_j24]; exact em29
      have rm32 : -1073741824 ≤ j7.toInt * ((own_at i4 j9 j10 j11 j12).toInt) ∧ j7.toInt * ((own_at i4 j9 j10 j11 j12).toInt) ≤ 1073741824 := own_m (X := 32768) (Y := 32768) (by omega) (by omega) (by omega) (by omega)
      have em32 : (j7 * (own_at i4 j9 j10 j11 j12)).toInt = j7.toInt * ((own_at i4 j9 j10 j11 j12).toInt) := by rw [own_mul (by rw [(rfl : j7.toInt = j7.toInt), (rfl : (own_at i4 j9 j10 j11 j12).toInt = (own_at i4 j9 j10 j11 j12).toInt)]; omega) (by rw [(rfl : j7.toInt = j7.toInt), (rfl : (own_at i4 j9 j10 j11 j12).toInt = (own_at i4 j9 j10 j11 j12).toInt)]; omega), (rfl : j7.toInt = j7.toInt), (rfl : (own_at i4 j9 j10 j11 j12).toInt = (own_at i4 j9 j10 j11 j12).toInt)]
      have em28 : (j24 + (j7 * (own_at i4 j9 j10 j11 j12))).toInt = (0 + (j6.toInt * ((own_at i3 j9 j10 j11 j12).toInt))) + (j7.toInt * ((own_at i4 j9 j10 j11 j12).toInt)) := by rw [own_add (by rw [ev_j24, em32]; omega) (by rw [ev_j24, em32]; omega), ev_j24, em32]
      have rm28 : -2147483648 ≤ (0 + (j6.toInt * ((own_at i3 j9 j10 j11 j12).toInt))) + (j7.toInt * ((own_at i4 j9 j10 j11 j12).toInt)) ∧ (0 + (j6.toInt * ((own_at i3 j9 j10 j11 j12).toInt))) + (j7.toInt * ((own_at i4 j9 j10 j11 j12).toInt)) ≤ 2147483648 := by omega
      have ev_j25 : j25.toInt = (0 + (j6.toInt * ((own_at i3 j9 j10 j11 j12).toInt))) + (j7.toInt * ((own_at i4 j9 j10 j11 j12).toInt)) := by rw [e_j25]; exact em28
      have rm33 : -1073741824 ≤ j8.toInt * ((own_at i5 j9 j10 j11 j12).toInt) ∧ j8.toInt * ((own_at i5 j9 j10 j11 j12).toInt) ≤ 1073741824 := own_m (X := 32768) (Y := 32768) (by omega) (by omega) (by omega) (by omega)
      have em33 : (j8 * (own_at i5 j9 j10 j11 j12)).toInt = j8.toInt * ((own_at i5 j9 j10 j11 j12).toInt) := by rw [own_mul (by rw [(rfl : j8.toInt = j8.toInt), (rfl : (own_at i5 j9 j10 j11 j12).toInt = (own_at i5 j9 j10 j11 j12).toInt)]; omega) (by rw [(rfl : j8.toInt = j8.toInt), (rfl : (own_at i5 j9 j10 j11 j12).toInt = (own_at i5 j9 j10 j11 j12).toInt)]; omega), (rfl : j8.toInt = j8.toInt), (rfl : (own_at i5 j9 j10 j11 j12).toInt = (own_at i5 j9 j10 j11 j12).toInt)]
      have em27 : (j25 + (j8 * (own_at i5 j9 j10 j11 j12))).toInt = ((0 + (j6.toInt * ((own_at i3 j9 j10 j11 j12).toInt))) + (j7.toInt * ((own_at i4 j9 j10 j11 j12).toInt))) + (j8.toInt * ((own_at i5 j9 j10 j11 j12).toInt)) := by rw [own_add (by rw [ev_j25, em33]; omega) (by rw [ev_j25, em33]; omega), ev_j25, em33]
      have rm27 : -3221225472 ≤ ((0 + (j6.toInt * ((own_at i3 j9 j10 j11 j12).toInt))) + (j7.toInt * ((own_at i4 j9 j10 j11 j12).toInt))) + (j8.toInt * ((own_at i5 j9 j10 j11 j12).toInt)) ∧ ((0 + (j6.toInt * ((own_at i3 j9 j10 j11 j12).toInt))) + (j7.toInt * ((own_at i4 j9 j10 j11 j12).toInt))) + (j8.toInt * ((own_at i5 j9 j10 j11 j12).toInt)) ≤ 3221225472 := by omega
      have ev_j26 : j26.toInt = ((0 + (j6.toInt * ((own_at i3 j9 j10 j11 j12).toInt))) + (j7.toInt * ((own_at i4 j9 j10 j11 j12).toInt))) + (j8.toInt * ((own_at i5 j9 j10 j11 j12).toInt)) := by rw [e_j26]; exact em27
      refine g_l2d C X58 (pc' := 421) at_420 rfl ?_
      refine g_dcmpV C X58 (pc' := 422) at_421 (dcmp_cmpI D_r55 (l2d_D (x := j26) (by rw [ev_j26]; show _ ≤ 9007199254740992; omega)) _) rfl ?_
      refine g_if C X58 at_422 (pc' := 434) (pc'' := 425) (by decide) (by decide) rfl (fun c422 => ?_) (fun c422 => ?_)
      · have c422 : ¬ ((cmpI (0 + j6.toInt * (own_at i3 j9 j10 j11 j12).toInt + j7.toInt * (own_at i4 j9 j10 j11 j12).toInt + j8.toInt * (own_at i5 j9 j10 j11 j12).toInt) j26.toInt).toInt = 0) := c422
        have c422 : ¬ (0 + j6.toInt * (own_at i3 j9 j10 j11 j12).toInt + j7.toInt * (own_at i4 j9 j10 j11 j12).toInt + j8.toInt * (own_at i5 j9 j10 j11 j12).toInt = j26.toInt) := fun q => c422 ((cmpI_eq _ _).mpr q)
        refine g_iconst C X58 (pc' := 435) at_434 (v := (0 : Int32)) (by decide) rfl ?_
        exfalso; omega
      · have c422 : (cmpI (0 + j6.toInt * (own_at i3 j9 j10 j11 j12).toInt + j7.toInt * (own_at i4 j9 j10 j11 j12).toInt + j8.toInt * (own_at i5 j9 j10 j11 j12).toInt) j26.toInt).toInt = 0 := Decidable.not_not.mp c422
        have c422 : 0 + j6.toInt * (own_at i3 j9 j10 j11 j12).toInt + j7.toInt * (own_at i4 j9 j10 j11 j12).toInt + j8.toInt * (own_at i5 j9 j10 j11 j12).toInt = j26.toInt := (cmpI_eq _ _).mp c422
        refine g_iload C X58 (pc' := 427) at_425 rfl rfl ?_
        refine g_ifN C X58 at_427 (by decide) rfl ?_
        refine g_iconst C X58 (pc' := 431) at_430 (v := (1 : Int32)) (by decide) rfl ?_
        refine g_goto C X58 at_431 (pc' := 435) (by decide) (by decide) ?_
        exact g_zreturn C X58 at_435 (w := 1) (by decide) ⟨rfl, N54⟩ (by decide) (by decide)
  refine g_if C X0 at_17 (pc' := 24) (pc'' := 20) (by decide) (by decide) rfl (fun c17 => ?_) (fun c17 => ?_)
  · have c17 : ¬ (((XT.ushr p0 (4 : Int32)) &&& (1 : Int32)).toInt = 0) := c17
    refine g_iconst C X0 (pc' := 25) at_24 (v := (3 : Int32)) (by decide) rfl ?_
    exact J25 _
  · have c17 : ((XT.ushr p0 (4 : Int32)) &&& (1 : Int32)).toInt = 0 := Decidable.not_not.mp c17
    refine g_iconst C X0 (pc' := 21) at_20 (v := (1 : Int32)) (by decide) rfl ?_
    refine g_goto C X0 at_21 (pc' := 25) (by decide) (by decide) ?_
    exact J25 _
set_option maxRecDepth 65536 in
set_option maxHeartbeats 40000000 in
theorem comes_1 {Post : Tables → Env → Array Value → State → Outcome → State → Prop} (hpost : ∀ tb e args s v u, (limb_1_1.after args s (.returned v) u = true ∧ limb_1_2.after args s (.returned v) u = true ∧ True) → FrameEnd s (.returned v) u (Jvm.fieldLocs frame_1_writes args s ++ Jvm.arrayLocs frame_1_arrays args s ++ Jvm.staticLocs frame_1_statics s) 16 128 → Post tb e args s (.returned v) u) :
    ArmFor flags0 classFile x code maxLocals ret World_1 tables_1 room_1 Calls_1 rest_1 Pre_1 Post := by
  intro l hfl _ _ p e ha hc hk s m args below hf hA hF happ hP
  obtain ⟨hcalls, hrest, hpre⟩ := hP
  obtain ⟨-, -, -, hnamed, -, -, -, hat⟩ := (Spec.applies_iff hf).mp happ
  obtain ⟨hg, hn⟩ := and_e (Cond.before_iff.mp (show (Jvm.Cond.and given_1 narrow_1).before args s = true from hpre))
  obtain ⟨g_c, g_0⟩ := and_e hg
  obtain ⟨k_0, g_1⟩ := and_e g_0
  obtain ⟨k_1, g_2⟩ := and_e g_1
  obtain ⟨k_2, g_3⟩ := and_e g_2
  obtain ⟨k_3, g_4⟩ := and_e g_3
  have k_4 := g_4
  obtain ⟨w0, w1, w2, w3, w4, rfl⟩ : ∃ w0 w1 w2 w3 w4 : Value, args = #[w0, w1, w2, w3, w4] := by
    have hs : args.size = 5 := by simpa [Cond.value, given_1] using g_c
    obtain ⟨L⟩ := args
    match L, hs with
    | [w0, w1, w2, w3, w4], _ => exact ⟨w0, w1, w2, w3, w4, rfl⟩
  have hw := fun d (hd : d ∈ tables_1) => atoms_spec (ws := Jvm.Cond.code x code maxLocals ret :: tables_1) hat d (List.mem_cons_of_mem _ hd)
  have hfit : Fit s := fun {y c} hc i hi => by
    obtain ⟨ha, rfl⟩ := Array.getElem?_eq_some_iff.mp hc
    have q := List.all_eq_true.mp ((Array.all_eq_true_iff_forall_mem.mp hF) _ (Array.getElem_mem ha)) i (List.mem_range.mpr hi)
    simpa [Array.getElem?_eq_getElem hi] using q
  obtain ⟨p0, q_0⟩ := is_v k_0
  obtain rfl : w0 = (.int p0) := Option.some.inj q_0
  obtain ⟨p1, q_1⟩ := is_v k_1
  obtain rfl : w1 = (.int p1) := Option.some.inj q_1
  obtain ⟨p2, q_2⟩ := is_v k_2
  obtain rfl : w2 = (.int p2) := Option.some.inj q_2
  obtain ⟨p3, q_3⟩ := is_v k_3
  obtain rfl : w3 = (.int p3) := Option.some.inj q_3
  obtain ⟨p4, q_4⟩ := is_v k_4
  obtain rfl : w4 = (.int p4) := Option.some.inj q_4
  obtain ⟨n, o, h1, h2, h3, _, L, rfl, ⟨rfl, N⟩, hq⟩ := law l s _ hw p0 p1 p2 p3 p4 s.heap s.heap.size (Nat.le_refl _)  tables_1 p e ha hc hk s m _ below hf ((Spec.applies_iff_loose hf).mp happ).1 ⟨rfl, State.Warmed39.refl s, rfl⟩ trivial
  refine ⟨n, _, h1, h2, h3, hpost _ _ _ _ _ _ ⟨Cond.after_iff.mpr rfl, Cond.after_iff.mpr (eq_i res_at (Term.int_eval (1)) rfl), trivial⟩ ⟨hq.1, hq.2.1, (hq.2.2.sift fun y hy => Or.inr (N y hy)).mono (by decide) (by decide)⟩⟩
theorem main_1_1 : Claimed_1_1 := comes_1 fun _ _ _ _ _ _ h hF => ⟨h.1, hF⟩
theorem main_1_2 : Claimed_1_2 := comes_1 fun _ _ _ _ _ _ h hF => ⟨h.2.1, hF⟩
end Jvm.Pilot.@@N@@
namespace Jvm.Pilot.@@N@@
open Jvm Jvm.ClassFile Sem Op Lib Jvm.Free Jvm.Stand Jvm.Pilot.@@N@@.Jvm.D
/-! MADE BY PROGRAM (witnessworld.py) out of the Statement's table words and the real class files: 12 classes; the members and pool entries that the words name. The judged class is class 1, her method 1. -/
namespace start1
open Jvm.ClassFile
def u (s : String) : CpInfo := .utf8 (stringToUtf16 s)
/-- a pool by its gaps: so many unusable entries, then the entry; so many at the end -/
def gap : Nat → List CpInfo → List CpInfo
  | 0, r => r
  | n + 1, r => .unusable :: gap n r
def poolList (es : List (Nat × CpInfo)) (last : Nat) : List CpInfo := es.foldr (fun e r => gap e.1 (e.2 :: r)) (gap last [])
def pool (es : List (Nat × CpInfo)) (last : Nat) : Array CpInfo := ⟨poolList es last⟩
def fileOf (pool : Array CpInfo) (this : Nat) (attrs : Array Attribute := #[]) (ms : Array MethodInfo := #[]) (fl : Nat := 33) (sup : Nat := 0) (ifs : Array Nat := #[]) (fds : Array FieldInfo := #[]) : ClassFile where
  minorVersion := 0
  majorVersion := 65
  constantPool := pool
  accessFlags := fl
  thisClass := this
  superClass := sup
  interfaces := ifs
  fields := fds
  methods := ms
  attributes := attrs
def plain (name : String) (sup : Option ClassId) : Class where
  name := name
  kind := .ordinary
  loader := none
  accessFlags := 33
  super := sup
  interfaces := #[]
  cf := none
  fields := #[]
  methods := #[]
  instanceTypes := #[]
  staticTypes := #[]
  resolved := #[]
  callSites := []
  init := .initialized
  statics := none
  mirror := none

def pool0 : Array CpInfo := pool [(5, u "<init>"), (0, u "()V"), (1, .class_ 10), (1, u "java/lang/Object")] 113

def k0c0 : Code := { maxStack := 0, maxLocals := 1, code := object_method_1_code, exceptionTable := #[], attributes := #[] }
def k0m0 : Method := { name := "<init>", desc := "()V", sig := { parameters := [], returnType := none }, accessFlags := 1, code := some k0c0 }
/-- java/lang/Object -/
def k0 : Class := { plain "java/lang/Object" none with
  accessFlags := 33
  interfaces := #[]
  cf := some (fileOf pool0 8 #[] #[{ accessFlags := 1, nameIndex := 5, descriptorIndex := 6, attributes := #[] }] 33 0 #[] #[])
  fields := #[]
  methods := #[k0m0]
  instanceTypes := #[]
  staticTypes := #[]
  resolved := Array.replicate 124 none
  statics := none }

def pool1 : Array CpInfo := pool [(2, .class_ 4), (1, u "java/lang/Object"), (0, u "<init>"), (0, u "()V"), (0, .class_ 8), (0, u "com/example/kenning/kenning/retrieval/KMeans$Vector"), (0, .methodref 7 10), (0, .nameAndType 5 11), (0, u "([I[D)V"), (0, .methodref 7 13), (0, .nameAndType 14 15), (0, u "dot"), (0, u "([D)D"), (0, .methodref 17 18), (0, .class_ 19), (0, .nameAndType 20 21), (0, u "com/example/kenning/kenning/retrieval/VectorDotPinLaw"), (0, u "at"), (0, u "(IJJJJ)J"), (2, u "law"), (0, u "(IIIII)Z")] 11

def k1m0 : Method := { name := "<init>", desc := "()V", sig := { parameters := [], returnType := none }, accessFlags := 2, code := none }
def k1c1 : Code := { maxStack := 13, maxLocals := 34, code := code, exceptionTable := #[], attributes := #[] }
def k1m1 : Method := { name := "law", desc := "(IIIII)Z", sig := { parameters := [.int, .int, .int, .int, .int], returnType := some .boolean }, accessFlags := 9, code := some k1c1 }
def k1c2 : Code := { maxStack := 2, maxLocals := 9, code := method_3_code, exceptionTable := #[], attributes := #[] }
def k1m2 : Method := { name := "at", desc := "(IJJJJ)J", sig := { parameters := [.int, .long, .long, .long, .long], returnType := some .long }, accessFlags := 10, code := some k1c2 }
/-- com/example/kenning/kenning/retrieval/VectorDotPinLaw -/
def k1 : Class := { plain "com/example/kenning/kenning/retrieval/VectorDotPinLaw" (some 0) with
  accessFlags := 49
  interfaces := #[]
  cf := some (fileOf pool1 17 #[] #[{ accessFlags := 2, nameIndex := 5, descriptorIndex := 6, attributes := #[] }, { accessFlags := 9, nameIndex := 24, descriptorIndex := 25, attributes := #[] }, { accessFlags := 10, nameIndex := 20, descriptorIndex := 21, attributes := #[] }] 49 2 #[] #[])
  fields := #[]
  methods := #[k1m0, k1m1, k1m2]
  instanceTypes := #[]
  staticTypes := #[]
  resolved := Array.replicate 37 none
  statics := none }

def pool2 : Array CpInfo := pool [(1, .methodref 2 3), (0, .class_ 4), (0, .nameAndType 5 6), (0, u "java/lang/Object"), (0, u "<init>"), (0, u "()V"), (0, .class_ 8), (0, u "java/lang/Record")] 13

def k2c0 : Code := { maxStack := 1, maxLocals := 1, code := jdk_30_method_1_code, exceptionTable := #[], attributes := #[] }
def k2m0 : Method := { name := "<init>", desc := "()V", sig := { parameters := [], returnType := none }, accessFlags := 4, code := some k2c0 }
/-- java/lang/Record -/
def k2 : Class := { plain "java/lang/Record" (some 0) with
  accessFlags := 1057
  interfaces := #[]
  cf := some (fileOf pool2 7 #[] #[{ accessFlags := 4, nameIndex := 5, descriptorIndex := 6, attributes := #[] }] 1057 2 #[] #[])
  fields := #[]
  methods := #[k2m0]
  instanceTypes := #[]
  staticTypes := #[]
  resolved := Array.replicate 22 none
  statics := none }

def pool3 : Array CpInfo := pool [(1, .methodref 2 3), (0, .class_ 4), (0, .nameAndType 5 6), (0, u "java/lang/Record"), (0, u "<init>"), (0, u "()V"), (0, .fieldref 8 9), (0, .class_ 10), (0, .nameAndType 11 12), (0, u "com/example/kenning/kenning/retrieval/KMeans$Vector"), (0, u "terms"), (0, u "[I"), (0, .fieldref 8 14), (0, .nameAndType 15 16), (0, u "weights"), (0, u "[D"), (1, .class_ 20), (1, u "com/example/kenning/kenning/retrieval/KMeans"), (1, u "([D)D"), (12, u "([I[D)V"), (4, u "dot")] 31

def k3c0 : Code := { maxStack := 2, maxLocals := 3, code := prog_50_method_1_code, exceptionTable := #[], attributes := #[] }
def k3m0 : Method := { name := "<init>", desc := "([I[D)V", sig := { parameters := [(.array .int), (.array .double)], returnType := none }, accessFlags := 0, code := some k3c0 }
def k3c1 : Code := { maxStack := 7, maxLocals := 5, code := prog_50_method_3_code, exceptionTable := #[], attributes := #[] }
def k3m1 : Method := { name := "dot", desc := "([D)D", sig := { parameters := [(.array .double)], returnType := some .double }, accessFlags := 0, code := some k3c1 }
/-- com/example/kenning/kenning/retrieval/KMeans$Vector -/
def k3 : Class := { plain "com/example/kenning/kenning/retrieval/KMeans$Vector" (some 2) with
  accessFlags := 48
  interfaces := #[]
  cf := some (fileOf pool3 8 #[.nestHost 18] #[{ accessFlags := 0, nameIndex := 5, descriptorIndex := 35, attributes := #[] }, { accessFlags := 0, nameIndex := 40, descriptorIndex := 22, attributes := #[] }] 48 2 #[] #[{ accessFlags := 18, nameIndex := 11, descriptorIndex := 12, attributes := #[] }, { accessFlags := 18, nameIndex := 15, descriptorIndex := 16, attributes := #[] }])
  fields := #[{ name := "terms", type := (.array .int), accessFlags := 18, slot := 0, constantValue := 0 }, { name := "weights", type := (.array .double), accessFlags := 18, slot := 1, constantValue := 0 }]
  methods := #[k3m0, k3m1]
  instanceTypes := #[(.array .int), (.array .double)]
  staticTypes := #[]
  resolved := Array.replicate 72 none
  statics := none }

def pool4 : Array CpInfo := pool [(1, u "java/lang/Cloneable"), (0, .class_ 1), (0, u "java/lang/Object"), (0, .class_ 3)] 3

/-- java/lang/Cloneable -/
def k4 : Class := { plain "java/lang/Cloneable" (some 0) with
  accessFlags := 1537
  interfaces := #[]
  cf := some (fileOf pool4 2 #[] #[] 1537 4 #[] #[])
  fields := #[]
  methods := #[]
  instanceTypes := #[]
  staticTypes := #[]
  resolved := Array.replicate 8 none
  statics := none }

def pool5 : Array CpInfo := pool [(1, u "java/io/Serializable"), (0, .class_ 1), (0, u "java/lang/Object"), (0, .class_ 3)] 3

/-- java/io/Serializable -/
def k5 : Class := { plain "java/io/Serializable" (some 0) with
  accessFlags := 1537
  interfaces := #[]
  cf := some (fileOf pool5 2 #[] #[] 1537 4 #[] #[])
  fields := #[]
  methods := #[]
  instanceTypes := #[]
  staticTypes := #[]
  resolved := Array.replicate 8 none
  statics := none }

/-- the primitive byte -/
def k6 : Class := { plain "byte" none with kind := .primitive 'B', accessFlags := 0x411 }
/-- [B -/
def k7 : Class := { plain "[B" (some 0) with kind := .array 6 .byte, interfaces := #[4, 5], accessFlags := 1041 }

/-- the primitive double -/
def k8 : Class := { plain "double" none with kind := .primitive 'D', accessFlags := 0x411 }
/-- [D -/
def k9 : Class := { plain "[D" (some 0) with kind := .array 8 .double, interfaces := #[4, 5], accessFlags := 1041 }

/-- the primitive int -/
def k10 : Class := { plain "int" none with kind := .primitive 'I', accessFlags := 0x411 }
/-- [I -/
def k11 : Class := { plain "[I" (some 0) with kind := .array 10 .int, interfaces := #[4, 5], accessFlags := 1041 }

def heap : Heap := #[]
def classes : Array Class := #[k0, k1, k2, k3, k4, k5, k6, k7, k8, k9, k10, k11]
def interned : List (Array UInt16 × Addr) := []
def slotsUsed : Nat := 0
def theMethod : MethodId := ⟨1, 1⟩
def args0 : Array Value := #[.int 3, .int 7, .int 2, .int 4, .int 5]
def aboutOver (below : List Frame) : State where
  vm := { classes := classes, interned := interned.toArray }
  heap := heap
  slotsUsed := slotsUsed
  threads := #[{ frames := .invoking theMethod args0 :: below }]
def below0 : List Frame := [.native { method := ⟨0, 0⟩, args := #[] }]
def about1 : State := aboutOver below0
def p0 : Program := .bare "" "" ""
def e0 : Env := launch0.env 0 0 0
theorem w_frames : about1.frames = Frame.invoking theMethod args0 :: below0 := rfl
set_option maxRecDepth 65536 in
theorem w_args : argsFit about1.vm theMethod args0 = true := by decide +kernel
set_option maxRecDepth 65536 in
theorem w_heap : heapFits about1 = true := by decide +kernel
set_option maxRecDepth 65536 in
theorem w_runnable : about1.curStatus? = some .runnable := by decide +kernel
set_option maxRecDepth 65536 in
theorem w_alone : about1.alone = true := by decide +kernel
set_option maxRecDepth 65536 in
theorem w_named : about1.methodNamed? x = some theMethod := by decide +kernel
set_option maxRecDepth 65536 in
theorem w_hears : about1.hears theMethod below0 = true := by decide +kernel
set_option maxRecDepth 65536 in
theorem w_ripe : about1.ripe theMethod args0 below0 = true := by decide +kernel
theorem w_running : about1.status = .running := rfl
set_option maxRecDepth 65536 in
theorem w_room : about1.hasRoom e0.platform room_1 = true :=
  launch0.hasRoom_least _ room_1 (by decide +kernel) (by decide +kernel) (by decide +kernel) (by decide +kernel) (by decide +kernel) (by decide +kernel)
theorem allAtoms_all (ts : List Jvm.Cond) (a : Array Jvm.Value) (st : Jvm.State) : (allAtoms ts).before a st = ts.all (fun c => c.before a st) := by
  induction ts with
  | nil => rfl
  | cons c t ih =>
    show (Jvm.Cond.and c (allAtoms t)).before a st = _
    rw [Jvm.Cond.before_and, ih, List.all_cons]
def words1 : List Jvm.Cond := Jvm.Cond.code x code maxLocals ret :: tables_1
/-- a 'code' word, met by the world's own term for the bytes: nothing is compared byte by byte -/
theorem code_word {y : MethodName} {bytes : ByteArray} {mx : Nat} {rt : Option FieldType} {a : Array Value} {s : State} {m : MethodId} {meth : Method} {c : Code} (h1 : s.methodNamed? y = some m) (h2 : s.vm.method? m = some meth) (h3 : meth.code = some c) (h4 : c.code = bytes)
    (h5 : (c.maxLocals == mx && c.exceptionTable.isEmpty && decide (c.maxStack ≤ mostOperands) && decide (meth.sig.returnType = rt) && !meth.locks && decide (parseMethodDescriptor y.desc = some meth.sig)) = true) : (Jvm.Cond.code y bytes mx rt).before a s = true := by
  simp only [Bool.and_eq_true, beq_iff_eq, Bool.not_eq_true', decide_eq_true_eq] at h5
  obtain ⟨⟨⟨⟨⟨g1, g2⟩, g3⟩, g4⟩, g5⟩, g6⟩ := h5
  simp [Cond.before, Cond.holds, Cond.value, h1, h2, h3, h4, g1, g2, g3, g4, g5, g6]
def isCode : Jvm.Cond → Bool
  | .code _ _ _ _ => true
  | _ => false
theorem all_split {L : List Jvm.Cond} {P : Jvm.Cond → Bool} (h1 : L.all (fun c => isCode c || P c) = true) (h2 : ∀ c ∈ L.filter isCode, P c = true) : L.all P = true := by
  refine List.all_eq_true.mpr fun c hc => ?_
  have h := List.all_eq_true.mp h1 c hc
  rcases Bool.eq_false_or_eq_true (isCode c) with hi | hi
  · exact h2 c (List.mem_filter.mpr ⟨hc, hi⟩)
  · simpa [hi] using h
set_option maxRecDepth 65536 in
theorem w_c0 : (Jvm.Cond.code x code maxLocals ret).before args0 about1 = true := code_word (m := ⟨1, 1⟩) (meth := k1m1) (c := k1c1) (by decide +kernel) rfl rfl rfl (by decide +kernel)
set_option maxRecDepth 65536 in
theorem w_c1 : (Jvm.Cond.code ({ cls := "com/example/kenning/kenning/retrieval/KMeans$Vector", name := "<init>", desc := "([I[D)V" } : Jvm.MethodName) prog_50_method_1_code (3 : Nat) (Option.none : Option Jvm.ClassFile.FieldType)).before args0 about1 = true := code_word (m := ⟨3, 0⟩) (meth := k3m0) (c := k3c0) (by decide +kernel) rfl rfl rfl (by decide +kernel)
set_option maxRecDepth 65536 in
theorem w_c2 : (Jvm.Cond.code ({ cls := "java/lang/Record", name := "<init>", desc := "()V" } : Jvm.MethodName) jdk_30_method_1_code (1 : Nat) (Option.none : Option Jvm.ClassFile.FieldType)).before args0 about1 = true := code_word (m := ⟨2, 0⟩) (meth := k2m0) (c := k2c0) (by decide +kernel) rfl rfl rfl (by decide +kernel)
set_option maxRecDepth 65536 in
theorem w_c3 : (Jvm.Cond.code ({ cls := "java/lang/Object", name := "<init>", desc := "()V" } : Jvm.MethodName) object_method_1_code (1 : Nat) (Option.none : Option Jvm.ClassFile.FieldType)).before args0 about1 = true := code_word (m := ⟨0, 0⟩) (meth := k0m0) (c := k0c0) (by decide +kernel) rfl rfl rfl (by decide +kernel)
set_option maxRecDepth 65536 in
theorem w_c4 : (Jvm.Cond.code ({ cls := "com/example/kenning/kenning/retrieval/KMeans$Vector", name := "dot", desc := "([D)D" } : Jvm.MethodName) prog_50_method_3_code (5 : Nat) (Option.some Jvm.ClassFile.FieldType.double)).before args0 about1 = true := code_word (m := ⟨3, 1⟩) (meth := k3m1) (c := k3c1) (by decide +kernel) rfl rfl rfl (by decide +kernel)
set_option maxRecDepth 65536 in
theorem w_c5 : (Jvm.Cond.code ({ cls := "com/example/kenning/kenning/retrieval/VectorDotPinLaw", name := "at", desc := "(IJJJJ)J" } : Jvm.MethodName) method_3_code (9 : Nat) (Option.some Jvm.ClassFile.FieldType.long)).before args0 about1 = true := code_word (m := ⟨1, 2⟩) (meth := k1m2) (c := k1c2) (by decide +kernel) rfl rfl rfl (by decide +kernel)
def codes1 : List Jvm.Cond := [Jvm.Cond.code x code maxLocals ret, Jvm.Cond.code ({ cls := "com/example/kenning/kenning/retrieval/KMeans$Vector", name := "<init>", desc := "([I[D)V" } : Jvm.MethodName) prog_50_method_1_code (3 : Nat) (Option.none : Option Jvm.ClassFile.FieldType), Jvm.Cond.code ({ cls := "java/lang/Record", name := "<init>", desc := "()V" } : Jvm.MethodName) jdk_30_method_1_code (1 : Nat) (Option.none : Option Jvm.ClassFile.FieldType), Jvm.Cond.code ({ cls := "java/lang/Object", name := "<init>", desc := "()V" } : Jvm.MethodName) object_method_1_code (1 : Nat) (Option.none : Option Jvm.ClassFile.FieldType), Jvm.Cond.code ({ cls := "com/example/kenning/kenning/retrieval/KMeans$Vector", name := "dot", desc := "([D)D" } : Jvm.MethodName) prog_50_method_3_code (5 : Nat) (Option.some Jvm.ClassFile.FieldType.double), Jvm.Cond.code ({ cls := "com/example/kenning/kenning/retrieval/VectorDotPinLaw", name := "at", desc := "(IJJJJ)J" } : Jvm.MethodName) method_3_code (9 : Nat) (Option.some Jvm.ClassFile.FieldType.long)]
set_option maxRecDepth 65536 in
theorem codes_eq : words1.filter isCode = codes1 := rfl
theorem w_codes : ∀ c ∈ words1.filter isCode, c.before args0 about1 = true := by
  rw [codes_eq]
  intro c hc
  simp only [codes1, List.mem_cons, List.not_mem_nil, or_false] at hc
  rcases hc with rfl | rfl | rfl | rfl | rfl | rfl
  · exact w_c0
  · exact w_c1
  · exact w_c2
  · exact w_c3
  · exact w_c4
  · exact w_c5
set_option maxRecDepth 65536 in
theorem w_t1 : (words1.take 24).all (fun c => isCode c || c.before args0 about1) = true := by decide +kernel
set_option maxRecDepth 65536 in
theorem w_t2 : (words1.drop 24).all (fun c => isCode c || c.before args0 about1) = true := by decide +kernel
theorem w_tables : (allAtoms (Jvm.Cond.code x code maxLocals ret :: tables_1)).before args0 about1 = true := by
  rw [allAtoms_all]
  show words1.all (fun c => c.before args0 about1) = true
  refine all_split ?_ w_codes
  rw [← List.take_append_drop 24 words1, List.all_append, w_t1, w_t2]
  rfl
set_option maxRecDepth 65536 in
theorem w_case : (Jvm.Cond.and given_1 narrow_1).before args0 about1 = true := by decide +kernel
theorem w_applies : (headSpec (Jvm.Cond.code x code maxLocals ret :: tables_1) room_1).applies x e0.platform about1 = true :=
  (Spec.applies_iff w_frames).mpr ⟨w_running, w_runnable, w_alone, w_named, w_hears, w_ripe, w_room, w_tables⟩
theorem atStart : AtStart classFile x code maxLocals ret World_1 tables_1 room_1 Calls_1 rest_1 Pre_1 launch0 p0 e0 about1 theMethod args0 below0 :=
  ⟨lists_1, trivial, launch0.admits_env _ _ _, launch0.least_env, fairChoices_fair.cas, fairChoices_fair.clock, w_frames, w_args, w_heap, w_applies, trivial, trivial, w_case⟩
end start1
theorem witness_1 : WitnessClaimed_1 := ⟨start1.p0, start1.e0, start1.about1, start1.theMethod, start1.args0, start1.below0, start1.atStart⟩
end Jvm.Pilot.@@N@@
