import JvmDerived
import JvmDerived.Pilot.@@N@@Statement
import JvmDerived.Pilot.@@N@@Code
set_option linter.unusedVariables false
set_option linter.unusedSimpArgs false
namespace Jvm.OwnKit
open Sem ClassFile Op Lib Jvm.Stand Jvm.Free Jvm.LawKit Jvm.RoadKit
section Walk
variable {p : Program} {l : Launch} {e : Env} {R : Room} {s : State} {m : MethodId} {args : Array Value} {below : List Frame} {meth : Method} {c : Code} {T : State} {locs : List Loc} {cells slots : Nat} {Z : State} {a0 : Array Value} {h : Heap} {G : Outcome → State → Prop}
variable {x0 : MethodName} {code : ByteArray} {maxL : Nat} {ret : Option FieldType}
/-- what is still owed from the frame g on: the run ends, and G holds of the end -/
def Go (tb : Tables) (e : Env) (below : List Frame) (G : Outcome → State → Prop) (T : State) (g : JFrame) : Prop :=
  ∃ s₂ o, Steps tb e below (T.setTop g) s₂ ∧ s₂.status = .running ∧ Ended s₂ below o ∧ G o s₂
theorem Go.step {tb : Tables} {T T' : State} {g g' : JFrame} (q : ∀ t, Steps tb e below (T'.setTop g') t → Steps tb e below (T.setTop g) t) (k : Go tb e below G T' g') : Go tb e below G T g := by
  obtain ⟨s2, o, h1, h2⟩ := k
  exact ⟨s2, o, q _ h1, h2⟩
/-- what stands still while one body is walked -/
def Cx (p : Program) (l : Launch) (s : State) (m : MethodId) (meth : Method) (c : Code) (Z : State) (x0 : MethodName) (code : ByteArray) (maxL : Nat) (ret : Option FieldType) : Prop :=
  p.tables.exec = Jvm.exec ∧ Z.Warmed39 s.vm ∧ c.code = code ∧ c.maxLocals = maxL ∧ s.vm.findClass x0.cls = some m.cls ∧ meth.sig.returnType = ret ∧ meth.locks = false ∧ meth.name = x0.name
theorem Cx.exec (C : Cx p l s m meth c Z x0 code maxL ret) : p.tables.exec = Jvm.exec := C.1
theorem Cx.warm (C : Cx p l s m meth c Z x0 code maxL ret) : Z.Warmed39 s.vm := C.2.1
theorem Cx.bytes (C : Cx p l s m meth c Z x0 code maxL ret) : c.code = code := C.2.2.1
theorem Cx.maxl (C : Cx p l s m meth c Z x0 code maxL ret) : c.maxLocals = maxL := C.2.2.2.1
theorem Cx.own (C : Cx p l s m meth c Z x0 code maxL ret) : s.vm.findClass x0.cls = some m.cls := C.2.2.2.2.1
theorem Cx.rets (C : Cx p l s m meth c Z x0 code maxL ret) : meth.sig.returnType = ret := C.2.2.2.2.2.1
theorem Cx.unlocked (C : Cx p l s m meth c Z x0 code maxL ret) : meth.locks = false := C.2.2.2.2.2.2.1
theorem Cx.nm (C : Cx p l s m meth c Z x0 code maxL ret) : meth.name = x0.name := C.2.2.2.2.2.2.2
theorem Cx.at (C : Cx p l s m meth c Z x0 code maxL ret) {pc : Nat} {r : Except ClassFile.DecodeError (ClassFile.Instr × Nat)} (h2 : decode code pc = r) : decode c.code pc = r := hb C.bytes h2
/-- the end of a walk: what is returned, the heap and the places written answer Q -/
def End (s : State) (Q : Option Value → Heap → List Loc → Prop) (k n : Nat) (o : Outcome) (U : State) : Prop := ∃ v L, o = .returned v ∧ Q v U.heap L ∧ FrameEnd s o U L k n
/-- a body's contract at one call: the arguments as, the heap h -/
def Con (l : Launch) (Z : State) (y : MethodName) (bytes : ByteArray) (maxL : Nat) (ret : Option FieldType) (rm : Room) (as : Array Value) (h : Heap) (Q : Option Value → Heap → List Loc → Prop) : Prop :=
  ∀ ws, MetFree l y (head1 (Cond.code y bytes maxL ret :: ws) rm) (fun a U => a = as ∧ Z.Warmed39 U.vm ∧ U.heap = h) (fun _ _ _ _ _ => True) (fun _ U o U' => End U Q rm.cells rm.slots o U')
theorem con_of_go {rm : Room} {as : Array Value} {Q : Option Value → Heap → List Loc → Prop} {Ls : Array Slot} (hn : plainName x0.cls = true) (hef : ∀ m, entryFrame m as maxL = mkF m 0 Ls [])
    (H : ∀ (p : Program) (e : Env) (s : State) (m : MethodId) (below : List Frame) (meth : Method) (c : Code) (T : State), Cx p l s m meth c Z x0 code maxL ret → Stand p l e rm s m as below meth c T [] 0 0 → T.heap = h → Go p.tables e below (End s Q rm.cells rm.slots) T (mkF m 0 Ls [])) :
    Con l Z x0 code maxL ret rm as h Q := by
  intro ws
  refine MetFree.of_bodySF (plainFor_of_name hn) hisR ?_
  intro p e s m args below meth c s₁ Bd hml hP hK
  obtain ⟨rfl, hZ, hh⟩ := hP
  have X0 : Stand p l e rm s m args below meth c s₁ [] 0 0 := Stand.of_body Bd
  have e0 : s₁.heap = h := by rw [← hh, Bd.state]; rfl
  have q := H p e s m below meth c s₁ ⟨Bd.exec, hZ, Bd.bytes, hml, findClass_of_methodNamed Bd.named, Bd.returns, Bd.notSynchronized, (name_of_methodNamed Bd.named Bd.method).1⟩ X0 e0
  rw [hef]
  exact q
theorem g_aloadN (C : Cx p l s m meth c Z x0 code maxL ret) (X : Stand p l e R s m args below meth c T locs cells slots) {pc pc' : Nat} {Ls : Array Slot} {st : List Value} {k : Fin 4} {v : Value} (hd : decode code pc = .ok (.aload_n k, 1)) (hl : Ls[k.val]? = some (.val v)) (hv : v.isRef = true) (hp : pc + 1 = pc')
    (K : Go p.tables e below G T (mkF m pc' Ls (v :: st))) : Go p.tables e below G T (mkF m pc Ls (st)) := by
  subst hp; exact Go.step (fun _ k => XS.aloadN X.here C.exec rfl (C.at hd) hl hv k) K
theorem g_aload (C : Cx p l s m meth c Z x0 code maxL ret) (X : Stand p l e R s m args below meth c T locs cells slots) {pc pc' : Nat} {Ls : Array Slot} {st : List Value} {k : Nat} {v : Value} (hd : decode code pc = .ok (.aload k, 2)) (hl : Ls[k]? = some (.val v)) (hv : v.isRef = true) (hp : pc + 2 = pc')
    (K : Go p.tables e below G T (mkF m pc' Ls (v :: st))) : Go p.tables e below G T (mkF m pc Ls (st)) := by
  subst hp; exact Go.step (fun _ k => XS.aload X.here C.exec rfl (C.at hd) hl hv k) K
theorem g_iloadN (C : Cx p l s m meth c Z x0 code maxL ret) (X : Stand p l e R s m args below meth c T locs cells slots) {pc pc' : Nat} {Ls : Array Slot} {st : List Value} {k : Fin 4} {v : Int32} (hd : decode code pc = .ok (.iload_n k, 1)) (hl : Ls[k.val]? = some (.val (.int v))) (hp : pc + 1 = pc')
    (K : Go p.tables e below G T (mkF m pc' Ls (.int v :: st))) : Go p.tables e below G T (mkF m pc Ls (st)) := by
  subst hp; exact Go.step (fun _ k => XS.iloadN X.here C.exec rfl (C.at hd) hl k) K
theorem g_iload (C : Cx p l s m meth c Z x0 code maxL ret) (X : Stand p l e R s m args below meth c T locs cells slots) {pc pc' : Nat} {Ls : Array Slot} {st : List Value} {k : Nat} {v : Int32} (hd : decode code pc = .ok (.iload k, 2)) (hl : Ls[k]? = some (.val (.int v))) (hp : pc + 2 = pc')
    (K : Go p.tables e below G T (mkF m pc' Ls (.int v :: st))) : Go p.tables e below G T (mkF m pc Ls (st)) := by
  subst hp; exact Go.step (fun _ k => XS.iload X.here C.exec rfl (C.at hd) hl k) K
theorem g_istoreN (C : Cx p l s m meth c Z x0 code maxL ret) (X : Stand p l e R s m args below meth c T locs cells slots) {pc pc' : Nat} {Ls : Array Slot} {st : List Value} {k : Fin 4} {x y : Int32} {l' : Array Slot} (hd : decode code pc = .ok (.istore_n k, 1)) (hv : x = y) (hl : storeLocals Ls k.val (.int x) = some l') (hp : pc + 1 = pc')
    (K : Go p.tables e below G T (mkF m pc' l' (st))) : Go p.tables e below G T (mkF m pc Ls (.int y :: st)) := by
  subst hp; subst hv; exact Go.step (fun _ k => XS.istoreN X.here C.exec rfl (C.at hd) rfl hl k) K
theorem g_istore (C : Cx p l s m meth c Z x0 code maxL ret) (X : Stand p l e R s m args below meth c T locs cells slots) {pc pc' : Nat} {Ls : Array Slot} {st : List Value} {k : Nat} {x y : Int32} {l' : Array Slot} (hd : decode code pc = .ok (.istore k, 2)) (hv : x = y) (hl : storeLocals Ls k (.int x) = some l') (hp : pc + 2 = pc')
    (K : Go p.tables e below G T (mkF m pc' l' (st))) : Go p.tables e below G T (mkF m pc Ls (.int y :: st)) := by
  subst hp; subst hv; exact Go.step (fun _ k => XS.istore X.here C.exec rfl (C.at hd) rfl hl k) K
theorem g_lloadN (C : Cx p l s m meth c Z x0 code maxL ret) (X : Stand p l e R s m args below meth c T locs cells slots) {pc pc' : Nat} {Ls : Array Slot} {st : List Value} {k : Fin 4} {v : Int64} (hd : decode code pc = .ok (.lload_n k, 1)) (hl : Ls[k.val]? = some (.val (.long v))) (hp : pc + 1 = pc')
    (K : Go p.tables e below G T (mkF m pc' Ls (.long v :: st))) : Go p.tables e below G T (mkF m pc Ls (st)) := by
  subst hp; exact Go.step (fun _ k => XT.lloadN X.here C.exec rfl (C.at hd) hl k) K
theorem g_lload (C : Cx p l s m meth c Z x0 code maxL ret) (X : Stand p l e R s m args below meth c T locs cells slots) {pc pc' : Nat} {Ls : Array Slot} {st : List Value} {k : Nat} {v : Int64} (hd : decode code pc = .ok (.lload k, 2)) (hl : Ls[k]? = some (.val (.long v))) (hp : pc + 2 = pc')
    (K : Go p.tables e below G T (mkF m pc' Ls (.long v :: st))) : Go p.tables e below G T (mkF m pc Ls (st)) := by
  subst hp; exact Go.step (fun _ k => XT.lload X.here C.exec rfl (C.at hd) hl k) K
theorem g_lstoreN (C : Cx p l s m meth c Z x0 code maxL ret) (X : Stand p l e R s m args below meth c T locs cells slots) {pc pc' : Nat} {Ls : Array Slot} {st : List Value} {k : Fin 4} {x y : Int64} {l' : Array Slot} (hd : decode code pc = .ok (.lstore_n k, 1)) (hv : x = y) (hl : storeLocals Ls k.val (.long x) = some l') (hp : pc + 1 = pc')
    (K : Go p.tables e below G T (mkF m pc' l' (st))) : Go p.tables e below G T (mkF m pc Ls (.long y :: st)) := by
  subst hp; subst hv; exact Go.step (fun _ k => XT.lstoreN X.here C.exec rfl (C.at hd) rfl hl k) K
theorem g_lstore (C : Cx p l s m meth c Z x0 code maxL ret) (X : Stand p l e R s m args below meth c T locs cells slots) {pc pc' : Nat} {Ls : Array Slot} {st : List Value} {k : Nat} {x y : Int64} {l' : Array Slot} (hd : decode code pc = .ok (.lstore k, 2)) (hv : x = y) (hl : storeLocals Ls k (.long x) = some l') (hp : pc + 2 = pc')
    (K : Go p.tables e below G T (mkF m pc' l' (st))) : Go p.tables e below G T (mkF m pc Ls (.long y :: st)) := by
  subst hp; subst hv; exact Go.step (fun _ k => XT.lstore X.here C.exec rfl (C.at hd) rfl hl k) K
theorem g_dloadN (C : Cx p l s m meth c Z x0 code maxL ret) (X : Stand p l e R s m args below meth c T locs cells slots) {pc pc' : Nat} {Ls : Array Slot} {st : List Value} {k : Fin 4} {v : UInt64} (hd : decode code pc = .ok (.dload_n k, 1)) (hl : Ls[k.val]? = some (.val (.double v))) (hp : pc + 1 = pc')
    (K : Go p.tables e below G T (mkF m pc' Ls (.double v :: st))) : Go p.tables e below G T (mkF m pc Ls (st)) := by
  subst hp; exact Go.step (fun _ k => XS.dloadN X.here C.exec rfl (C.at hd) hl k) K
theorem g_dload (C : Cx p l s m meth c Z x0 code maxL ret) (X : Stand p l e R s m args below meth c T locs cells slots) {pc pc' : Nat} {Ls : Array Slot} {st : List Value} {k : Nat} {v : UInt64} (hd : decode code pc = .ok (.dload k, 2)) (hl : Ls[k]? = some (.val (.double v))) (hp : pc + 2 = pc')
    (K : Go p.tables e below G T (mkF m pc' Ls (.double v :: st))) : Go p.tables e below G T (mkF m pc Ls (st)) := by
  subst hp; exact Go.step (fun _ k => XS.dload X.here C.exec rfl (C.at hd) hl k) K
theorem g_dstoreN (C : Cx p l s m meth c Z x0 code maxL ret) (X : Stand p l e R s m args below meth c T locs cells slots) {pc pc' : Nat} {Ls : Array Slot} {st : List Value} {k : Fin 4} {x y : UInt64} {l' : Array Slot} (hd : decode code pc = .ok (.dstore_n k, 1)) (hv : x = y) (hl : storeLocals Ls k.val (.double x) = some l') (hp : pc + 1 = pc')
    (K : Go p.tables e below G T (mkF m pc' l' (st))) : Go p.tables e below G T (mkF m pc Ls (.double y :: st)) := by
  subst hp; subst hv; exact Go.step (fun _ k => XS.dstoreN X.here C.exec rfl (C.at hd) rfl hl k) K
theorem g_dstore (C : Cx p l s m meth c Z x0 code maxL ret) (X : Stand p l e R s m args below meth c T locs cells slots) {pc pc' : Nat} {Ls : Array Slot} {st : List Value} {k : Nat} {x y : UInt64} {l' : Array Slot} (hd : decode code pc = .ok (.dstore k, 2)) (hv : x = y) (hl : storeLocals Ls k (.double x) = some l') (hp : pc + 2 = pc')
    (K : Go p.tables e below G T (mkF m pc' l' (st))) : Go p.tables e below G T (mkF m pc Ls (.double y :: st)) := by
  subst hp; subst hv; exact Go.step (fun _ k => XS.dstore X.here C.exec rfl (C.at hd) rfl hl k) K
theorem g_astoreN (C : Cx p l s m meth c Z x0 code maxL ret) (X : Stand p l e R s m args below meth c T locs cells slots) {pc pc' : Nat} {Ls : Array Slot} {st : List Value} {k : Fin 4} {v : Value} {l' : Array Slot} (hd : decode code pc = .ok (.astore_n k, 1)) (hv : v.isRef = true) (hl : storeLocals Ls k.val v = some l') (hp : pc + 1 = pc')
    (K : Go p.tables e below G T (mkF m pc' l' (st))) : Go p.tables e below G T (mkF m pc Ls (v :: st)) := by
  subst hp; exact Go.step (fun _ k => XS.astoreN X.here C.exec rfl (C.at hd) rfl hv hl k) K
theorem g_astore (C : Cx p l s m meth c Z x0 code maxL ret) (X : Stand p l e R s m args below meth c T locs cells slots) {pc pc' : Nat} {Ls : Array Slot} {st : List Value} {k : Nat} {v : Value} {l' : Array Slot} (hd : decode code pc = .ok (.astore k, 2)) (hv : v.isRef = true) (hl : storeLocals Ls k v = some l') (hp : pc + 2 = pc')
    (K : Go p.tables e below G T (mkF m pc' l' (st))) : Go p.tables e below G T (mkF m pc Ls (v :: st)) := by
  subst hp; exact Go.step (fun _ k => XS.astore X.here C.exec rfl (C.at hd) rfl hv hl k) K
theorem g_iconst (C : Cx p l s m meth c Z x0 code maxL ret) (X : Stand p l e R s m args below meth c T locs cells slots) {pc pc' : Nat} {Ls : Array Slot} {st : List Value} {i : Int} {v : Int32} (hd : decode code pc = .ok (.iconst i, 1)) (hv : Int32.ofInt i = v) (hp : pc + 1 = pc')
    (K : Go p.tables e below G T (mkF m pc' Ls (.int v :: st))) : Go p.tables e below G T (mkF m pc Ls (st)) := by
  subst hp; subst hv; exact Go.step (fun _ k => XS.iconst X.here C.exec rfl (C.at hd)  k) K
theorem g_bipush (C : Cx p l s m meth c Z x0 code maxL ret) (X : Stand p l e R s m args below meth c T locs cells slots) {pc pc' : Nat} {Ls : Array Slot} {st : List Value} {i : Int} {v : Int32} (hd : decode code pc = .ok (.bipush i, 2)) (hv : (Int8.ofInt i).toInt32 = v) (hp : pc + 2 = pc')
    (K : Go p.tables e below G T (mkF m pc' Ls (.int v :: st))) : Go p.tables e below G T (mkF m pc Ls (st)) := by
  subst hp; subst hv; exact Go.step (fun _ k => XS.bipush X.here C.exec rfl (C.at hd)  k) K
theorem g_sipush (C : Cx p l s m meth c Z x0 code maxL ret) (X : Stand p l e R s m args below meth c T locs cells slots) {pc pc' : Nat} {Ls : Array Slot} {st : List Value} {i : Int} {v : Int32} (hd : decode code pc = .ok (.sipush i, 3)) (hv : (Int16.ofInt i).toInt32 = v) (hp : pc + 3 = pc')
    (K : Go p.tables e below G T (mkF m pc' Ls (.int v :: st))) : Go p.tables e below G T (mkF m pc Ls (st)) := by
  subst hp; subst hv; exact Go.step (fun _ k => XS.sipush X.here C.exec rfl (C.at hd)  k) K
theorem g_aconstNull (C : Cx p l s m meth c Z x0 code maxL ret) (X : Stand p l e R s m args below meth c T locs cells slots) {pc pc' : Nat} {Ls : Array Slot} {st : List Value}  (hd : decode code pc = .ok (.aconst_null, 1))  (hp : pc + 1 = pc')
    (K : Go p.tables e below G T (mkF m pc' Ls (.null :: st))) : Go p.tables e below G T (mkF m pc Ls (st)) := by
  subst hp; exact Go.step (fun _ k => XS.aconstNull X.here C.exec rfl (C.at hd)  k) K
theorem g_lconst (C : Cx p l s m meth c Z x0 code maxL ret) (X : Stand p l e R s m args below meth c T locs cells slots) {pc pc' : Nat} {Ls : Array Slot} {st : List Value} {k : Fin 2} {v : Int64} (hd : decode code pc = .ok (.lconst k, 1)) (hv : Int64.ofNat k = v) (hp : pc + 1 = pc')
    (K : Go p.tables e below G T (mkF m pc' Ls (.long v :: st))) : Go p.tables e below G T (mkF m pc Ls (st)) := by
  subst hp; subst hv; exact Go.step (fun _ k => XT.lconst X.here C.exec rfl (C.at hd)  k) K
theorem g_dconst0 (C : Cx p l s m meth c Z x0 code maxL ret) (X : Stand p l e R s m args below meth c T locs cells slots) {pc pc' : Nat} {Ls : Array Slot} {st : List Value} {v : UInt64} (hd : decode code pc = .ok (.dconst 0, 1)) (hv : FP.dconst0 = v) (hp : pc + 1 = pc')
    (K : Go p.tables e below G T (mkF m pc' Ls (.double v :: st))) : Go p.tables e below G T (mkF m pc Ls (st)) := by
  subst hp; exact Go.step (fun _ k => XS.dconst0 X.here C.exec rfl (C.at hd) hv k) K
theorem g_dconst1 (C : Cx p l s m meth c Z x0 code maxL ret) (X : Stand p l e R s m args below meth c T locs cells slots) {pc pc' : Nat} {Ls : Array Slot} {st : List Value} {v : UInt64} (hd : decode code pc = .ok (.dconst 1, 1)) (hv : FP.dconst1 = v) (hp : pc + 1 = pc')
    (K : Go p.tables e below G T (mkF m pc' Ls (.double v :: st))) : Go p.tables e below G T (mkF m pc Ls (st)) := by
  subst hp; exact Go.step (fun _ k => XS.dconst1 X.here C.exec rfl (C.at hd) hv k) K
theorem g_iadd (C : Cx p l s m meth c Z x0 code maxL ret) (X : Stand p l e R s m args below meth c T locs cells slots) {pc pc' : Nat} {Ls : Array Slot} {st : List Value} {x y : Int32} (hd : decode code pc = .ok (.iadd, 1))  (hp : pc + 1 = pc')
    (K : Go p.tables e below G T (mkF m pc' Ls (.int (x + y) :: st))) : Go p.tables e below G T (mkF m pc Ls (.int y :: .int x :: st)) := by
  subst hp; exact Go.step (fun _ k => XS.iadd X.here C.exec rfl (C.at hd) rfl k) K
theorem g_isub (C : Cx p l s m meth c Z x0 code maxL ret) (X : Stand p l e R s m args below meth c T locs cells slots) {pc pc' : Nat} {Ls : Array Slot} {st : List Value} {x y : Int32} (hd : decode code pc = .ok (.isub, 1))  (hp : pc + 1 = pc')
    (K : Go p.tables e below G T (mkF m pc' Ls (.int (x - y) :: st))) : Go p.tables e below G T (mkF m pc Ls (.int y :: .int x :: st)) := by
  subst hp; exact Go.step (fun _ k => XS.isub X.here C.exec rfl (C.at hd) rfl k) K
theorem g_iand (C : Cx p l s m meth c Z x0 code maxL ret) (X : Stand p l e R s m args below meth c T locs cells slots) {pc pc' : Nat} {Ls : Array Slot} {st : List Value} {x y : Int32} (hd : decode code pc = .ok (.iand, 1))  (hp : pc + 1 = pc')
    (K : Go p.tables e below G T (mkF m pc' Ls (.int (x &&& y) :: st))) : Go p.tables e below G T (mkF m pc Ls (.int y :: .int x :: st)) := by
  subst hp; exact Go.step (fun _ k => XS.iand X.here C.exec rfl (C.at hd) rfl k) K
theorem g_imul (C : Cx p l s m meth c Z x0 code maxL ret) (X : Stand p l e R s m args below meth c T locs cells slots) {pc pc' : Nat} {Ls : Array Slot} {st : List Value} {x y : Int32} (hd : decode code pc = .ok (.imul, 1))  (hp : pc + 1 = pc')
    (K : Go p.tables e below G T (mkF m pc' Ls (.int (x * y) :: st))) : Go p.tables e below G T (mkF m pc Ls (.int y :: .int x :: st)) := by
  subst hp; exact Go.step (fun _ k => XS.imul X.here C.exec rfl (C.at hd) rfl k) K
theorem g_idiv (C : Cx p l s m meth c Z x0 code maxL ret) (X : Stand p l e R s m args below meth c T locs cells slots) {pc pc' : Nat} {Ls : Array Slot} {st : List Value} {x y : Int32} (hd : decode code pc = .ok (.idiv, 1)) (hy : y ≠ 0) (hp : pc + 1 = pc')
    (K : Go p.tables e below G T (mkF m pc' Ls (.int (x / y) :: st))) : Go p.tables e below G T (mkF m pc Ls (.int y :: .int x :: st)) := by
  subst hp; exact Go.step (fun _ k => XS.idiv X.here C.exec rfl (C.at hd) rfl hy k) K
theorem g_ineg (C : Cx p l s m meth c Z x0 code maxL ret) (X : Stand p l e R s m args below meth c T locs cells slots) {pc pc' : Nat} {Ls : Array Slot} {st : List Value} {x : Int32} (hd : decode code pc = .ok (.ineg, 1))  (hp : pc + 1 = pc')
    (K : Go p.tables e below G T (mkF m pc' Ls (.int (-x) :: st))) : Go p.tables e below G T (mkF m pc Ls (.int x :: st)) := by
  subst hp; exact Go.step (fun _ k => XS.ineg X.here C.exec rfl (C.at hd) rfl k) K
theorem g_ixor (C : Cx p l s m meth c Z x0 code maxL ret) (X : Stand p l e R s m args below meth c T locs cells slots) {pc pc' : Nat} {Ls : Array Slot} {st : List Value} {x y : Int32} (hd : decode code pc = .ok (.ixor, 1))  (hp : pc + 1 = pc')
    (K : Go p.tables e below G T (mkF m pc' Ls (.int (x ^^^ y) :: st))) : Go p.tables e below G T (mkF m pc Ls (.int y :: .int x :: st)) := by
  subst hp; exact Go.step (fun _ k => XT.ixor X.here C.exec rfl (C.at hd) rfl k) K
theorem g_ior (C : Cx p l s m meth c Z x0 code maxL ret) (X : Stand p l e R s m args below meth c T locs cells slots) {pc pc' : Nat} {Ls : Array Slot} {st : List Value} {x y : Int32} (hd : decode code pc = .ok (.ior, 1))  (hp : pc + 1 = pc')
    (K : Go p.tables e below G T (mkF m pc' Ls (.int (x ||| y) :: st))) : Go p.tables e below G T (mkF m pc Ls (.int y :: .int x :: st)) := by
  subst hp; exact Go.step (fun _ k => XT.ior X.here C.exec rfl (C.at hd) rfl k) K
theorem g_ishl (C : Cx p l s m meth c Z x0 code maxL ret) (X : Stand p l e R s m args below meth c T locs cells slots) {pc pc' : Nat} {Ls : Array Slot} {st : List Value} {x y : Int32} (hd : decode code pc = .ok (.ishl, 1))  (hp : pc + 1 = pc')
    (K : Go p.tables e below G T (mkF m pc' Ls (.int (x <<< (y &&& 31)) :: st))) : Go p.tables e below G T (mkF m pc Ls (.int y :: .int x :: st)) := by
  subst hp; exact Go.step (fun _ k => XT.ishl X.here C.exec rfl (C.at hd) rfl k) K
theorem g_ishr (C : Cx p l s m meth c Z x0 code maxL ret) (X : Stand p l e R s m args below meth c T locs cells slots) {pc pc' : Nat} {Ls : Array Slot} {st : List Value} {x y : Int32} (hd : decode code pc = .ok (.ishr, 1))  (hp : pc + 1 = pc')
    (K : Go p.tables e below G T (mkF m pc' Ls (.int (x >>> (y &&& 31)) :: st))) : Go p.tables e below G T (mkF m pc Ls (.int y :: .int x :: st)) := by
  subst hp; exact Go.step (fun _ k => XT.ishr X.here C.exec rfl (C.at hd) rfl k) K
theorem g_iushr (C : Cx p l s m meth c Z x0 code maxL ret) (X : Stand p l e R s m args below meth c T locs cells slots) {pc pc' : Nat} {Ls : Array Slot} {st : List Value} {x y : Int32} (hd : decode code pc = .ok (.iushr, 1))  (hp : pc + 1 = pc')
    (K : Go p.tables e below G T (mkF m pc' Ls (.int (XT.ushr x y) :: st))) : Go p.tables e below G T (mkF m pc Ls (.int y :: .int x :: st)) := by
  subst hp; exact Go.step (fun _ k => XT.iushr X.here C.exec rfl (C.at hd) rfl k) K
theorem g_ladd (C : Cx p l s m meth c Z x0 code maxL ret) (X : Stand p l e R s m args below meth c T locs cells slots) {pc pc' : Nat} {Ls : Array Slot} {st : List Value} {x y : Int64} (hd : decode code pc = .ok (.ladd, 1))  (hp : pc + 1 = pc')
    (K : Go p.tables e below G T (mkF m pc' Ls (.long (x + y) :: st))) : Go p.tables e below G T (mkF m pc Ls (.long y :: .long x :: st)) := by
  subst hp; exact Go.step (fun _ k => XT.ladd X.here C.exec rfl (C.at hd) rfl k) K
theorem g_lsub (C : Cx p l s m meth c Z x0 code maxL ret) (X : Stand p l e R s m args below meth c T locs cells slots) {pc pc' : Nat} {Ls : Array Slot} {st : List Value} {x y : Int64} (hd : decode code pc = .ok (.lsub, 1))  (hp : pc + 1 = pc')
    (K : Go p.tables e below G T (mkF m pc' Ls (.long (x - y) :: st))) : Go p.tables e below G T (mkF m pc Ls (.long y :: .long x :: st)) := by
  subst hp; exact Go.step (fun _ k => XT.lsub X.here C.exec rfl (C.at hd) rfl k) K
theorem g_lmul (C : Cx p l s m meth c Z x0 code maxL ret) (X : Stand p l e R s m args below meth c T locs cells slots) {pc pc' : Nat} {Ls : Array Slot} {st : List Value} {x y : Int64} (hd : decode code pc = .ok (.lmul, 1))  (hp : pc + 1 = pc')
    (K : Go p.tables e below G T (mkF m pc' Ls (.long (x * y) :: st))) : Go p.tables e below G T (mkF m pc Ls (.long y :: .long x :: st)) := by
  subst hp; exact Go.step (fun _ k => XT.lmul X.here C.exec rfl (C.at hd) rfl k) K
theorem g_land (C : Cx p l s m meth c Z x0 code maxL ret) (X : Stand p l e R s m args below meth c T locs cells slots) {pc pc' : Nat} {Ls : Array Slot} {st : List Value} {x y : Int64} (hd : decode code pc = .ok (.land, 1))  (hp : pc + 1 = pc')
    (K : Go p.tables e below G T (mkF m pc' Ls (.long (x &&& y) :: st))) : Go p.tables e below G T (mkF m pc Ls (.long y :: .long x :: st)) := by
  subst hp; exact Go.step (fun _ k => XT.land X.here C.exec rfl (C.at hd) rfl k) K
theorem g_lor (C : Cx p l s m meth c Z x0 code maxL ret) (X : Stand p l e R s m args below meth c T locs cells slots) {pc pc' : Nat} {Ls : Array Slot} {st : List Value} {x y : Int64} (hd : decode code pc = .ok (.lor, 1))  (hp : pc + 1 = pc')
    (K : Go p.tables e below G T (mkF m pc' Ls (.long (x ||| y) :: st))) : Go p.tables e below G T (mkF m pc Ls (.long y :: .long x :: st)) := by
  subst hp; exact Go.step (fun _ k => XT.lor X.here C.exec rfl (C.at hd) rfl k) K
theorem g_lxor (C : Cx p l s m meth c Z x0 code maxL ret) (X : Stand p l e R s m args below meth c T locs cells slots) {pc pc' : Nat} {Ls : Array Slot} {st : List Value} {x y : Int64} (hd : decode code pc = .ok (.lxor, 1))  (hp : pc + 1 = pc')
    (K : Go p.tables e below G T (mkF m pc' Ls (.long (x ^^^ y) :: st))) : Go p.tables e below G T (mkF m pc Ls (.long y :: .long x :: st)) := by
  subst hp; exact Go.step (fun _ k => XT.lxor X.here C.exec rfl (C.at hd) rfl k) K
theorem g_lneg (C : Cx p l s m meth c Z x0 code maxL ret) (X : Stand p l e R s m args below meth c T locs cells slots) {pc pc' : Nat} {Ls : Array Slot} {st : List Value} {x : Int64} (hd : decode code pc = .ok (.lneg, 1))  (hp : pc + 1 = pc')
    (K : Go p.tables e below G T (mkF m pc' Ls (.long (-x) :: st))) : Go p.tables e below G T (mkF m pc Ls (.long x :: st)) := by
  subst hp; exact Go.step (fun _ k => XT.lneg X.here C.exec rfl (C.at hd) rfl k) K
theorem g_i2l (C : Cx p l s m meth c Z x0 code maxL ret) (X : Stand p l e R s m args below meth c T locs cells slots) {pc pc' : Nat} {Ls : Array Slot} {st : List Value} {x : Int32} (hd : decode code pc = .ok (.i2l, 1))  (hp : pc + 1 = pc')
    (K : Go p.tables e below G T (mkF m pc' Ls (.long x.toInt64 :: st))) : Go p.tables e below G T (mkF m pc Ls (.int x :: st)) := by
  subst hp; exact Go.step (fun _ k => XT.i2l X.here C.exec rfl (C.at hd) rfl k) K
theorem g_l2i (C : Cx p l s m meth c Z x0 code maxL ret) (X : Stand p l e R s m args below meth c T locs cells slots) {pc pc' : Nat} {Ls : Array Slot} {st : List Value} {x : Int64} (hd : decode code pc = .ok (.l2i, 1))  (hp : pc + 1 = pc')
    (K : Go p.tables e below G T (mkF m pc' Ls (.int x.toInt32 :: st))) : Go p.tables e below G T (mkF m pc Ls (.long x :: st)) := by
  subst hp; exact Go.step (fun _ k => XT.l2i X.here C.exec rfl (C.at hd) rfl k) K
theorem g_i2b (C : Cx p l s m meth c Z x0 code maxL ret) (X : Stand p l e R s m args below meth c T locs cells slots) {pc pc' : Nat} {Ls : Array Slot} {st : List Value} {x : Int32} (hd : decode code pc = .ok (.i2b, 1))  (hp : pc + 1 = pc')
    (K : Go p.tables e below G T (mkF m pc' Ls (.int x.toInt8.toInt32 :: st))) : Go p.tables e below G T (mkF m pc Ls (.int x :: st)) := by
  subst hp; exact Go.step (fun _ k => XT.i2b X.here C.exec rfl (C.at hd) rfl k) K
theorem g_i2s (C : Cx p l s m meth c Z x0 code maxL ret) (X : Stand p l e R s m args below meth c T locs cells slots) {pc pc' : Nat} {Ls : Array Slot} {st : List Value} {x : Int32} (hd : decode code pc = .ok (.i2s, 1))  (hp : pc + 1 = pc')
    (K : Go p.tables e below G T (mkF m pc' Ls (.int x.toInt16.toInt32 :: st))) : Go p.tables e below G T (mkF m pc Ls (.int x :: st)) := by
  subst hp; exact Go.step (fun _ k => XT.i2s X.here C.exec rfl (C.at hd) rfl k) K
theorem g_i2d (C : Cx p l s m meth c Z x0 code maxL ret) (X : Stand p l e R s m args below meth c T locs cells slots) {pc pc' : Nat} {Ls : Array Slot} {st : List Value} {x : Int32} (hd : decode code pc = .ok (.i2d, 1))  (hp : pc + 1 = pc')
    (K : Go p.tables e below G T (mkF m pc' Ls (.double (FP.i2d x) :: st))) : Go p.tables e below G T (mkF m pc Ls (.int x :: st)) := by
  subst hp; exact Go.step (fun _ k => XS.i2dS X.here C.exec rfl (C.at hd) rfl rfl k) K
theorem g_l2d (C : Cx p l s m meth c Z x0 code maxL ret) (X : Stand p l e R s m args below meth c T locs cells slots) {pc pc' : Nat} {Ls : Array Slot} {st : List Value} {x : Int64} (hd : decode code pc = .ok (.l2d, 1))  (hp : pc + 1 = pc')
    (K : Go p.tables e below G T (mkF m pc' Ls (.double (FP.l2d x) :: st))) : Go p.tables e below G T (mkF m pc Ls (.long x :: st)) := by
  subst hp; exact Go.step (fun _ k => XS.l2dS X.here C.exec rfl (C.at hd) rfl rfl k) K
theorem g_dneg (C : Cx p l s m meth c Z x0 code maxL ret) (X : Stand p l e R s m args below meth c T locs cells slots) {pc pc' : Nat} {Ls : Array Slot} {st : List Value} {x : UInt64} (hd : decode code pc = .ok (.dneg, 1))  (hp : pc + 1 = pc')
    (K : Go p.tables e below G T (mkF m pc' Ls (.double (FP.dneg x) :: st))) : Go p.tables e below G T (mkF m pc Ls (.double x :: st)) := by
  subst hp; exact Go.step (fun _ k => XS.dnegS X.here C.exec rfl (C.at hd) rfl rfl k) K
theorem g_dcmp (C : Cx p l s m meth c Z x0 code maxL ret) (X : Stand p l e R s m args below meth c T locs cells slots) {pc pc' : Nat} {Ls : Array Slot} {st : List Value} {o : CmpOp} {x y : UInt64} (hd : decode code pc = .ok (.dcmp o, 1))  (hp : pc + 1 = pc')
    (K : Go p.tables e below G T (mkF m pc' Ls (.int (cmpValue (FP.dcmp x y) o) :: st))) : Go p.tables e below G T (mkF m pc Ls (.double y :: .double x :: st)) := by
  subst hp; exact Go.step (fun _ k => XS.dcmpS X.here C.exec rfl (C.at hd) rfl rfl k) K
theorem g_dcmpV (C : Cx p l s m meth c Z x0 code maxL ret) (X : Stand p l e R s m args below meth c T locs cells slots) {pc pc' : Nat} {Ls : Array Slot} {st : List Value} {o : CmpOp} {x y : UInt64} {v : Int32} (hd : decode code pc = .ok (.dcmp o, 1)) (hv : cmpValue (FP.dcmp x y) o = v) (hp : pc + 1 = pc')
    (K : Go p.tables e below G T (mkF m pc' Ls (.int v :: st))) : Go p.tables e below G T (mkF m pc Ls (.double y :: .double x :: st)) := by
  subst hp; exact Go.step (fun _ k => XS.dcmpS X.here C.exec rfl (C.at hd) rfl hv k) K
theorem g_dadd (C : Cx p l s m meth c Z x0 code maxL ret) (X : Stand p l e R s m args below meth c T locs cells slots) {pc pc' : Nat} {Ls : Array Slot} {st : List Value} {x y : UInt64} (hd : decode code pc = .ok (.dadd, 1)) (hn : Jvm.Free.Fl.NoNaN64 (FP.dadd x y)) (hp : pc + 1 = pc')
    (K : Go p.tables e below G T (mkF m pc' Ls (.double (FP.dadd x y) :: st))) : Go p.tables e below G T (mkF m pc Ls (.double y :: .double x :: st)) := by
  subst hp; exact Go.step (fun _ k => XS.daddS X.here C.exec rfl (C.at hd) rfl hn rfl k) K
theorem g_dsub (C : Cx p l s m meth c Z x0 code maxL ret) (X : Stand p l e R s m args below meth c T locs cells slots) {pc pc' : Nat} {Ls : Array Slot} {st : List Value} {x y : UInt64} (hd : decode code pc = .ok (.dsub, 1)) (hn : Jvm.Free.Fl.NoNaN64 (FP.dsub x y)) (hp : pc + 1 = pc')
    (K : Go p.tables e below G T (mkF m pc' Ls (.double (FP.dsub x y) :: st))) : Go p.tables e below G T (mkF m pc Ls (.double y :: .double x :: st)) := by
  subst hp; exact Go.step (fun _ k => XS.dsubS X.here C.exec rfl (C.at hd) rfl hn rfl k) K
theorem g_dmul (C : Cx p l s m meth c Z x0 code maxL ret) (X : Stand p l e R s m args below meth c T locs cells slots) {pc pc' : Nat} {Ls : Array Slot} {st : List Value} {x y : UInt64} (hd : decode code pc = .ok (.dmul, 1)) (hn : Jvm.Free.Fl.NoNaN64 (FP.dmul x y)) (hp : pc + 1 = pc')
    (K : Go p.tables e below G T (mkF m pc' Ls (.double (FP.dmul x y) :: st))) : Go p.tables e below G T (mkF m pc Ls (.double y :: .double x :: st)) := by
  subst hp; exact Go.step (fun _ k => XS.dmulS X.here C.exec rfl (C.at hd) rfl hn rfl k) K
theorem g_ddiv (C : Cx p l s m meth c Z x0 code maxL ret) (X : Stand p l e R s m args below meth c T locs cells slots) {pc pc' : Nat} {Ls : Array Slot} {st : List Value} {x y : UInt64} (hd : decode code pc = .ok (.ddiv, 1)) (hn : Jvm.Free.Fl.NoNaN64 (FP.ddiv x y)) (hp : pc + 1 = pc')
    (K : Go p.tables e below G T (mkF m pc' Ls (.double (FP.ddiv x y) :: st))) : Go p.tables e below G T (mkF m pc Ls (.double y :: .double x :: st)) := by
  subst hp; exact Go.step (fun _ k => XS.ddivS X.here C.exec rfl (C.at hd) rfl hn rfl k) K
theorem g_lcmp (C : Cx p l s m meth c Z x0 code maxL ret) (X : Stand p l e R s m args below meth c T locs cells slots) {pc pc' : Nat} {Ls : Array Slot} {st : List Value} {x y : Int64} (hd : decode code pc = .ok (.lcmp, 1))  (hp : pc + 1 = pc')
    (K : Go p.tables e below G T (mkF m pc' Ls (.int (XT.cmpL x y) :: st))) : Go p.tables e below G T (mkF m pc Ls (.long y :: .long x :: st)) := by
  subst hp; exact Go.step (fun _ k => XT.lcmp X.here C.exec rfl (C.at hd) rfl k) K
theorem g_pop (C : Cx p l s m meth c Z x0 code maxL ret) (X : Stand p l e R s m args below meth c T locs cells slots) {pc pc' : Nat} {Ls : Array Slot} {st : List Value} {x : Value} (hd : decode code pc = .ok (.pop, 1)) (hc : x.category = 1) (hp : pc + 1 = pc')
    (K : Go p.tables e below G T (mkF m pc' Ls (st))) : Go p.tables e below G T (mkF m pc Ls (x :: st)) := by
  subst hp; exact Go.step (fun _ k => XT.pop X.here C.exec rfl (C.at hd) rfl hc k) K
theorem g_dup (C : Cx p l s m meth c Z x0 code maxL ret) (X : Stand p l e R s m args below meth c T locs cells slots) {pc pc' : Nat} {Ls : Array Slot} {st : List Value} {x : Value} (hd : decode code pc = .ok (.dup, 1)) (hc : x.category = 1) (hp : pc + 1 = pc')
    (K : Go p.tables e below G T (mkF m pc' Ls (x :: x :: st))) : Go p.tables e below G T (mkF m pc Ls (x :: st)) := by
  subst hp; exact Go.step (fun _ k => XS.dup X.here C.exec rfl (C.at hd) rfl hc k) K
theorem g_dupX1 (C : Cx p l s m meth c Z x0 code maxL ret) (X : Stand p l e R s m args below meth c T locs cells slots) {pc pc' : Nat} {Ls : Array Slot} {st : List Value} {x y : Value} (hd : decode code pc = .ok (.dup_x1, 1)) (hc : x.category = 1) (hc' : y.category = 1) (hp : pc + 1 = pc')
    (K : Go p.tables e below G T (mkF m pc' Ls (x :: y :: x :: st))) : Go p.tables e below G T (mkF m pc Ls (x :: y :: st)) := by
  subst hp; exact Go.step (fun _ k => XT.dupX1 X.here C.exec rfl (C.at hd) rfl hc hc' k) K
theorem g_dup2 (C : Cx p l s m meth c Z x0 code maxL ret) (X : Stand p l e R s m args below meth c T locs cells slots) {pc pc' : Nat} {Ls : Array Slot} {st : List Value} {x y : Value} (hd : decode code pc = .ok (.dup2, 1)) (hc : x.category = 1) (hc' : y.category = 1) (hp : pc + 1 = pc')
    (K : Go p.tables e below G T (mkF m pc' Ls (x :: y :: x :: y :: st))) : Go p.tables e below G T (mkF m pc Ls (x :: y :: st)) := by
  subst hp; exact Go.step (fun _ k => XT.dup2 X.here C.exec rfl (C.at hd) rfl hc hc' k) K
theorem g_iinc (C : Cx p l s m meth c Z x0 code maxL ret) (X : Stand p l e R s m args below meth c T locs cells slots) {pc pc' : Nat} {Ls : Array Slot} {st : List Value} {k : Nat} {cst : Int} {x z : Int32} {l' : Array Slot} (hd : decode code pc = .ok (.iinc k cst, 3)) (hl : Ls[k]? = some (.val (.int x))) (hz : z = x + Int32.ofInt cst) (hl' : storeLocals Ls k (.int z) = some l') (hp : pc + 3 = pc')
    (K : Go p.tables e below G T (mkF m pc' l' (st))) : Go p.tables e below G T (mkF m pc Ls (st)) := by
  subst hp; subst hz; exact Go.step (fun _ k => XS.iinc X.here C.exec rfl (C.at hd) hl hl' k) K
theorem g_irem (C : Cx p l s m meth c Z x0 code maxL ret) (X : Stand p l e R s m args below meth c T locs cells slots) {pc pc' : Nat} {Ls : Array Slot} {st : List Value} {x y : Int32} (hd : decode code pc = .ok (.irem, 1)) (hy : y ≠ 0) (hp : pc + 1 = pc')
    (K : Go p.tables e below G T (mkF m pc' Ls (.int (x % y) :: st))) : Go p.tables e below G T (mkF m pc Ls (.int y :: .int x :: st)) := by
  subst hp; exact Go.step (fun _ k => iremM X C.exec rfl (C.at hd) rfl hy k) K
theorem g_lushr (C : Cx p l s m meth c Z x0 code maxL ret) (X : Stand p l e R s m args below meth c T locs cells slots) {pc pc' : Nat} {Ls : Array Slot} {st : List Value} {x : Int64} {y : Int32} (hd : decode code pc = .ok (.lushr, 1)) (hp : pc + 1 = pc')
    (K : Go p.tables e below G T (mkF m pc' Ls (.long (XT.ushrL x y) :: st))) : Go p.tables e below G T (mkF m pc Ls (.int y :: .long x :: st)) := by
  subst hp; exact Go.step (fun _ k => XT.lushr X.here C.exec rfl (C.at hd) rfl k) K
/-- what a branch asks, of whole numbers -/
abbrev cpI : ClassFile.Cond → Int → Int → Prop
  | .eq, x, y => x = y
  | .ne, x, y => ¬ x = y
  | .lt, x, y => x < y
  | .ge, x, y => ¬ x < y
  | .gt, x, y => y < x
  | .le, x, y => ¬ y < x
theorem holds_icmp (cd : ClassFile.Cond) (x y : Int32) : if_icmp.holds cd x y = true ↔ cpI cd x.toInt y.toInt := by
  cases cd <;> simp only [if_icmp.holds, cpI, decide_eq_true_eq, beq_iff_eq, bne_iff_ne, ne_eq, Int32.lt_iff_toInt_lt, Int32.le_iff_toInt_le, Int32.toInt_inj, Int.not_lt, ge_iff_le, gt_iff_lt]
theorem holds_if (cd : ClassFile.Cond) (x : Int32) : ifCond.holds cd x = true ↔ cpI cd x.toInt 0 := by
  rw [if0]; exact holds_icmp cd x 0
theorem g_goto (C : Cx p l s m meth c Z x0 code maxL ret) (X : Stand p l e R s m args below meth c T locs cells slots) {pc pc' : Nat} {Ls : Array Slot} {st : List Value} {o : Int} (hd : decode code pc = .ok (.goto o, 3)) (ho : 0 ≤ (pc : Int) + o) (hp : ((pc : Int) + o).toNat = pc')
    (K : Go p.tables e below G T (mkF m pc' Ls st)) : Go p.tables e below G T (mkF m pc Ls st) :=
  Go.step (fun _ k => XS.goto X.here C.exec rfl rfl (C.at hd) ho hp k) K
theorem g_if (C : Cx p l s m meth c Z x0 code maxL ret) (X : Stand p l e R s m args below meth c T locs cells slots) {pc pc' pc'' : Nat} {Ls : Array Slot} {st : List Value} {cd : ClassFile.Cond} {x : Int32} {o : Int} (hd : decode code pc = .ok (.ifCond cd o, 3)) (ho : 0 ≤ (pc : Int) + o) (hp : ((pc : Int) + o).toNat = pc') (hp3 : pc + 3 = pc'')
    (K1 : cpI cd x.toInt 0 → Go p.tables e below G T (mkF m pc' Ls st)) (K2 : ¬ cpI cd x.toInt 0 → Go p.tables e below G T (mkF m pc'' Ls st)) : Go p.tables e below G T (mkF m pc Ls (.int x :: st)) := by
  subst hp3
  cases hc : ifCond.holds cd x with
  | true => exact Go.step (fun _ k => XS.ifYes X.here C.exec rfl rfl (C.at hd) rfl hc ho hp k) (K1 ((holds_if cd x).mp hc))
  | false => exact Go.step (fun _ k => XS.ifNo X.here C.exec rfl (C.at hd) rfl hc k) (K2 fun q => by rw [(holds_if cd x).mpr q] at hc; cases hc)
theorem g_icmp (C : Cx p l s m meth c Z x0 code maxL ret) (X : Stand p l e R s m args below meth c T locs cells slots) {pc pc' pc'' : Nat} {Ls : Array Slot} {st : List Value} {cd : ClassFile.Cond} {x y : Int32} {o : Int} (hd : decode code pc = .ok (.if_icmp cd o, 3)) (ho : 0 ≤ (pc : Int) + o) (hp : ((pc : Int) + o).toNat = pc') (hp3 : pc + 3 = pc'')
    (K1 : cpI cd x.toInt y.toInt → Go p.tables e below G T (mkF m pc' Ls st)) (K2 : ¬ cpI cd x.toInt y.toInt → Go p.tables e below G T (mkF m pc'' Ls st)) : Go p.tables e below G T (mkF m pc Ls (.int y :: .int x :: st)) := by
  subst hp3
  cases hc : if_icmp.holds cd x y with
  | true => exact Go.step (fun _ k => XS.icmpYes X.here C.exec rfl rfl (C.at hd) rfl hc ho hp k) (K1 ((holds_icmp cd x y).mp hc))
  | false => exact Go.step (fun _ k => XS.icmpNo X.here C.exec rfl (C.at hd) rfl hc k) (K2 fun q => by rw [(holds_icmp cd x y).mpr q] at hc; cases hc)
theorem g_ifY (C : Cx p l s m meth c Z x0 code maxL ret) (X : Stand p l e R s m args below meth c T locs cells slots) {pc pc' : Nat} {Ls : Array Slot} {st : List Value} {cd : ClassFile.Cond} {x : Int32} {o : Int} (hd : decode code pc = .ok (.ifCond cd o, 3)) (ho : 0 ≤ (pc : Int) + o) (hp : ((pc : Int) + o).toNat = pc') (hc : cpI cd x.toInt 0)
    (K1 : Go p.tables e below G T (mkF m pc' Ls st)) : Go p.tables e below G T (mkF m pc Ls (.int x :: st)) :=
  Go.step (fun _ k => XS.ifYes X.here C.exec rfl rfl (C.at hd) rfl ((holds_if cd x).mpr hc) ho hp k) K1
theorem g_ifN (C : Cx p l s m meth c Z x0 code maxL ret) (X : Stand p l e R s m args below meth c T locs cells slots) {pc pc' : Nat} {Ls : Array Slot} {st : List Value} {cd : ClassFile.Cond} {x : Int32} {o : Int} (hd : decode code pc = .ok (.ifCond cd o, 3)) (hc : ¬ cpI cd x.toInt 0) (hp : pc + 3 = pc')
    (K1 : Go p.tables e below G T (mkF m pc' Ls st)) : Go p.tables e below G T (mkF m pc Ls (.int x :: st)) := by
  subst hp
  exact Go.step (fun _ k => XS.ifNo X.here C.exec rfl (C.at hd) rfl (Bool.eq_false_iff.mpr fun q => hc ((holds_if cd x).mp q)) k) K1
theorem g_icmpY (C : Cx p l s m meth c Z x0 code maxL ret) (X : Stand p l e R s m args below meth c T locs cells slots) {pc pc' : Nat} {Ls : Array Slot} {st : List Value} {cd : ClassFile.Cond} {x y : Int32} {o : Int} (hd : decode code pc = .ok (.if_icmp cd o, 3)) (ho : 0 ≤ (pc : Int) + o) (hp : ((pc : Int) + o).toNat = pc') (hc : cpI cd x.toInt y.toInt)
    (K1 : Go p.tables e below G T (mkF m pc' Ls st)) : Go p.tables e below G T (mkF m pc Ls (.int y :: .int x :: st)) :=
  Go.step (fun _ k => XS.icmpYes X.here C.exec rfl rfl (C.at hd) rfl ((holds_icmp cd x y).mpr hc) ho hp k) K1
theorem g_icmpN (C : Cx p l s m meth c Z x0 code maxL ret) (X : Stand p l e R s m args below meth c T locs cells slots) {pc pc' : Nat} {Ls : Array Slot} {st : List Value} {cd : ClassFile.Cond} {x y : Int32} {o : Int} (hd : decode code pc = .ok (.if_icmp cd o, 3)) (hc : ¬ cpI cd x.toInt y.toInt) (hp : pc + 3 = pc')
    (K1 : Go p.tables e below G T (mkF m pc' Ls st)) : Go p.tables e below G T (mkF m pc Ls (.int y :: .int x :: st)) := by
  subst hp
  exact Go.step (fun _ k => XS.icmpNo X.here C.exec rfl (C.at hd) rfl (Bool.eq_false_iff.mpr fun q => hc ((holds_icmp cd x y).mp q)) k) K1
/-! leaving the body -/
theorem g_out {k n : Nat} {Q : Option Value → Heap → List Loc → Prop} (C : Cx p l s m meth c Z x0 code maxL ret) (X : Stand p l e R s m args below meth c T locs cells slots) {v : Option Value} {g : JFrame} (hv : ret = none → v = none)
    (st : ∀ fs, (∀ (f : JFrame) (acts : List Action), f.method = m → f.locked = none → f.entered = [] → (doReturn e (T.setTop f) acts v).1 = T.setFrames fs) → Steps p.tables e below (T.setTop g) (T.setFrames fs))
    (hQ : Q v T.heap locs) (hk : cells ≤ k) (hn : slots ≤ n) : Go p.tables e below (End s Q k n) T g := by
  obtain ⟨fs, hr, hrun, hended, hW, hsame⟩ := X.leave (v := v) (fun q => hv (C.rets ▸ q)) C.unlocked
  exact ⟨_, _, st fs hr, hrun, hended, v, locs, rfl, hQ, ⟨_, rfl⟩, hW, hsame.mono hk hn⟩
theorem g_ireturn {k n : Nat} {Q : Option Value → Heap → List Loc → Prop} (C : Cx p l s m meth c Z x0 code maxL (some .int)) (X : Stand p l e R s m args below meth c T locs cells slots) {pc : Nat} {Ls : Array Slot} {st : List Value} {z : Int32} (hd : decode code pc = .ok (.ireturn, 1))
    (hQ : Q (some (.int z)) T.heap locs) (hk : cells ≤ k) (hn : slots ≤ n) : Go p.tables e below (End s Q k n) T (mkF m pc Ls (.int z :: st)) :=
  g_out C X (v := some (.int z)) (fun q => by cases q) (fun fs hr => retOut X C.exec C.rets rfl (Or.inl ⟨rfl, Or.inl rfl, _, rfl⟩) (C.at hd) hr) hQ hk hn
theorem g_zreturn {k n : Nat} {Q : Option Value → Heap → List Loc → Prop} (C : Cx p l s m meth c Z x0 code maxL (some .boolean)) (X : Stand p l e R s m args below meth c T locs cells slots) {pc : Nat} {Ls : Array Slot} {st : List Value} {z w : Int32} (hd : decode code pc = .ok (.ireturn, 1)) (hw : nar .boolean z = w)
    (hQ : Q (some (.int w)) T.heap locs) (hk : cells ≤ k) (hn : slots ≤ n) : Go p.tables e below (End s Q k n) T (mkF m pc Ls (.int z :: st)) :=
  g_out C X (v := some (.int w)) (fun q => by cases q) (fun fs hr => retN X C.exec (t := .boolean) C.rets (by simp) (C.at hd) (hw ▸ hr)) hQ hk hn
theorem g_lreturn {k n : Nat} {Q : Option Value → Heap → List Loc → Prop} (C : Cx p l s m meth c Z x0 code maxL (some .long)) (X : Stand p l e R s m args below meth c T locs cells slots) {pc : Nat} {Ls : Array Slot} {st : List Value} {z : Int64} (hd : decode code pc = .ok (.lreturn, 1))
    (hQ : Q (some (.long z)) T.heap locs) (hk : cells ≤ k) (hn : slots ≤ n) : Go p.tables e below (End s Q k n) T (mkF m pc Ls (.long z :: st)) :=
  g_out C X (v := some (.long z)) (fun q => by cases q) (fun fs hr => retOut X C.exec C.rets rfl (Or.inr (Or.inl ⟨rfl, rfl, _, rfl⟩)) (C.at hd) hr) hQ hk hn
theorem g_dreturn {k n : Nat} {Q : Option Value → Heap → List Loc → Prop} (C : Cx p l s m meth c Z x0 code maxL (some .double)) (X : Stand p l e R s m args below meth c T locs cells slots) {pc : Nat} {Ls : Array Slot} {st : List Value} {z : UInt64} (hd : decode code pc = .ok (.dreturn, 1))
    (hQ : Q (some (.double z)) T.heap locs) (hk : cells ≤ k) (hn : slots ≤ n) : Go p.tables e below (End s Q k n) T (mkF m pc Ls (.double z :: st)) :=
  g_out C X (v := some (.double z)) (fun q => by cases q) (fun fs hr => retOut X C.exec C.rets rfl (Or.inr (Or.inr (Or.inl ⟨rfl, rfl, _, rfl⟩))) (C.at hd) hr) hQ hk hn
theorem g_areturn {k n : Nat} {Q : Option Value → Heap → List Loc → Prop} {t : FieldType} (C : Cx p l s m meth c Z x0 code maxL (some t)) (X : Stand p l e R s m args below meth c T locs cells slots) {pc : Nat} {Ls : Array Slot} {st : List Value} {w : Value} (hd : decode code pc = .ok (.areturn, 1)) (ht : t.isReference = true) (hw : w.isRef = true) (hna : narrow t w = w)
    (hQ : Q (some w) T.heap locs) (hk : cells ≤ k) (hn : slots ≤ n) : Go p.tables e below (End s Q k n) T (mkF m pc Ls (w :: st)) :=
  g_out C X (v := some w) (fun q => by cases q) (fun fs hr => retOut X C.exec C.rets hna (Or.inr (Or.inr (Or.inr (Or.inr ⟨rfl, ht, hw⟩)))) (C.at hd) hr) hQ hk hn
theorem g_return {k n : Nat} {Q : Option Value → Heap → List Loc → Prop} (C : Cx p l s m meth c Z x0 code maxL none) (X : Stand p l e R s m args below meth c T locs cells slots) {pc : Nat} {Ls : Array Slot} (hd : decode code pc = .ok (.return_, 1))
    (hQ : Q none T.heap locs) (hk : cells ≤ k) (hn : slots ≤ n) : Go p.tables e below (End s Q k n) T (mkF m pc Ls []) :=
  g_out C X (v := none) (fun _ => rfl) (fun fs hr => X.returnOut C.exec C.rets (C.at hd) hr) hQ hk hn
/-! calls -/
theorem g_callS (C : Cx p l s m meth c Z x0 code maxL ret) (X : Stand p l e R s m args below meth c T locs cells slots) {index : Nat} {y : MethodName} {bytes : ByteArray} {mL : Nat} {rt : Option FieldType} {rm : Room} {as : Array Value} {Q : Option Value → Heap → List Loc → Prop} (K0 : Con l Z y bytes mL rt rm as h Q)
    (w1 : (Cond.methodLink x0.cls index y).before a0 Z = true) (w2 : (Cond.static y).before a0 Z = true) (w3 : (Cond.initialized y.cls).before a0 Z = true) (w4 : (Cond.code y bytes mL rt).before a0 Z = true)
    (hy : y.cls ≠ "java/lang/invoke/MethodHandle" ∧ y.cls ≠ "java/lang/invoke/VarHandle") (eT : T.heap = h) {pc pc' : Nat} {Ls : Array Slot} {st : List Value} (hd : decode code pc = .ok (.invokestatic index, 3)) (hsz : Ls.size = maxL)
    {ps : List FieldType} {r : Option FieldType} (hpd : parseMethodDescriptor y.desc = some ⟨ps, r⟩) (argsL rest : List Value) (hlen : argsL.length = ps.length) (has : argsL.toArray = as) (hst : st = argsL.reverse ++ rest) (W : Nat) (hW : (rest.map fun v => v.category).sum = W)
    (hfr : rm.frames + 1 ≤ R.frames) (hlo : W + (mL + 11) + rm.locals ≤ R.locals) (hce : cells + rm.cells ≤ R.cells) (hsl : slots + rm.slots ≤ R.slots) (hp : pc + 3 = pc')
    (K : ∀ v T' L, Stand p l e R s m args below meth c T' (locs ++ L) (cells + rm.cells) (slots + rm.slots) → Q v T'.heap L → Go p.tables e below G T' (mkF m pc' Ls (v.toList ++ rest))) : Go p.tables e below G T (mkF m pc Ls st) := by
  subst hp has
  obtain ⟨v, _, ⟨T1, L1, k1, n1⟩, -, X1, ⟨Lc, hQ, q1, q2, q3⟩, st1⟩ := Jvm.LawKit.callS X C.exec (y := y) C.own (mvT C.warm w1) (mvT C.warm w2) (mvT C.warm w3) (mvT C.warm w4) hy (backOf (W := W) (K0 []) C.warm w4 w3 hfr hlo)
    (g := mkF m pc Ls st) rfl (by rw [C.maxl]; exact hsz) (argsL := argsL) (rest := rest) (lenOf hpd hlen) hst (by show 2 * 0 + _ ≤ _; rw [hW]; omega) (C.at hd) (fun _ _ => ⟨rfl, eT, hce, hsl⟩)
  dsimp only [Pt.U, Pt.locs, Pt.cells, Pt.slots] at X1 q1 q2 q3 st1 hQ
  subst q1 q2 q3
  exact Go.step st1 (K v T1 Lc X1 hQ)
theorem go_trans {tb : Tables} {T1 : State} {g g1 : JFrame} (st : Steps tb e below (T.setTop g) (T1.setTop g1)) (k : Go tb e below G T1 g1) : Go tb e below G T g := by
  obtain ⟨s2, o, h1, h2⟩ := k
  exact ⟨s2, o, st.trans h1, h2⟩
theorem g_callI (C : Cx p l s m meth c Z x0 code maxL ret) (X : Stand p l e R s m args below meth c T locs cells slots) {index : Nat} {y : MethodName} {bytes : ByteArray} {mL : Nat} {rm : Room} {as : Array Value} {Q : Option Value → Heap → List Loc → Prop} (K0 : Con l Z y bytes mL none rm as h Q) (hy1 : y.name = "<init>")
    (w1 : (Cond.methodLink x0.cls index y).before a0 Z = true) (w2 : (Cond.instanceMethod y).before a0 Z = true) (w3 : (Cond.initialized y.cls).before a0 Z = true) (w4 : (Cond.code y bytes mL none).before a0 Z = true)
    (hy : y.cls ≠ "java/lang/invoke/MethodHandle" ∧ y.cls ≠ "java/lang/invoke/VarHandle") (eT : T.heap = h) {pc pc' : Nat} {Ls : Array Slot} {st : List Value} (hd : decode code pc = .ok (.invokespecial index, 3)) (hsz : Ls.size = maxL)
    {ps : List FieldType} {r : Option FieldType} (hpd : parseMethodDescriptor y.desc = some ⟨ps, r⟩) (a : Addr) (argsL rest : List Value) (hlen : argsL.length = ps.length) (has : (.ref a :: argsL).toArray = as) (hst : st = argsL.reverse ++ .ref a :: rest) (W : Nat) (hW : (rest.map fun v => v.category).sum = W)
    (hfr : rm.frames + 1 ≤ R.frames) (hlo : W + (mL + 11) + rm.locals ≤ R.locals) (hce : cells + rm.cells ≤ R.cells) (hsl : slots + rm.slots ≤ R.slots) (hp : pc + 3 = pc')
    (K : ∀ v T' L, Stand p l e R s m args below meth c T' (locs ++ L) (cells + rm.cells) (slots + rm.slots) → Q v T'.heap L → Go p.tables e below G T' (mkF m pc' Ls (v.toList ++ rest))) : Go p.tables e below G T (mkF m pc Ls st) := by
  subst hp has
  obtain ⟨v, _, ⟨T1, L1, k1, n1⟩, -, X1, ⟨Lc, hQ, q1, q2, q3⟩, st1⟩ := X.specialBack C.exec (y := y) hy1 C.own (mvT C.warm w1) (mvT C.warm w2) (mvT C.warm w4) hy (backOf (W := W) (K0 []) C.warm w4 w3 hfr hlo)
    (g := mkF m pc Ls st) rfl (by rw [C.maxl]; exact hsz) (Steps.refl _) (a := a) (argsL := argsL) (rest := rest) (lenOf hpd hlen) hst (by show 2 * 0 + _ ≤ _; rw [hW]; omega) (C.at hd) (fun _ _ => ⟨rfl, eT, hce, hsl⟩)
  dsimp only [Pt.U, Pt.locs, Pt.cells, Pt.slots] at X1 q1 q2 q3 st1 hQ
  subst q1 q2 q3
  exact go_trans st1 (K v T1 Lc X1 hQ)
theorem g_callV (C : Cx p l s m meth c Z x0 code maxL ret) (X : Stand p l e R s m args below meth c T locs cells slots) {index : Nat} {y : MethodName} {cls : String} {bytes : ByteArray} {mL : Nat} {rt : Option FieldType} {rm : Room} {as : Array Value} {Q : Option Value → Heap → List Loc → Prop} (K0 : Con l Z y bytes mL rt rm as h Q)
    (w1 : (Cond.methodLink x0.cls index y).before a0 Z = true) (w2 : (Cond.declares y).before a0 Z = true) (w5 : (Cond.selects cls y y).before a0 Z = true) (w6 : (Cond.instanceMethod y).before a0 Z = true) (w3 : (Cond.initialized y.cls).before a0 Z = true) (w4 : (Cond.code y bytes mL rt).before a0 Z = true)
    (hy : y.cls ≠ "java/lang/invoke/MethodHandle" ∧ y.cls ≠ "java/lang/invoke/VarHandle") (eT : T.heap = h) {a : Addr} (E : Exa Z h a cls) {pc pc' : Nat} {Ls : Array Slot} {st : List Value} (hd : decode code pc = .ok (.invokevirtual index, 3)) (hsz : Ls.size = maxL)
    {ps : List FieldType} {r : Option FieldType} (hpd : parseMethodDescriptor y.desc = some ⟨ps, r⟩) (argsL rest : List Value) (hlen : argsL.length = ps.length) (has : (.ref a :: argsL).toArray = as) (hst : st = argsL.reverse ++ .ref a :: rest) (W : Nat) (hW : (rest.map fun v => v.category).sum = W)
    (hfr : rm.frames + 1 ≤ R.frames) (hlo : W + (mL + 11) + rm.locals ≤ R.locals) (hce : cells + rm.cells ≤ R.cells) (hsl : slots + rm.slots ≤ R.slots) (hp : pc + 3 = pc')
    (K : ∀ v T' L, Stand p l e R s m args below meth c T' (locs ++ L) (cells + rm.cells) (slots + rm.slots) → Q v T'.heap L → Go p.tables e below G T' (mkF m pc' Ls (v.toList ++ rest))) : Go p.tables e below G T (mkF m pc Ls st) := by
  subst hp has
  obtain ⟨cq, kq, qa, qb, qc⟩ := isOf C.warm eT E
  obtain ⟨v, _, ⟨T1, L1, k1, n1⟩, -, X1, ⟨Lc, hQ, q1, q2, q3⟩, st1⟩ := X.virtualBack C.exec (y := y) (z := y) C.own (mvT C.warm w1) (mvT C.warm w2) (notFace_of_selects (args := #[]) (mvT C.warm w5)) (mvT C.warm w5) (mvT C.warm w6) hy (backOf (W := W) (K0 []) C.warm w4 w3 hfr hlo) qa qc
    (g := mkF m pc Ls st) rfl (by rw [C.maxl]; exact hsz) (Steps.refl _) (argsL := argsL) (rest := rest) (lenOf hpd hlen) hst (by show 2 * 0 + _ ≤ _; rw [hW]; omega) (C.at hd) (fun _ _ => ⟨rfl, eT, hce, hsl⟩)
  dsimp only [Pt.U, Pt.locs, Pt.cells, Pt.slots] at X1 q1 q2 q3 st1 hQ
  subst q1 q2 q3
  exact go_trans st1 (K v T1 Lc X1 hQ)
theorem g_initO (C : Cx p l s m meth c Z x0 code maxL ret) (X : Stand p l e R s m args below meth c T locs cells slots) {index : Nat} (w1 : (Cond.methodLink x0.cls index Lib.objectInit).before a0 Z = true) (w2 : (Cond.instanceMethod Lib.objectInit).before a0 Z = true) (w3 : (Cond.code Lib.objectInit ⟨#[0xb1]⟩ 1 none).before a0 Z = true) (eT : T.heap = h)
    {pc pc' : Nat} {Ls : Array Slot} {a : Addr} {rest : List Value} (hd : decode code pc = .ok (.invokespecial index, 3)) (hsz : Ls.size = maxL) (W : Nat) (hW : (rest.map fun v => v.category).sum = W) (hfr : 1 ≤ R.frames) (hlo : W + 12 ≤ R.locals) (hp : pc + 3 = pc')
    (K : ∀ T', Stand p l e R s m args below meth c T' locs cells slots → T'.heap = h → Go p.tables e below G T' (mkF m pc' Ls rest)) : Go p.tables e below G T (mkF m pc Ls (.ref a :: rest)) := by
  subst hp
  obtain ⟨T1, X1, e1, st1⟩ := initO X C.exec C.warm C.own w1 w2 w3 eT (g := mkF m pc Ls (.ref a :: rest)) rfl (by rw [C.maxl]; exact hsz) rfl (C.at hd) hfr (W := W) (by show 2 * 0 + _ ≤ _; rw [hW]; omega) hlo
  exact Go.step st1 (K T1 X1 e1)
/-! the heap -/
theorem g_new (C : Cx p l s m meth c Z x0 code maxL ret) (X : Stand p l e R s m args below meth c T locs cells slots) {cls : String} {index n : Nat} (w : (Cond.classLink x0.cls index cls).before a0 Z = true) (wi : (Cond.instantiable cls n).before a0 Z = true) (wz : (Cond.initialized cls).before a0 Z = true) (eT : T.heap = h)
    {pc pc' : Nat} {Ls : Array Slot} {st : List Value} (hd : decode code pc = .ok (.new index, 3)) (hc : cells + 1 ≤ R.cells) (hl : slots + n ≤ R.slots) (hp : pc + 3 = pc')
    (K : ∀ T' h' a, a = h.size → Stand p l e R s m args below meth c T' locs (cells + 1) (slots + n) → T'.heap = h' → Ext h h' → Exa Z h' a cls → (∀ {O nm d : String} {ty : FieldType}, Laid Z a0 cls O nm d → parseFieldDescriptor d = some ty → Fld Z h' a O nm d (defaultValue ty)) → Go p.tables e below G T' (mkF m pc' Ls (.ref a :: st))) :
    Go p.tables e below G T (mkF m pc Ls st) := by
  subst hp
  obtain ⟨T1, h1, X1, e1, E1, A1, D1, -, st1⟩ := newO X C.exec C.warm C.own w wi wz eT (g := mkF m pc Ls st) rfl (C.at hd) hc hl
  exact Go.step st1 (K T1 h1 h.size rfl X1 e1 E1 A1 D1)
theorem g_newP (C : Cx p l s m meth c Z x0 code maxL ret) (X : Stand p l e R s m args below meth c T locs cells slots) {aty : ArrayType} (w : (Cond.arrayClass (newarray.typeOf aty)).before a0 Z = true) (eT : T.heap = h)
    {pc pc' : Nat} {Ls : Array Slot} {st : List Value} {z : Int32} (hd : decode code pc = .ok (.newarray aty, 2)) (hz : ¬ z < 0) (cap : Nat) (hcap : z.toNatClampNeg ≤ cap) (hb : cap * 8 ≤ 536870912) (hc : cells + 1 ≤ R.cells) (hl : slots + cap ≤ R.slots) (hp : pc + 2 = pc')
    (K : ∀ T' h' a k, a = h.size → Stand p l e R s m args below meth c T' locs (cells + 1) (slots + cap) → T'.heap = h' → Ext h h' → Arv Z h' a k (newarray.typeOf aty) z [] (defaultValue (newarray.typeOf aty)) → Go p.tables e below G T' (mkF m pc' Ls (.ref a :: st))) :
    Go p.tables e below G T (mkF m pc Ls (.int z :: st)) := by
  subst hp
  obtain ⟨T1, h1, cA, X1, e1, E1, A1, st1⟩ := newP X C.exec C.warm w eT (g := mkF m pc Ls (.int z :: st)) rfl (C.at hd) rfl hz hcap hb hc hl
  exact Go.step st1 (K T1 h1 h.size cA rfl X1 e1 E1 (Arv.new A1 hz))
theorem g_getF (C : Cx p l s m meth c Z x0 code maxL ret) (X : Stand p l e R s m args below meth c T locs cells slots) {R0 O n d host : String} {index : Nat} (w : (Cond.fieldLink x0.cls index R0 n d).before a0 Z = true ∨ (Cond.fieldLinkNest x0.cls index R0 n d host).before a0 Z = true) (via : Via Z R0 O n d) (eT : T.heap = h) {a : Addr} {v : Value} (F : Fld Z h a O n d v)
    {pc pc' : Nat} {Ls : Array Slot} {st : List Value} (hd : decode code pc = .ok (.getfield index, 3)) (hp : pc + 3 = pc')
    (K : ∀ T', Stand p l e R s m args below meth c T' locs cells slots → T'.heap = h → Go p.tables e below G T' (mkF m pc' Ls (v :: st))) : Go p.tables e below G T (mkF m pc Ls (.ref a :: st)) := by
  subst hp
  obtain ⟨T1, X1, e1, st1⟩ := getF X C.exec C.warm C.own w via eT F (g := mkF m pc Ls (.ref a :: st)) rfl rfl (C.at hd)
  exact Go.step st1 (K T1 X1 e1)
theorem g_putF (C : Cx p l s m meth c Z x0 code maxL ret) (X : Stand p l e R s m args below meth c T locs cells slots) {R0 O n d host cls : String} {index kk : Nat} {ty : FieldType} (w : (Cond.fieldLink x0.cls index R0 n d).before a0 Z = true ∨ (Cond.fieldLinkNest x0.cls index R0 n d host).before a0 Z = true) (via : Via Z R0 O n d) (eT : T.heap = h) {a : Addr} {v old : Value} (F : Fld Z h a O n d old) (E : Exa Z h a cls)
    (L : (Cond.lays cls O n d).before a0 Z = true ∨ ((Cond.laysFinal cls O n d).before a0 Z = true ∧ x0.cls = O ∧ x0.name = "<init>")) (wi : (Cond.instantiable cls kk).before a0 Z = true) (hty : parseFieldDescriptor d = some ty) (hn : narrow ty v = v) (hf : fits ty v = true)
    {pc pc' : Nat} {Ls : Array Slot} {st : List Value} (hd : decode code pc = .ok (.putfield index, 3)) (hp : pc + 3 = pc')
    (K : ∀ T' h', Stand p l e R s m args below meth c T' (locs ++ [⟨a, RoadKit.slotOf Z O n d⟩]) cells slots → T'.heap = h' → Wr h h' a (RoadKit.slotOf Z O n d) v → Go p.tables e below G T' (mkF m pc' Ls st)) : Go p.tables e below G T (mkF m pc Ls (v :: .ref a :: st)) := by
  subst hp
  obtain ⟨T1, h1, X1, e1, W1, st1⟩ := putF X C.exec C.warm C.own w via eT F E (L.imp id fun q => ⟨q.1, q.2.1, C.nm.trans q.2.2⟩) wi hty hn hf (g := mkF m pc Ls (v :: .ref a :: st)) rfl rfl (C.at hd)
  exact Go.step st1 (K T1 h1 X1 e1 W1)
/-- an array whose values are a list: read, length, store -/
theorem Arv.cell {a : Addr} {k : ClassId} {ty : FieldType} {z : Int32} {vs : List Value} {d : Value} (A : Arv Z h a k ty z vs d) : ∃ cl : Cell, Arr Z h a cl ty ∧ cl.slots.size = z.toNatClampNeg ∧ ¬ z < 0 ∧ Has cl vs d := by
  obtain ⟨cl, A1, -, S, N, H, -⟩ := A
  exact ⟨cl, A1, S, N, H⟩
theorem g_len (C : Cx p l s m meth c Z x0 code maxL ret) (X : Stand p l e R s m args below meth c T locs cells slots) {a : Addr} {k : ClassId} {ty : FieldType} {z : Int32} {vs : List Value} {d : Value} (eT : T.heap = h) (A : Arv Z h a k ty z vs d) {pc pc' : Nat} {Ls : Array Slot} {st : List Value} (hd : decode code pc = .ok (.arraylength, 1)) (hp : pc + 1 = pc')
    (K : Go p.tables e below G T (mkF m pc' Ls (.int z :: st))) : Go p.tables e below G T (mkF m pc Ls (.ref a :: st)) := by
  subst hp
  obtain ⟨cl, A1, S, N, H⟩ := Arv.cell A
  refine Go.step (fun t q => X.arraylength C.exec (cell := cl) (by rw [eT]; exact A1.1) (State.isArrayOf_alike C.warm.alike A1.2.1) (g := mkF m pc Ls (.ref a :: st)) rfl rfl (C.at hd) t ?_) K
  rw [len_of S N]; exact q
theorem inb {cl : Cell} {z j : Int32} (S : cl.slots.size = z.toNatClampNeg) (h0 : 0 ≤ j.toInt) (h1 : j.toInt < z.toInt) : ¬ (j < 0 ∨ cl.slots.size ≤ j.toNatClampNeg) :=
  inb_of S ⟨fun q => by rw [Int32.lt_iff_toInt_lt] at q; exact absurd q (Int.not_lt.mpr h0), Int32.lt_iff_toInt_lt.mpr h1⟩
theorem g_iaload (C : Cx p l s m meth c Z x0 code maxL ret) (X : Stand p l e R s m args below meth c T locs cells slots) {a : Addr} {k : ClassId} {z j : Int32} {vs : List Value} {d : Value} {v : Int32} (eT : T.heap = h) (A : Arv Z h a k .int z vs d) (h0 : 0 ≤ j.toInt) (h1 : j.toInt < z.toInt) (i : Nat) (hj : j.toNatClampNeg = i) (hv : vs.getD i d = .int v) {pc pc' : Nat} {Ls : Array Slot} {st : List Value} (hd : decode code pc = .ok (.iaload, 1)) (hp : pc + 1 = pc')
    (K : Go p.tables e below G T (mkF m pc' Ls (.int v :: st))) : Go p.tables e below G T (mkF m pc Ls (.int j :: .ref a :: st)) := by
  subst hp
  obtain ⟨cl, A1, S, N, H⟩ := Arv.cell A
  exact Go.step (fun t q => X.iaload C.exec (j := j) (v := .int v) (by rw [eT]; exact A1.1) (State.isArrayOf_alike C.warm.alike A1.2.1) A1.2.2 (inb S h0 h1) (H.at (inb S h0 h1) (by rw [hj]; exact hv)) (g := mkF m pc Ls (.int j :: .ref a :: st)) rfl rfl (C.at hd) t q) K
theorem g_daload (C : Cx p l s m meth c Z x0 code maxL ret) (X : Stand p l e R s m args below meth c T locs cells slots) {a : Addr} {k : ClassId} {z j : Int32} {vs : List Value} {d : Value} {v : UInt64} (eT : T.heap = h) (A : Arv Z h a k .double z vs d) (h0 : 0 ≤ j.toInt) (h1 : j.toInt < z.toInt) (i : Nat) (hj : j.toNatClampNeg = i) (hv : vs.getD i d = .double v) {pc pc' : Nat} {Ls : Array Slot} {st : List Value} (hd : decode code pc = .ok (.daload, 1)) (hp : pc + 1 = pc')
    (K : Go p.tables e below G T (mkF m pc' Ls (.double v :: st))) : Go p.tables e below G T (mkF m pc Ls (.int j :: .ref a :: st)) := by
  subst hp
  obtain ⟨cl, A1, S, N, H⟩ := Arv.cell A
  exact Go.step (fun t q => X.daload C.exec (j := j) (v := .double v) (by rw [eT]; exact A1.1) (State.isArrayOf_alike C.warm.alike A1.2.1) A1.2.2 (inb S h0 h1) (H.at (inb S h0 h1) (by rw [hj]; exact hv)) (g := mkF m pc Ls (.int j :: .ref a :: st)) rfl rfl (C.at hd) t q) K
theorem g_aaload (C : Cx p l s m meth c Z x0 code maxL ret) (X : Stand p l e R s m args below meth c T locs cells slots) {a : Addr} {k : ClassId} {z j : Int32} {ty : FieldType} {vs : List Value} {d v : Value} (eT : T.heap = h) (A : Arv Z h a k ty z vs d) (hty : ty.isReference = true) (hr : v.isRef = true) (h0 : 0 ≤ j.toInt) (h1 : j.toInt < z.toInt) (i : Nat) (hj : j.toNatClampNeg = i) (hv : vs.getD i d = v) {pc pc' : Nat} {Ls : Array Slot} {st : List Value} (hd : decode code pc = .ok (.aaload, 1)) (hp : pc + 1 = pc')
    (K : Go p.tables e below G T (mkF m pc' Ls (v :: st))) : Go p.tables e below G T (mkF m pc Ls (.int j :: .ref a :: st)) := by
  subst hp
  obtain ⟨cl, A1, S, N, H⟩ := Arv.cell A
  exact Go.step (fun t q => X.aaload C.exec (j := j) (v := v) (by rw [eT]; exact A1.1) (State.isArrayOf_alike C.warm.alike A1.2.1) hty A1.2.2 (inb S h0 h1) (H.at (inb S h0 h1) (by rw [hj]; exact hv)) (g := mkF m pc Ls (.int j :: .ref a :: st)) rfl rfl (C.at hd) t q) K
theorem Arv.put {h' : Heap} {a : Addr} {k : ClassId} {ty : FieldType} {z j : Int32} {vs : List Value} {d v : Value} (A : Arv Z h a k ty z vs d) (W : Wr h h' a j.toNatClampNeg v) (hv : fits ty v = true) (i : Nat) (hj : j.toNatClampNeg = i) (n : Nat) (hi : i < vs.length + n) : Arv Z h' a k ty z ((vs ++ List.replicate n d).set i v) d := by
  obtain ⟨cl, A1, q1, S, N, H, Gf⟩ := Arv.pad A (pad_rep vs d n)
  exact Arv.set A1 q1 S N H Gf hv W i hj (by rw [List.length_append, List.length_replicate]; exact hi)
theorem g_iastore (C : Cx p l s m meth c Z x0 code maxL ret) (X : Stand p l e R s m args below meth c T locs cells slots) {a : Addr} {k : ClassId} {z j x : Int32} {vs : List Value} {d : Value} (eT : T.heap = h) (A : Arv Z h a k .int z vs d) (h0 : 0 ≤ j.toInt) (h1 : j.toInt < z.toInt) (i n : Nat) (hj : j.toNatClampNeg = i) (hi : i < vs.length + n) {pc pc' : Nat} {Ls : Array Slot} {st : List Value} (hd : decode code pc = .ok (.iastore, 1)) (hp : pc + 1 = pc')
    (K : ∀ T' h', Stand p l e R s m args below meth c T' (locs ++ [⟨a, j.toNatClampNeg⟩]) cells slots → T'.heap = h' → Wr h h' a j.toNatClampNeg (.int x) → Arv Z h' a k .int z ((vs ++ List.replicate n d).set i (.int x)) d → Go p.tables e below G T' (mkF m pc' Ls st)) : Go p.tables e below G T (mkF m pc Ls (.int x :: .int j :: .ref a :: st)) := by
  subst hp
  obtain ⟨cl, A1, S, N, H⟩ := Arv.cell A
  obtain ⟨T1, h2, X1, e1, W1, st1⟩ := stI X C.exec C.warm eT A1 (inb S h0 h1) (g := mkF m pc Ls (.int x :: .int j :: .ref a :: st)) rfl rfl (C.at hd)
  exact Go.step st1 (K T1 h2 X1 e1 W1 (Arv.put A W1 rfl i hj n hi))
theorem g_dastore (C : Cx p l s m meth c Z x0 code maxL ret) (X : Stand p l e R s m args below meth c T locs cells slots) {a : Addr} {k : ClassId} {z j : Int32} {x : UInt64} {vs : List Value} {d : Value} (eT : T.heap = h) (A : Arv Z h a k .double z vs d) (h0 : 0 ≤ j.toInt) (h1 : j.toInt < z.toInt) (i n : Nat) (hj : j.toNatClampNeg = i) (hi : i < vs.length + n) {pc pc' : Nat} {Ls : Array Slot} {st : List Value} (hd : decode code pc = .ok (.dastore, 1)) (hp : pc + 1 = pc')
    (K : ∀ T' h', Stand p l e R s m args below meth c T' (locs ++ [⟨a, j.toNatClampNeg⟩]) cells slots → T'.heap = h' → Wr h h' a j.toNatClampNeg (.double x) → Arv Z h' a k .double z ((vs ++ List.replicate n d).set i (.double x)) d → Go p.tables e below G T' (mkF m pc' Ls st)) : Go p.tables e below G T (mkF m pc Ls (.double x :: .int j :: .ref a :: st)) := by
  subst hp
  obtain ⟨cl, A1, S, N, H⟩ := Arv.cell A
  obtain ⟨T1, h2, X1, e1, W1, st1⟩ := stD X C.exec C.warm eT A1 (inb S h0 h1) (g := mkF m pc Ls (.double x :: .int j :: .ref a :: st)) rfl rfl (C.at hd)
  exact Go.step st1 (K T1 h2 X1 e1 W1 (Arv.put A W1 rfl i hj n hi))
theorem g_ldc2J (C : Cx p l s m meth c Z x0 code maxL ret) (X : Stand p l e R s m args below meth c T locs cells slots) {index : Nat} {v : Int64} (w : (Cond.constantLong x0.cls index v).before a0 Z = true) {pc pc' : Nat} {Ls : Array Slot} {st : List Value} (hd : decode code pc = .ok (.ldc2_w index, 3)) (hp : pc + 3 = pc')
    (K : Go p.tables e below G T (mkF m pc' Ls (.long v :: st))) : Go p.tables e below G T (mkF m pc Ls st) := by
  subst hp
  exact Go.step (fun t q => X.ldc2Long C.exec C.own (mvT C.warm w) (g := mkF m pc Ls st) rfl (C.at hd) t q) K
theorem g_ldcI (C : Cx p l s m meth c Z x0 code maxL ret) (X : Stand p l e R s m args below meth c T locs cells slots) {index : Nat} {v : Int32} (w : (Cond.constant x0.cls index v).before a0 Z = true) {pc pc' : Nat} {Ls : Array Slot} {st : List Value} (hd : decode code pc = .ok (.ldc index, 2)) (hp : pc + 2 = pc')
    (K : Go p.tables e below G T (mkF m pc' Ls (.int v :: st))) : Go p.tables e below G T (mkF m pc Ls st) := by
  subst hp
  exact Go.step (fun t q => X.ldcInt C.exec C.own (mvT C.warm w) (g := mkF m pc Ls st) rfl (C.at hd) t q) K
theorem FldE.wr {h' : Heap} {a b : Addr} {C n d : String} {sl : Nat} {v : Value} (W : Wr h h' b sl v) (F : ∃ w, Fld Z h a C n d w) : ∃ w, Fld Z h' a C n d w := by
  obtain ⟨w, F⟩ := F
  by_cases q : a ≠ b ∨ RoadKit.slotOf Z C n d ≠ sl
  · exact ⟨w, F.other W q⟩
  · have q1 : a = b := Decidable.not_not.mp fun z => q (Or.inl z)
    have q2 : RoadKit.slotOf Z C n d = sl := Decidable.not_not.mp fun z => q (Or.inr z)
    subst q1 q2
    exact ⟨v, F.same W⟩
theorem g_ldc2D (C : Cx p l s m meth c Z x0 code maxL ret) (X : Stand p l e R s m args below meth c T locs cells slots) {index : Nat} {b : UInt64} (w : (Cond.constantDouble x0.cls index b).before a0 Z = true) {pc pc' : Nat} {Ls : Array Slot} {st : List Value} (hd : decode code pc = .ok (.ldc2_w index, 3)) (hp : pc + 3 = pc')
    (K : Go p.tables e below G T (mkF m pc' Ls (.double b :: st))) : Go p.tables e below G T (mkF m pc Ls st) := by
  subst hp
  exact Go.step (fun t q => X.ldc2DoubleC C.exec C.own (mvT C.warm w) (g := mkF m pc Ls st) rfl (C.at hd) t q) K
end Walk
/-! doubles that are whole numbers -/
section Dbl
open Jvm.FP.Core Jvm.Free.Fl
theorem nn_of_int {i : Int} {a : UInt64} (q : DInt i a) : NoNaN64 a := val64_no.mpr (DInt_ne_nan q)
def cmpI (i j : Int) : Int32 := if j < i then 1 else if i = j then 0 else -1
theorem cmpI_lt (i j : Int) : (cmpI i j).toInt < 0 ↔ i < j := by
  unfold cmpI
  split
  · exact ⟨fun q => absurd q (by decide), fun q => by omega⟩
  · split
    · exact ⟨fun q => absurd q (by decide), fun q => by omega⟩
    · exact ⟨fun _ => by omega, fun _ => by decide⟩
theorem cmpI_gt (i j : Int) : 0 < (cmpI i j).toInt ↔ j < i := by
  unfold cmpI
  split
  · exact ⟨fun _ => by assumption, fun _ => by decide⟩
  · split
    · exact ⟨fun q => absurd q (by decide), fun q => by omega⟩
    · exact ⟨fun q => absurd q (by decide), fun q => by omega⟩
theorem cmpI_eq (i j : Int) : (cmpI i j).toInt = 0 ↔ i = j := by
  unfold cmpI
  split
  · exact ⟨fun q => absurd q (by decide), fun q => by omega⟩
  · split
    · exact ⟨fun _ => by assumption, fun _ => by decide⟩
    · exact ⟨fun q => absurd q (by decide), fun q => by omega⟩
theorem cmpI_self (i : Int) : cmpI i i = 0 := by
  unfold cmpI
  rw [if_neg (Int.lt_irrefl i), if_pos rfl]
theorem cmpL_lt (x y : Int64) : (XT.cmpL x y).toInt < 0 ↔ x.toInt < y.toInt := by
  unfold XT.cmpL
  rw [← Int64.lt_iff_toInt_lt]
  split
  · rename_i q; exact ⟨fun q => absurd q (by decide), fun q' => absurd q' (Int64.lt_asymm q)⟩
  · split
    · rename_i q; subst q; exact ⟨fun q => absurd q (by decide), fun q' => absurd q' Int64.lt_irrefl⟩
    · rename_i q1 q2; exact ⟨fun _ => by have q3 : ¬ x.toInt = y.toInt := fun q => q2 (Int64.toInt_inj.mp q); rw [Int64.lt_iff_toInt_lt] at q1 ⊢; omega, fun _ => by decide⟩
theorem cmpL_gt (x y : Int64) : 0 < (XT.cmpL x y).toInt ↔ y.toInt < x.toInt := by
  unfold XT.cmpL
  rw [← Int64.lt_iff_toInt_lt]
  split
  · rename_i q; exact ⟨fun _ => q, fun _ => by decide⟩
  · split
    · rename_i q0 q; exact ⟨fun q => absurd q (by decide), fun q' => absurd q' q0⟩
    · rename_i q0 q; exact ⟨fun q => absurd q (by decide), fun q' => absurd q' q0⟩
theorem cmpL_eq (x y : Int64) : (XT.cmpL x y).toInt = 0 ↔ x.toInt = y.toInt := by
  unfold XT.cmpL
  rw [Int64.toInt_inj]
  split
  · rename_i q; exact ⟨fun q => absurd q (by decide), fun q' => absurd q (by rw [q']; exact Int64.lt_irrefl)⟩
  · split
    · rename_i q; exact ⟨fun _ => q, fun _ => by decide⟩
    · rename_i q0 q; exact ⟨fun q => absurd q (by decide), fun q' => absurd q' q⟩
theorem cmpV_of {r : Option Ordering} {i j : Int} (q : r = some (compare i j)) (o : CmpOp) : cmpValue r o = cmpI i j := by
  subst q
  unfold cmpI
  split
  · rename_i q; rw [(compare_gt_iff i j).mpr q]; rfl
  · split
    · rename_i q; rw [(compare_eq_iff i j).mpr q]; rfl
    · rename_i q1 q2; rw [(compare_lt_iff i j).mpr (by omega)]; rfl
theorem dcmp_cmpI {i j : Int} {a b : UInt64} (ha : DInt i a) (hb : DInt j b) (o : CmpOp) : cmpValue (FP.dcmp a b) o = cmpI i j := cmpV_of (dcmp_int ha hb) o
theorem dint_zero : DInt 0 FP.dconst0 := by
  unfold DInt
  rw [show val64 FP.dconst0 = _ from val64_dconst0]
  show signed false (0 * _) = 0 * _
  rw [Nat.zero_mul, Int.zero_mul]; rfl
end Dbl
end Jvm.OwnKit
namespace Jvm.OwnKit
open Sem ClassFile Op Lib Jvm.Stand Jvm.Free Jvm.LawKit Jvm.RoadKit
section More
variable {p : Program} {l : Launch} {e : Env} {R : Room} {s : State} {m : MethodId} {args : Array Value} {below : List Frame} {meth : Method} {c : Code} {T : State} {locs : List Loc} {cells slots : Nat} {Z : State} {a0 : Array Value} {h : Heap} {G : Outcome → State → Prop}
variable {x0 : MethodName} {code : ByteArray} {maxL : Nat} {ret : Option FieldType}
theorem g_newPE (C : Cx p l s m meth c Z x0 code maxL ret) (X : Stand p l e R s m args below meth c T locs cells slots) {aty : ArrayType} {ad : String} (had : "[" ++ (newarray.typeOf aty).toString = ad) (w : (Cond.arrayClass (newarray.typeOf aty)).before a0 Z = true) (eT : T.heap = h)
    {pc pc' : Nat} {Ls : Array Slot} {st : List Value} {z : Int32} (hd : decode code pc = .ok (.newarray aty, 2)) (hz : ¬ z < 0) (cap : Nat) (hcap : z.toNatClampNeg ≤ cap) (hb : cap * 8 ≤ 536870912) (hc : cells + 1 ≤ R.cells) (hl : slots + cap ≤ R.slots) (hp : pc + 2 = pc')
    (K : ∀ T' h' a k, a = h.size → Stand p l e R s m args below meth c T' locs (cells + 1) (slots + cap) → T'.heap = h' → Ext h h' → Arv Z h' a k (newarray.typeOf aty) z [] (defaultValue (newarray.typeOf aty)) → Exa Z h' a ad → Go p.tables e below G T' (mkF m pc' Ls (.ref a :: st))) :
    Go p.tables e below G T (mkF m pc Ls (.int z :: st)) := by
  subst hp
  obtain ⟨T1, h1, cA, X1, e1, E1, A1, B1, st1⟩ := newPE X C.exec C.warm w eT (g := mkF m pc Ls (.int z :: st)) rfl (C.at hd) rfl hz hcap hb hc hl had
  exact Go.step st1 (K T1 h1 h.size cA rfl X1 e1 E1 (Arv.new A1 hz) B1)
theorem g_clone (C : Cx p l s m meth c Z x0 code maxL ret) (X : Stand p l e R s m args below meth c T locs cells slots) {index : Nat} {ad : String} {ty : FieldType} (w1 : (Cond.methodLink x0.cls index ⟨ad, "clone", "()Ljava/lang/Object;"⟩).before a0 Z = true) (w2 : (Cond.sameMethod ad "java/lang/Object" "clone" "()Ljava/lang/Object;").before a0 Z = true) (w3 : (Cond.native ⟨"java/lang/Object", "clone", "()Ljava/lang/Object;"⟩).before a0 Z = true)
    (w4 : (Cond.instanceMethod ⟨"java/lang/Object", "clone", "()Ljava/lang/Object;"⟩).before a0 Z = true) (w5 : (Cond.selects ad ⟨ad, "clone", "()Ljava/lang/Object;"⟩ ⟨"java/lang/Object", "clone", "()Ljava/lang/Object;"⟩).before a0 Z = true) (w6 : (Cond.castable ad "java/lang/Cloneable").before a0 Z = true) (eT : T.heap = h)
    {a : Addr} {k : ClassId} {z : Int32} {vs : List Value} {d : Value} (A : Arv Z h a k ty z vs d) (E : Exa Z h a ad) {pc pc' : Nat} {Ls : Array Slot} {rest : List Value} (hd : decode code pc = .ok (.invokevirtual index, 3)) (hsz : Ls.size = maxL) (W : Nat) (hW : (rest.map fun v => v.category).sum = W) (hfr : 1 ≤ R.frames) (hlo : W + 14 ≤ R.locals)
    (cap : Nat) (hcap : z.toNatClampNeg ≤ cap) (hc : cells + 1 ≤ R.cells) (hl : slots + cap ≤ R.slots) (hp : pc + 3 = pc')
    (K : ∀ T' h' a', a' = h.size → Stand p l e R s m args below meth c T' locs (cells + 1) (slots + cap) → T'.heap = h' → Ext h h' → Arv Z h' a' k ty z vs d → Exa Z h' a' ad → Go p.tables e below G T' (mkF m pc' Ls (.ref a' :: rest))) :
    Go p.tables e below G T (mkF m pc Ls (.ref a :: rest)) := by
  subst hp
  obtain ⟨T1, h1, X1, e1, E1, A1, B1, st1⟩ := cloneH X C.exec C.warm C.own w1 w2 w3 w4 w5 w6 eT A.arh E (g := mkF m pc Ls (.ref a :: rest)) rfl (by rw [C.maxl]; exact hsz) rfl (C.at hd) hfr (W := W) (by show 2 * 0 + _ ≤ _; rw [hW]; omega) hlo hcap hc hl
  exact Go.step st1 (K T1 h1 h.size rfl X1 e1 E1 A1 B1)
theorem g_cast (C : Cx p l s m meth c Z x0 code maxL ret) (X : Stand p l e R s m args below meth c T locs cells slots) {cls : String} {index : Nat} (w : (Cond.classLink x0.cls index cls).before a0 Z = true) (eT : T.heap = h) {a : Addr} (F : Ins Z h a cls true) {pc pc' : Nat} {Ls : Array Slot} {rest : List Value} (hd : decode code pc = .ok (.checkcast index, 3)) (hp : pc + 3 = pc')
    (K : ∀ T', Stand p l e R s m args below meth c T' locs cells slots → T'.heap = h → Go p.tables e below G T' (mkF m pc' Ls (.ref a :: rest))) : Go p.tables e below G T (mkF m pc Ls (.ref a :: rest)) := by
  subst hp
  obtain ⟨T1, X1, e1, st1⟩ := castY X C.exec C.warm C.own w eT F (g := mkF m pc Ls (.ref a :: rest)) rfl rfl (C.at hd)
  exact Go.step st1 (K T1 X1 e1)
theorem g_acmpY (C : Cx p l s m meth c Z x0 code maxL ret) (X : Stand p l e R s m args below meth c T locs cells slots) {pc pc' : Nat} {Ls : Array Slot} {st : List Value} {cd : ClassFile.ACond} {v w : Value} {o : Int} (hd : decode code pc = .ok (.if_acmp cd o, 3)) (hv : v.isRef = true) (hw : w.isRef = true) (hc : XT.acmp cd v w = true) (ho : 0 ≤ (pc : Int) + o) (hp : ((pc : Int) + o).toNat = pc')
    (K : Go p.tables e below G T (mkF m pc' Ls st)) : Go p.tables e below G T (mkF m pc Ls (w :: v :: st)) :=
  Go.step (fun _ k => XT.acmpYes X.here C.exec rfl rfl (C.at hd) rfl hv hw hc ho hp k) K
theorem g_acmpN (C : Cx p l s m meth c Z x0 code maxL ret) (X : Stand p l e R s m args below meth c T locs cells slots) {pc pc' : Nat} {Ls : Array Slot} {st : List Value} {cd : ClassFile.ACond} {v w : Value} {o : Int} (hd : decode code pc = .ok (.if_acmp cd o, 3)) (hv : v.isRef = true) (hw : w.isRef = true) (hc : XT.acmp cd v w = false) (hp : pc + 3 = pc')
    (K : Go p.tables e below G T (mkF m pc' Ls st)) : Go p.tables e below G T (mkF m pc Ls (w :: v :: st)) := by
  subst hp
  exact Go.step (fun _ k => XT.acmpNo X.here C.exec rfl (C.at hd) rfl hv hw hc k) K
theorem ac_same (v : Value) : XT.acmp .eq v v = true ∧ XT.acmp .ne v v = false := by simp [XT.acmp]
theorem ac_diff {v w : Value} (q : v ≠ w) : XT.acmp .eq v w = false ∧ XT.acmp .ne v w = true := by simp [XT.acmp, q]
theorem ref_ne {a b : Addr} (q : a ≠ b) : Value.ref a ≠ Value.ref b := fun z => q (Value.ref.inj z)
theorem g_ifnullY (C : Cx p l s m meth c Z x0 code maxL ret) (X : Stand p l e R s m args below meth c T locs cells slots) {pc pc' : Nat} {Ls : Array Slot} {st : List Value} {o : Int} (hd : decode code pc = .ok (.ifnull o, 3)) (ho : 0 ≤ (pc : Int) + o) (hp : ((pc : Int) + o).toNat = pc')
    (K : Go p.tables e below G T (mkF m pc' Ls st)) : Go p.tables e below G T (mkF m pc Ls (.null :: st)) :=
  Go.step (fun _ k => XS.ifnullYes X.here C.exec rfl rfl (C.at hd) rfl ho hp k) K
theorem g_ifnullN (C : Cx p l s m meth c Z x0 code maxL ret) (X : Stand p l e R s m args below meth c T locs cells slots) {pc pc' : Nat} {Ls : Array Slot} {st : List Value} {a : Addr} {o : Int} (hd : decode code pc = .ok (.ifnull o, 3)) (hp : pc + 3 = pc')
    (K : Go p.tables e below G T (mkF m pc' Ls st)) : Go p.tables e below G T (mkF m pc Ls (.ref a :: st)) := by
  subst hp
  exact Go.step (fun _ k => XS.ifnullNo X.here C.exec rfl (C.at hd) rfl k) K
theorem g_ifnonnullN (C : Cx p l s m meth c Z x0 code maxL ret) (X : Stand p l e R s m args below meth c T locs cells slots) {pc pc' : Nat} {Ls : Array Slot} {st : List Value} {o : Int} (hd : decode code pc = .ok (.ifnonnull o, 3)) (hp : pc + 3 = pc')
    (K : Go p.tables e below G T (mkF m pc' Ls st)) : Go p.tables e below G T (mkF m pc Ls (.null :: st)) := by
  subst hp
  exact Go.step (fun _ k => XT.ifnonnullNo X.here C.exec rfl (C.at hd) rfl k) K
theorem g_ifnonnullY (C : Cx p l s m meth c Z x0 code maxL ret) (X : Stand p l e R s m args below meth c T locs cells slots) {pc pc' : Nat} {Ls : Array Slot} {st : List Value} {a : Addr} {o : Int} (hd : decode code pc = .ok (.ifnonnull o, 3)) (ho : 0 ≤ (pc : Int) + o) (hp : ((pc : Int) + o).toNat = pc')
    (K : Go p.tables e below G T (mkF m pc' Ls st)) : Go p.tables e below G T (mkF m pc Ls (.ref a :: st)) :=
  Go.step (fun _ k => XT.ifnonnullYes X.here C.exec rfl rfl (C.at hd) rfl ho hp k) K
theorem g_getS (C : Cx p l s m meth c Z x0 code maxL ret) (X : Stand p l e R s m args below meth c T locs cells slots) {R0 O n d : String} {index : Nat} (w : (Cond.fieldLink x0.cls index R0 n d).before a0 Z = true) (via : Via Z R0 O n d) (eT : T.heap = h) {v : Value} (F : Sta Z h O n d v)
    {pc pc' : Nat} {Ls : Array Slot} {st : List Value} (hd : decode code pc = .ok (.getstatic index, 3)) (hp : pc + 3 = pc')
    (K : ∀ T', Stand p l e R s m args below meth c T' locs cells slots → T'.heap = h → Go p.tables e below G T' (mkF m pc' Ls (v :: st))) : Go p.tables e below G T (mkF m pc Ls st) := by
  subst hp
  obtain ⟨T1, X1, e1, st1⟩ := getS (host := "") X C.exec C.warm C.own w via eT F (g := mkF m pc Ls st) rfl (C.at hd)
  exact Go.step st1 (K T1 X1 e1)
theorem g_lshl (C : Cx p l s m meth c Z x0 code maxL ret) (X : Stand p l e R s m args below meth c T locs cells slots) {pc pc' : Nat} {Ls : Array Slot} {st : List Value} {x : Int64} {y : Int32} (hd : decode code pc = .ok (.lshl, 1)) (hp : pc + 1 = pc')
    (K : Go p.tables e below G T (mkF m pc' Ls (.long (x <<< (y.toInt64 &&& 63)) :: st))) : Go p.tables e below G T (mkF m pc Ls (.int y :: .long x :: st)) := by
  subst hp; exact Go.step (fun _ k => XT.lshl X.here C.exec rfl (C.at hd) rfl k) K
end More
end Jvm.OwnKit
namespace Jvm.OwnKit
section Dbl
open Jvm.FP.Core Jvm.Free.Fl
theorem i2d_D (x : Int32) : DInt x.toInt (FP.i2d x) := i2d_int x
theorem l2d_D {x : Int64} (h : x.toInt.natAbs ≤ 2 ^ 53) : DInt x.toInt (FP.l2d x) := l2d_int h
theorem dadd_D {i j : Int} {a b : UInt64} (ha : DInt i a) (hb : DInt j b) (h : (i + j).natAbs ≤ 2 ^ 53) : DInt (i + j) (FP.dadd a b) := dadd_int ha hb h
theorem dsub_D {i j : Int} {a b : UInt64} (ha : DInt i a) (hb : DInt j b) (h : (i - j).natAbs ≤ 2 ^ 53) : DInt (i - j) (FP.dsub a b) := dsub_int ha hb h
theorem dmul_D {i j : Int} {a b : UInt64} (ha : DInt i a) (hb : DInt j b) (h : (i * j).natAbs ≤ 2 ^ 53) : DInt (i * j) (FP.dmul a b) := dmul_int ha hb h
theorem dint_one' : DInt 1 FP.dconst1 := dint_one
theorem dneg_int' {i : Int} {a : UInt64} (ha : DInt i a) : DInt (-i) (FP.dneg a) := by
  unfold DInt
  rw [FP.val64_dneg]
  exact whole_negate ha
theorem own_pow_cancel {c k d q1 q2 r1 r2 : Nat} {q r : Int} (hq : (q1 : Int) - q2 = q) (hr : (r1 : Int) - r2 = r) (h : c * 2 ^ (q1 + r2) = k * d * 2 ^ (q2 + r1)) : c * 2 ^ (q - r).toNat = k * d * 2 ^ (r - q).toNat := by
  obtain ⟨n, hn⟩ : ∃ n : Nat, n = min (q1 + r2) (q2 + r1) := ⟨_, rfl⟩
  have e1 : q1 + r2 = (q - r).toNat + n := by omega
  have e2 : q2 + r1 = (r - q).toNat + n := by omega
  rw [e1, e2, Nat.pow_add, Nat.pow_add, ← Nat.mul_assoc, ← Nat.mul_assoc] at h
  exact Nat.eq_of_mul_eq_mul_right (Nat.two_pow_pos n) h
theorem ddiv_int {i j k : Int} {a b : UInt64} (ha : DInt i a) (hb : DInt j b) (hj : j ≠ 0) (hk : i = k * j) (h : k.natAbs ≤ 2 ^ 53) : DInt k (FP.ddiv a b) := by
  unfold DInt at *
  show Whole k (val64 (ddiv a b))
  rw [val64_ddiv]
  cases hva : val64 a with
  | nan => rw [hva] at ha; exact ha.elim
  | inf => rw [hva] at ha; exact ha.elim
  | fin s c q =>
    cases hvb : val64 b with
    | nan => rw [hvb] at hb; exact hb.elim
    | inf => rw [hvb] at hb; exact hb.elim
    | fin t d r =>
      rw [hva] at ha
      rw [hvb] at hb
      have hd : d ≠ 0 := fun q => hj ((whole_zero hb).mp q)
      have h1 := whole_natAbs ha
      have h2 := whole_natAbs hb
      have e1 : quotient b64 (.fin s c q) (.fin t d r) = round b64 (.fin (s != t) k.natAbs 0) := by
        show (if d = 0 then _ else roundRatio b64 (s != t) c d (q - r)) = roundRatio b64 (s != t) k.natAbs 1 0
        rw [if_neg hd]
        refine roundRatio_congr (by omega) (by decide) ?_
        have e2 : c * 2 ^ (q.toNat + (-r).toNat) = k.natAbs * d * 2 ^ ((-q).toNat + r.toNat) := by
          rw [Nat.pow_add, Nat.pow_add, ← Nat.mul_assoc, h1, hk, Int.natAbs_mul]
          calc k.natAbs * j.natAbs * 2 ^ (-q).toNat * 2 ^ (-r).toNat = k.natAbs * 2 ^ (-q).toNat * (j.natAbs * 2 ^ (-r).toNat) := by ac_rfl
            _ = k.natAbs * 2 ^ (-q).toNat * (d * 2 ^ r.toNat) := by rw [h2]
            _ = k.natAbs * d * (2 ^ (-q).toNat * 2 ^ r.toNat) := by ac_rfl
        have e3 := own_pow_cancel (q := q) (r := r) (by omega) (by omega) e2
        rw [Nat.mul_one, show (q - r - 0).toNat = (q - r).toNat by omega, show (0 - (q - r)).toNat = (r - q).toNat by omega]
        exact e3
      rw [e1]
      refine whole_round good_b64 wide_b64 h ?_
      show signed (s != t) (k.natAbs * 2 ^ 0) = k * ((2 ^ 0 : Nat) : Int)
      rw [Nat.pow_zero, Nat.mul_one]
      by_cases hk0 : k = 0
      · subst hk0; exact signed_zero _
      · have hi : i ≠ 0 := by rw [hk]; exact Int.mul_ne_zero hk0 hj
        rw [whole_sign ha hi, whole_sign hb hj]
        unfold signed
        rcases Int.lt_or_gt_of_ne hj with q1 | q1 <;> rcases Int.lt_or_gt_of_ne hk0 with q2 | q2
        · have q3 := Int.mul_pos_of_neg_of_neg q2 q1
          rw [← hk] at q3
          simp [q1, show ¬ i < 0 by omega]; omega
        · have q3 := Int.mul_neg_of_pos_of_neg q2 q1
          rw [← hk] at q3
          simp [q1, q3]; omega
        · have q3 := Int.mul_neg_of_neg_of_pos q2 q1
          rw [← hk] at q3
          simp [show ¬ j < 0 by omega, q3]; omega
        · have q3 := Int.mul_pos q2 q1
          rw [← hk] at q3
          simp [show ¬ j < 0 by omega, show ¬ i < 0 by omega]; omega
end Dbl
end Jvm.OwnKit
namespace Jvm.OwnKit
section Num
open Jvm.RoadKit
theorem own_m {x y X Y : Int} (h1 : -X ≤ x) (h2 : x ≤ X) (h3 : -Y ≤ y) (h4 : y ≤ Y) : -(X * Y) ≤ x * y ∧ x * y ≤ X * Y := by
  have q := mc h1 h2 h3 h4
  have q1 := Int.mul_le_mul_of_nonneg_left h4 (show 0 ≤ X + x by omega)
  have q2 := Int.mul_le_mul_of_nonneg_left h4 (show 0 ≤ X - x by omega)
  have q3 := Int.mul_le_mul_of_nonneg_left h3 (show 0 ≤ X + x by omega)
  have q4 := Int.mul_le_mul_of_nonneg_left h3 (show 0 ≤ X - x by omega)
  simp only [Int.add_mul, Int.sub_mul, Int.mul_neg] at q1 q2 q3 q4
  omega
theorem own_add {x y : Int64} (h1 : -9223372036854775808 ≤ x.toInt + y.toInt) (h2 : x.toInt + y.toInt < 9223372036854775808) : (x + y).toInt = x.toInt + y.toInt := FP.Core.int64_add h1 h2
theorem own_sub {x y : Int64} (h1 : -9223372036854775808 ≤ x.toInt - y.toInt) (h2 : x.toInt - y.toInt < 9223372036854775808) : (x - y).toInt = x.toInt - y.toInt := FP.Core.int64_sub h1 h2
theorem own_mul {x y : Int64} (h1 : -9223372036854775808 ≤ x.toInt * y.toInt) (h2 : x.toInt * y.toInt < 9223372036854775808) : (x * y).toInt = x.toInt * y.toInt := FP.Core.int64_mul h1 h2
theorem own_neg {x : Int64} (h1 : -9223372036854775808 < x.toInt) : (-x).toInt = -x.toInt := FP.Core.int64_neg h1
theorem own_iadd {x y : Int32} (h1 : -2147483648 ≤ x.toInt + y.toInt) (h2 : x.toInt + y.toInt < 2147483648) : (x + y).toInt = x.toInt + y.toInt := by
  have := c_iadd x y; have := rng32 (x + y); omega
theorem own_isub {x y : Int32} (h1 : -2147483648 ≤ x.toInt - y.toInt) (h2 : x.toInt - y.toInt < 2147483648) : (x - y).toInt = x.toInt - y.toInt := by
  have := c_isub x y; have := rng32 (x - y); omega
theorem own_imul {x y : Int32} (h1 : -2147483648 ≤ x.toInt * y.toInt) (h2 : x.toInt * y.toInt < 2147483648) : (x * y).toInt = x.toInt * y.toInt := by
  have := c_imul x y; have := rng32 (x * y); omega
theorem own_ineg {x : Int32} (h1 : -2147483648 < x.toInt) : (-x).toInt = -x.toInt := by
  have := c_ineg x; have := rng32 (-x); have := rng32 x; omega
end Num
end Jvm.OwnKit
namespace Jvm.Pilot.@@N@@
open Jvm Jvm.ClassFile Sem Op Lib Jvm.Free Jvm.Stand Jvm.LawKit Jvm.RoadKit Jvm.OwnKit Bundle Jvm.Pilot.@@N@@.Jvm.D
theorem d1_0 : decode prog_50_method_1_code 0 = .ok (.aload_n 0, 1) := by decide +kernel
theorem d1_1 : decode prog_50_method_1_code 1 = .ok (.invokespecial 1, 3) := by decide +kernel
theorem d1_4 : decode prog_50_method_1_code 4 = .ok (.aload_n 0, 1) := by decide +kernel
theorem d1_5 : decode prog_50_method_1_code 5 = .ok (.aload_n 1, 1) := by decide +kernel
theorem d1_6 : decode prog_50_method_1_code 6 = .ok (.putfield 7, 3) := by decide +kernel
theorem d1_9 : decode prog_50_method_1_code 9 = .ok (.aload_n 0, 1) := by decide +kernel
theorem d1_10 : decode prog_50_method_1_code 10 = .ok (.aload_n 2, 1) := by decide +kernel
theorem d1_11 : decode prog_50_method_1_code 11 = .ok (.putfield 13, 3) := by decide +kernel
theorem d1_14 : decode prog_50_method_1_code 14 = .ok (.return_, 1) := by decide +kernel
theorem d2_0 : decode jdk_30_method_1_code 0 = .ok (.aload_n 0, 1) := by decide +kernel
theorem d2_1 : decode jdk_30_method_1_code 1 = .ok (.invokespecial 1, 3) := by decide +kernel
theorem d2_4 : decode jdk_30_method_1_code 4 = .ok (.return_, 1) := by decide +kernel
theorem d4_0 : decode prog_50_method_4_code 0 = .ok (.iconst 0, 1) := by decide +kernel
theorem d4_1 : decode prog_50_method_4_code 1 = .ok (.istore_n 2, 1) := by decide +kernel
theorem d4_2 : decode prog_50_method_4_code 2 = .ok (.iload_n 2, 1) := by decide +kernel
theorem d4_3 : decode prog_50_method_4_code 3 = .ok (.aload_n 0, 1) := by decide +kernel
theorem d4_4 : decode prog_50_method_4_code 4 = .ok (.getfield 7, 3) := by decide +kernel
theorem d4_7 : decode prog_50_method_4_code 7 = .ok (.arraylength, 1) := by decide +kernel
theorem d4_8 : decode prog_50_method_4_code 8 = .ok (.if_icmp .ge 26, 3) := by decide +kernel
theorem d4_11 : decode prog_50_method_4_code 11 = .ok (.aload_n 1, 1) := by decide +kernel
theorem d4_12 : decode prog_50_method_4_code 12 = .ok (.aload_n 0, 1) := by decide +kernel
theorem d4_13 : decode prog_50_method_4_code 13 = .ok (.getfield 7, 3) := by decide +kernel
theorem d4_16 : decode prog_50_method_4_code 16 = .ok (.iload_n 2, 1) := by decide +kernel
theorem d4_17 : decode prog_50_method_4_code 17 = .ok (.iaload, 1) := by decide +kernel
theorem d4_18 : decode prog_50_method_4_code 18 = .ok (.dup2, 1) := by decide +kernel
theorem d4_19 : decode prog_50_method_4_code 19 = .ok (.daload, 1) := by decide +kernel
theorem d4_20 : decode prog_50_method_4_code 20 = .ok (.aload_n 0, 1) := by decide +kernel
theorem d4_21 : decode prog_50_method_4_code 21 = .ok (.getfield 13, 3) := by decide +kernel
theorem d4_24 : decode prog_50_method_4_code 24 = .ok (.iload_n 2, 1) := by decide +kernel
theorem d4_25 : decode prog_50_method_4_code 25 = .ok (.daload, 1) := by decide +kernel
theorem d4_26 : decode prog_50_method_4_code 26 = .ok (.dadd, 1) := by decide +kernel
theorem d4_27 : decode prog_50_method_4_code 27 = .ok (.dastore, 1) := by decide +kernel
theorem d4_28 : decode prog_50_method_4_code 28 = .ok (.iinc 2 1, 3) := by decide +kernel
theorem d4_31 : decode prog_50_method_4_code 31 = .ok (.goto (-29), 3) := by decide +kernel
theorem d4_34 : decode prog_50_method_4_code 34 = .ok (.return_, 1) := by decide +kernel
theorem d5_0 : decode method_3_code 0 = .ok (.dconst 0, 1) := by decide +kernel
theorem d5_1 : decode method_3_code 1 = .ok (.dstore 5, 2) := by decide +kernel
theorem d5_3 : decode method_3_code 3 = .ok (.iload_n 1, 1) := by decide +kernel
theorem d5_4 : decode method_3_code 4 = .ok (.ifCond .le 15, 3) := by decide +kernel
theorem d5_7 : decode method_3_code 7 = .ok (.aload_n 2, 1) := by decide +kernel
theorem d5_8 : decode method_3_code 8 = .ok (.iconst 0, 1) := by decide +kernel
theorem d5_9 : decode method_3_code 9 = .ok (.iaload, 1) := by decide +kernel
theorem d5_10 : decode method_3_code 10 = .ok (.iload_n 0, 1) := by decide +kernel
theorem d5_11 : decode method_3_code 11 = .ok (.if_icmp .ne 8, 3) := by decide +kernel
theorem d5_14 : decode method_3_code 14 = .ok (.aload_n 3, 1) := by decide +kernel
theorem d5_15 : decode method_3_code 15 = .ok (.iconst 0, 1) := by decide +kernel
theorem d5_16 : decode method_3_code 16 = .ok (.daload, 1) := by decide +kernel
theorem d5_17 : decode method_3_code 17 = .ok (.dstore 5, 2) := by decide +kernel
theorem d5_19 : decode method_3_code 19 = .ok (.iload_n 1, 1) := by decide +kernel
theorem d5_20 : decode method_3_code 20 = .ok (.iconst 1, 1) := by decide +kernel
theorem d5_21 : decode method_3_code 21 = .ok (.if_icmp .le 15, 3) := by decide +kernel
theorem d5_24 : decode method_3_code 24 = .ok (.aload_n 2, 1) := by decide +kernel
theorem d5_25 : decode method_3_code 25 = .ok (.iconst 1, 1) := by decide +kernel
theorem d5_26 : decode method_3_code 26 = .ok (.iaload, 1) := by decide +kernel
theorem d5_27 : decode method_3_code 27 = .ok (.iload_n 0, 1) := by decide +kernel
theorem d5_28 : decode method_3_code 28 = .ok (.if_icmp .ne 8, 3) := by decide +kernel
theorem d5_31 : decode method_3_code 31 = .ok (.aload_n 3, 1) := by decide +kernel
theorem d5_32 : decode method_3_code 32 = .ok (.iconst 1, 1) := by decide +kernel
theorem d5_33 : decode method_3_code 33 = .ok (.daload, 1) := by decide +kernel
theorem d5_34 : decode method_3_code 34 = .ok (.dstore 5, 2) := by decide +kernel
theorem d5_36 : decode method_3_code 36 = .ok (.iload_n 1, 1) := by decide +kernel
theorem d5_37 : decode method_3_code 37 = .ok (.iconst 2, 1) := by decide +kernel
theorem d5_38 : decode method_3_code 38 = .ok (.if_icmp .le 15, 3) := by decide +kernel
theorem d5_41 : decode method_3_code 41 = .ok (.aload_n 2, 1) := by decide +kernel
theorem d5_42 : decode method_3_code 42 = .ok (.iconst 2, 1) := by decide +kernel
theorem d5_43 : decode method_3_code 43 = .ok (.iaload, 1) := by decide +kernel
theorem d5_44 : decode method_3_code 44 = .ok (.iload_n 0, 1) := by decide +kernel
theorem d5_45 : decode method_3_code 45 = .ok (.if_icmp .ne 8, 3) := by decide +kernel
theorem d5_48 : decode method_3_code 48 = .ok (.aload_n 3, 1) := by decide +kernel
theorem d5_49 : decode method_3_code 49 = .ok (.iconst 2, 1) := by decide +kernel
theorem d5_50 : decode method_3_code 50 = .ok (.daload, 1) := by decide +kernel
theorem d5_51 : decode method_3_code 51 = .ok (.dstore 5, 2) := by decide +kernel
theorem d5_53 : decode method_3_code 53 = .ok (.iload_n 1, 1) := by decide +kernel
theorem d5_54 : decode method_3_code 54 = .ok (.iconst 3, 1) := by decide +kernel
theorem d5_55 : decode method_3_code 55 = .ok (.if_icmp .le 15, 3) := by decide +kernel
theorem d5_58 : decode method_3_code 58 = .ok (.aload_n 2, 1) := by decide +kernel
theorem d5_59 : decode method_3_code 59 = .ok (.iconst 3, 1) := by decide +kernel
theorem d5_60 : decode method_3_code 60 = .ok (.iaload, 1) := by decide +kernel
theorem d5_61 : decode method_3_code 61 = .ok (.iload_n 0, 1) := by decide +kernel
theorem d5_62 : decode method_3_code 62 = .ok (.if_icmp .ne 8, 3) := by decide +kernel
theorem d5_65 : decode method_3_code 65 = .ok (.aload_n 3, 1) := by decide +kernel
theorem d5_66 : decode method_3_code 66 = .ok (.iconst 3, 1) := by decide +kernel
theorem d5_67 : decode method_3_code 67 = .ok (.daload, 1) := by decide +kernel
theorem d5_68 : decode method_3_code 68 = .ok (.dstore 5, 2) := by decide +kernel
theorem d5_70 : decode method_3_code 70 = .ok (.aload 4, 2) := by decide +kernel
theorem d5_72 : decode method_3_code 72 = .ok (.iload_n 0, 1) := by decide +kernel
theorem d5_73 : decode method_3_code 73 = .ok (.daload, 1) := by decide +kernel
theorem d5_74 : decode method_3_code 74 = .ok (.dload 5, 2) := by decide +kernel
theorem d5_76 : decode method_3_code 76 = .ok (.dadd, 1) := by decide +kernel
theorem d5_77 : decode method_3_code 77 = .ok (.dreturn, 1) := by decide +kernel
theorem pn0 : plainName x.cls = true := by first | (simp [x, plainName, overriddenIn]; done) | decide +kernel
theorem pnV : plainName "com/example/kenning/kenning/retrieval/KMeans$Vector" = true := by first | (simp [plainName, overriddenIn]; done) | decide +kernel
theorem pnE : plainName "com/example/kenning/kenning/retrieval/VectorAddToPinLaw" = true := by first | (simp [plainName, overriddenIn]; done) | decide +kernel
theorem pnR : plainName "java/lang/Record" = true := by first | (simp [plainName, overriddenIn]; done) | decide +kernel
theorem pdI : parseMethodDescriptor "([I[D)V" = some ⟨[.array .int, .array .double], none⟩ := by decide +kernel
theorem pdR : parseMethodDescriptor "()V" = some ⟨[], none⟩ := by decide +kernel
theorem pdD : parseMethodDescriptor "([D)V" = some ⟨[.array .double], none⟩ := by decide +kernel
theorem pdE : parseMethodDescriptor "(II[I[D[D)D" = some ⟨[.int, .int, .array .int, .array .double, .array .double], some .double⟩ := by decide +kernel
theorem efR (m : MethodId) (a : Addr) : entryFrame m #[(.ref a)] 1 = mkF m 0 #[.val (.ref a)] [] := by first | (simp [entryFrame, mkF, argsToLocals, Value.category, maxLocals]; done) | rfl
theorem efI (m : MethodId) (a b d : Addr) : entryFrame m #[(.ref a), (.ref b), (.ref d)] 3 = mkF m 0 #[.val (.ref a), .val (.ref b), .val (.ref d)] [] := by first | (simp [entryFrame, mkF, argsToLocals, Value.category, maxLocals]; done) | rfl
theorem efD (m : MethodId) (a b : Addr) : entryFrame m #[(.ref a), (.ref b)] 3 = mkF m 0 #[.val (.ref a), .val (.ref b), .unset] [] := by first | (simp [entryFrame, mkF, argsToLocals, Value.category, maxLocals]; done) | rfl
theorem efE (m : MethodId) (i j : Int32) (a b d : Addr) : entryFrame m #[(.int i), (.int j), (.ref a), (.ref b), (.ref d)] 7 = mkF m 0 #[.val (.int i), .val (.int j), .val (.ref a), .val (.ref b), .val (.ref d), .unset, .unset] [] := by first | (simp [entryFrame, mkF, argsToLocals, Value.category, maxLocals]; done) | rfl
theorem ef0 (m : MethodId) (x0 : Int32) (x1 x2 x3 x4 : Int64) : entryFrame m #[(.int x0), (.long x1), (.long x2), (.long x3), (.long x4)] maxLocals = mkF m 0 #[.val (.int x0), .val (.long x1), .second, .val (.long x2), .second, .val (.long x3), .second, .val (.long x4), .second, .unset, .unset, .unset, .unset, .unset, .unset, .unset, .unset, .unset, .unset, .unset, .unset, .unset, .unset, .unset, .unset] [] := by first | (simp [entryFrame, mkF, argsToLocals, Value.category, maxLocals]; done) | rfl
set_option maxRecDepth 65536 in
set_option maxHeartbeats 40000000 in
theorem c_rec (l : Launch) (Z : State) (a0 : Array Value) (hw : ∀ d ∈ tables_1, d.before a0 Z = true) (h : Heap) (a : Addr) :
    Con l Z (⟨"java/lang/Record", "<init>", "()V"⟩ : MethodName) jdk_30_method_1_code 1 none ⟨1, 0, 0, 12⟩ #[.ref a] h (fun v h' L => v = none ∧ L = [] ∧ h' = h) := by
  refine con_of_go pnR (fun m => efR m a) ?_
  intro p e s m below meth c T0 C X0 e0
  refine g_aloadN C X0 (pc' := 1) d2_0 rfl rfl rfl ?_
  refine g_initO C X0 (hw _ (List.mem_of_getElem? (i := 13) rfl)) (hw _ (List.mem_of_getElem? (i := 14) rfl)) (hw _ (List.mem_of_getElem? (i := 15) rfl)) e0 d2_1 rfl 0 rfl (by decide) (by decide) rfl ?_
  intro T1 X1 e1
  exact g_return C X1 d2_4 ⟨rfl, rfl, e1⟩ (by decide) (by decide)
set_option maxRecDepth 65536 in
set_option maxHeartbeats 40000000 in
theorem c_init (l : Launch) (Z : State) (a0 : Array Value) (hw : ∀ d ∈ tables_1, d.before a0 Z = true) (h : Heap) (n0 : Nat) (Z0 : n0 ≤ h.size) (a : Addr) (z_a : n0 ≤ a) (b d : Addr) (A : Exa Z h a "com/example/kenning/kenning/retrieval/KMeans$Vector") (F_terms : ∃ w, Fld Z h a "com/example/kenning/kenning/retrieval/KMeans$Vector" "terms" "[I" w) (F_weights : ∃ w, Fld Z h a "com/example/kenning/kenning/retrieval/KMeans$Vector" "weights" "[D" w) :
    Con l Z (⟨"com/example/kenning/kenning/retrieval/KMeans$Vector", "<init>", "([I[D)V"⟩ : MethodName) prog_50_method_1_code 3 none ⟨2, 0, 0, 24⟩ #[.ref a, .ref b, .ref d] h (fun v h' L => v = none ∧ Fr n0 L ∧ Keep h h' [a] ∧ Exa Z h' a "com/example/kenning/kenning/retrieval/KMeans$Vector" ∧ Fld Z h' a "com/example/kenning/kenning/retrieval/KMeans$Vector" "terms" "[I" (.ref b) ∧ Fld Z h' a "com/example/kenning/kenning/retrieval/KMeans$Vector" "weights" "[D" (.ref d)) := by
  refine con_of_go pnV (fun m => efI m a b d) ?_
  intro p e s m below meth c T0 C X0 e0
  refine g_aloadN C X0 (pc' := 1) d1_0 rfl rfl rfl ?_
  refine g_callI C X0 (c_rec l Z a0 hw h a) rfl (hw _ (List.mem_of_getElem? (i := 8) rfl)) (hw _ (List.mem_of_getElem? (i := 9) rfl)) (hw _ (List.mem_of_getElem? (i := 11) rfl)) (hw _ (List.mem_of_getElem? (i := 12) rfl)) (by decide) e0 d1_1 rfl pdR a [] [] rfl rfl rfl 0 rfl (by decide) (by decide) (by decide) (by decide) rfl ?_
  rintro _ T1 _ X1 ⟨rfl, rfl, e1⟩
  rw [List.append_nil] at X1
  show Go p.tables e below _ T1 (mkF m 4 #[.val (.ref a), .val (.ref b), .val (.ref d)] [])
  refine g_aloadN C X1 (pc' := 5) d1_4 rfl rfl rfl ?_
  refine g_aloadN C X1 (pc' := 6) d1_5 rfl rfl rfl ?_
  refine g_putF C X1 (host := "") (Or.inl (hw _ (List.mem_of_getElem? (i := 16) rfl))) Via.refl e1 F_terms.choose_spec A (Or.inr ⟨(hw _ (List.mem_of_getElem? (i := 17) rfl)), rfl, rfl⟩) (hw _ (List.mem_of_getElem? (i := 3) rfl)) (ty := (.array .int)) (by decide) rfl rfl d1_6 rfl ?_
  intro T2 h2 X2 e2 W2
  have F_termsv := F_terms.choose_spec.same W2
  have A := A.wr W2
  have F_weights := FldE.wr W2 F_weights
  have Z2 : n0 ≤ h2.size := by rw [W2.size]; exact Z0
  have N2 := Fr.snoc X2 (Fr.nil n0) z_a
  have P2 := (Keep.refl h [a]).wr W2 (Or.inl (List.mem_of_getElem? (i := 0) rfl))
  refine g_aloadN C X2 (pc' := 10) d1_9 rfl rfl rfl ?_
  refine g_aloadN C X2 (pc' := 11) d1_10 rfl rfl rfl ?_
  refine g_putF C X2 (host := "") (Or.inl (hw _ (List.mem_of_getElem? (i := 18) rfl))) Via.refl e2 F_weights.choose_spec A (Or.inr ⟨(hw _ (List.mem_of_getElem? (i := 19) rfl)), rfl, rfl⟩) (hw _ (List.mem_of_getElem? (i := 3) rfl)) (ty := (.array .double)) (by decide) rfl rfl d1_11 rfl ?_
  intro T3 h3 X3 e3 W3
  have F_weightsv := F_weights.choose_spec.same W3
  have A := A.wr W3
  have F_termsv := F_termsv.other W3 (Or.inr (slot_ne (Or.inr (hw _ (List.mem_of_getElem? (i := 17) rfl))) (Or.inr (hw _ (List.mem_of_getElem? (i := 19) rfl))) (by decide) rfl rfl))
  have Z3 : n0 ≤ h3.size := by rw [W3.size]; exact Z2
  have N3 := Fr.snoc X3 N2 z_a
  have P3 := P2.wr W3 (Or.inl (List.mem_of_getElem? (i := 0) rfl))
  exact g_return C X3 d1_14 ⟨rfl, N3, by rw [e3]; exact P3, by rw [e3]; exact A, by rw [e3]; exact F_termsv, by rw [e3]; exact F_weightsv⟩ (by decide) (by decide)
def own_p (n : Nat) (t0 t1 t2 t3 : Int32) (i0 i1 i2 i3 j A : Int) : Prop := (0 < n → t0.toInt = j → A = i0) ∧ (1 < n → t1.toInt = j → A = i1) ∧ (2 < n → t2.toInt = j → A = i2) ∧ (3 < n → t3.toInt = j → A = i3) ∧ ((0 < n → ¬ t0.toInt = j) → (1 < n → ¬ t1.toInt = j) → (2 < n → ¬ t2.toInt = j) → (3 < n → ¬ t3.toInt = j) → A = 0)
def own_four (t0 t1 t2 t3 : Int32) : Prop := (0 ≤ t0.toInt ∧ t0.toInt < 4) ∧ (0 ≤ t1.toInt ∧ t1.toInt < 4) ∧ (0 ≤ t2.toInt ∧ t2.toInt < 4) ∧ (0 ≤ t3.toInt ∧ t3.toInt < 4) ∧ ¬ t0.toInt = t1.toInt ∧ ¬ t0.toInt = t2.toInt ∧ ¬ t0.toInt = t3.toInt ∧ ¬ t1.toInt = t2.toInt ∧ ¬ t1.toInt = t3.toInt ∧ ¬ t2.toInt = t3.toInt
theorem own_one {x : Int32} (h : 0 ≤ x.toInt ∧ x.toInt < 4) : x = 0 ∨ x = 1 ∨ x = 2 ∨ x = 3 := by
  have e0 : (0 : Int32).toInt = 0 := by decide
  have e1 : (1 : Int32).toInt = 1 := by decide
  have e2 : (2 : Int32).toInt = 2 := by decide
  have e3 : (3 : Int32).toInt = 3 := by decide
  simp only [← Int32.toInt_inj]
  omega
theorem own_c0 : (0 : Int32).toInt = 0 := by decide
theorem own_c1 : (1 : Int32).toInt = 1 := by decide
theorem own_c2 : (2 : Int32).toInt = 2 := by decide
theorem own_c3 : (3 : Int32).toInt = 3 := by decide
theorem own_uniq {n : Nat} {t0 t1 t2 t3 : Int32} {i0 i1 i2 i3 j A B : Int} (h : own_p n t0 t1 t2 t3 i0 i1 i2 i3 j A) (h' : own_p n t0 t1 t2 t3 i0 i1 i2 i3 j B) : A = B := by
  obtain ⟨a0, a1, a2, a3, a4⟩ := h
  obtain ⟨b0, b1, b2, b3, b4⟩ := h'
  by_cases c0 : 0 < n ∧ t0.toInt = j
  · rw [a0 c0.1 c0.2, b0 c0.1 c0.2]
  · by_cases c1 : 1 < n ∧ t1.toInt = j
    · rw [a1 c1.1 c1.2, b1 c1.1 c1.2]
    · by_cases c2 : 2 < n ∧ t2.toInt = j
      · rw [a2 c2.1 c2.2, b2 c2.1 c2.2]
      · by_cases c3 : 3 < n ∧ t3.toInt = j
        · rw [a3 c3.1 c3.2, b3 c3.1 c3.2]
        · rw [a4 (fun x y => c0 ⟨x, y⟩) (fun x y => c1 ⟨x, y⟩) (fun x y => c2 ⟨x, y⟩) (fun x y => c3 ⟨x, y⟩), b4 (fun x y => c0 ⟨x, y⟩) (fun x y => c1 ⟨x, y⟩) (fun x y => c2 ⟨x, y⟩) (fun x y => c3 ⟨x, y⟩)]
set_option maxRecDepth 65536 in
set_option maxHeartbeats 40000000 in
theorem c_add0 (l : Launch) (Z : State) (a0 : Array Value) (hw : ∀ d ∈ tables_1, d.before a0 Z = true) (h : Heap) (n0 : Nat) (Z0 : n0 ≤ h.size) (a b ta aw : Addr) (z_b : n0 ≤ b) (n_a : a ≠ b) (n_ta : ta ≠ b) (n_aw : aw ≠ b) (kt kw kd : ClassId) (t0 t1 t2 t3 : Int32) (i0 i1 i2 i3 : Int) (hT : own_four t0 t1 t2 t3) (d0 : UInt64) (k0 : Int) (D0 : FP.Core.DInt k0 d0) (S0 : -2147483648 ≤ k0 ∧ k0 < 2147483648) (d1 : UInt64) (k1 : Int) (D1 : FP.Core.DInt k1 d1) (S1 : -2147483648 ≤ k1 ∧ k1 < 2147483648) (d2 : UInt64) (k2 : Int) (D2 : FP.Core.DInt k2 d2) (S2 : -2147483648 ≤ k2 ∧ k2 < 2147483648) (d3 : UInt64) (k3 : Int) (D3 : FP.Core.DInt k3 d3) (S3 : -2147483648 ≤ k3 ∧ k3 < 2147483648) (F1 : Fld Z h a "com/example/kenning/kenning/retrieval/KMeans$Vector" "terms" "[I" (.ref ta)) (F2 : Fld Z h a "com/example/kenning/kenning/retrieval/KMeans$Vector" "weights" "[D" (.ref aw)) (At : Arv Z h ta kt .int (0 : Int32) [] (.int (0 : Int32))) (Aw : Arv Z h aw kw .double (0 : Int32) [] (.double (0 : UInt64))) (Ad : Arv Z h b kd .double (4 : Int32) [.double d0, .double d1, .double d2, .double d3] (.double (0 : UInt64))) :
    Con l Z (⟨"com/example/kenning/kenning/retrieval/KMeans$Vector", "addTo", "([D)V"⟩ : MethodName) prog_50_method_4_code 3 none ⟨0, 0, 0, 0⟩ #[.ref a, .ref b] h (fun v h' L => v = none ∧ Fr n0 L ∧ Keep h h' [b] ∧ ∃ (z0 z1 z2 z3 : UInt64) (b0 b1 b2 b3 : Int), FP.Core.DInt (k0 + b0) z0 ∧ FP.Core.DInt (k1 + b1) z1 ∧ FP.Core.DInt (k2 + b2) z2 ∧ FP.Core.DInt (k3 + b3) z3 ∧ own_p 0 t0 t1 t2 t3 i0 i1 i2 i3 0 b0 ∧ own_p 0 t0 t1 t2 t3 i0 i1 i2 i3 1 b1 ∧ own_p 0 t0 t1 t2 t3 i0 i1 i2 i3 2 b2 ∧ own_p 0 t0 t1 t2 t3 i0 i1 i2 i3 3 b3 ∧ Arv Z h' b kd .double (4 : Int32) [.double z0, .double z1, .double z2, .double z3] (.double (0 : UInt64))) := by
  refine con_of_go pnV (fun m => efD m a b) ?_
  intro p e s m below meth c T0 C X0 e0
  refine g_iconst C X0 (pc' := 1) d4_0 (v := (0 : Int32)) (by decide) rfl ?_
  refine g_istoreN C X0 (pc' := 2) d4_1 (x := (0 : Int32)) rfl (l' := #[.val (.ref a), .val (.ref b), .val (.int (0 : Int32))]) rfl rfl ?_
  refine g_iloadN C X0 (pc' := 3) d4_2 rfl rfl ?_
  refine g_aloadN C X0 (pc' := 4) d4_3 rfl rfl rfl ?_
  refine g_getF C X0 (host := "") (Or.inl (hw _ (List.mem_of_getElem? (i := 16) rfl))) Via.refl e0 F1 d4_4 rfl ?_
  intro T1 X1 e1
  refine g_len C X1 (pc' := 8) e1 At d4_7 rfl ?_
  refine g_icmpY C X1 d4_8 (pc' := 34) (by decide) (by decide) (by decide) ?_
  have q0 := own_c0
  have q1 := own_c1
  have q2 := own_c2
  have q3 := own_c3
  have P0 : own_p 0 t0 t1 t2 t3 i0 i1 i2 i3 0 0 := by unfold own_p; refine ⟨fun _ _ => ?_, fun _ _ => ?_, fun _ _ => ?_, fun _ _ => ?_, fun _ _ _ _ => ?_⟩ <;> omega
  have P1 : own_p 0 t0 t1 t2 t3 i0 i1 i2 i3 1 0 := by unfold own_p; refine ⟨fun _ _ => ?_, fun _ _ => ?_, fun _ _ => ?_, fun _ _ => ?_, fun _ _ _ _ => ?_⟩ <;> omega
  have P2 : own_p 0 t0 t1 t2 t3 i0 i1 i2 i3 2 0 := by unfold own_p; refine ⟨fun _ _ => ?_, fun _ _ => ?_, fun _ _ => ?_, fun _ _ => ?_, fun _ _ _ _ => ?_⟩ <;> omega
  have P3 : own_p 0 t0 t1 t2 t3 i0 i1 i2 i3 3 0 := by unfold own_p; refine ⟨fun _ _ => ?_, fun _ _ => ?_, fun _ _ => ?_, fun _ _ => ?_, fun _ _ _ _ => ?_⟩ <;> omega
  exact g_return C X1 d4_34 ⟨rfl, (Fr.nil n0), by rw [e1]; exact (Keep.refl h [b]), d0, d1, d2, d3, 0, 0, 0, 0, (by rw [Int.add_zero]; exact D0), (by rw [Int.add_zero]; exact D1), (by rw [Int.add_zero]; exact D2), (by rw [Int.add_zero]; exact D3), P0, P1, P2, P3, by rw [e1]; exact Ad⟩ (by decide) (by decide)
set_option maxRecDepth 65536 in
set_option maxHeartbeats 40000000 in
theorem c_exp0 (l : Launch) (Z : State) (a0 : Array Value) (hw : ∀ d ∈ tables_1, d.before a0 Z = true) (h : Heap) (ta aw b : Addr) (kt kw kd : ClassId) (t0 t1 t2 t3 : Int32) (i0 i1 i2 i3 : Int) (hT : own_four t0 t1 t2 t3) (w0 : UInt64) (W0 : FP.Core.DInt i0 w0) (R0 : -2147483648 ≤ i0 ∧ i0 < 2147483648) (w1 : UInt64) (W1 : FP.Core.DInt i1 w1) (R1 : -2147483648 ≤ i1 ∧ i1 < 2147483648) (w2 : UInt64) (W2 : FP.Core.DInt i2 w2) (R2 : -2147483648 ≤ i2 ∧ i2 < 2147483648) (w3 : UInt64) (W3 : FP.Core.DInt i3 w3) (R3 : -2147483648 ≤ i3 ∧ i3 < 2147483648) (d0 d1 d2 d3 : UInt64) (j : Int32) (hj : 0 ≤ j.toInt ∧ j.toInt < 4) (y : UInt64) (k : Int) (Dy : FP.Core.DInt k y) (S : -2147483648 ≤ k ∧ k < 2147483648) (hg : [Value.double d0, .double d1, .double d2, .double d3].getD j.toNatClampNeg (Value.double (0 : UInt64)) = Value.double y) (At : Arv Z h ta kt .int (4 : Int32) [.int t0, .int t1, .int t2, .int t3] (.int (0 : Int32))) (Aw : Arv Z h aw kw .double (4 : Int32) [.double w0, .double w1, .double w2, .double w3] (.double (0 : UInt64))) (Ad : Arv Z h b kd .double (4 : Int32) [.double d0, .double d1, .double d2, .double d3] (.double (0 : UInt64))) :
    Con l Z (⟨"com/example/kenning/kenning/retrieval/VectorAddToPinLaw", "expected", "(II[I[D[D)D"⟩ : MethodName) method_3_code 7 (some .double) ⟨0, 0, 0, 0⟩ #[.int j, .int (0 : Int32), .ref ta, .ref aw, .ref b] h (fun v h' L => ∃ r A, v = some (.double r) ∧ FP.Core.DInt (k + A) r ∧ own_p 0 t0 t1 t2 t3 i0 i1 i2 i3 j.toInt A ∧ L = [] ∧ h' = h) := by
  refine con_of_go pnE (fun m => efE m j _ ta aw b) ?_
  intro p e s m below meth c T0 C X0 e0
  refine g_dconst0 C X0 (pc' := 1) d5_0 rfl rfl ?_
  refine g_dstore C X0 (pc' := 3) d5_1 (x := FP.dconst0) rfl (l' := #[.val (.int j), .val (.int (0 : Int32)), .val (.ref ta), .val (.ref aw), .val (.ref b), .val (.double FP.dconst0), .second]) rfl rfl ?_
  refine g_iloadN C X0 (pc' := 4) d5_3 rfl rfl ?_
  refine g_ifY C X0 d5_4 (pc' := 19) (by decide) (by decide) (by decide) ?_
  refine g_iloadN C X0 (pc' := 20) d5_19 rfl rfl ?_
  refine g_iconst C X0 (pc' := 21) d5_20 (v := (1 : Int32)) (by decide) rfl ?_
  refine g_icmpY C X0 d5_21 (pc' := 36) (by decide) (by decide) (by decide) ?_
  refine g_iloadN C X0 (pc' := 37) d5_36 rfl rfl ?_
  refine g_iconst C X0 (pc' := 38) d5_37 (v := (2 : Int32)) (by decide) rfl ?_
  refine g_icmpY C X0 d5_38 (pc' := 53) (by decide) (by decide) (by decide) ?_
  refine g_iloadN C X0 (pc' := 54) d5_53 rfl rfl ?_
  refine g_iconst C X0 (pc' := 55) d5_54 (v := (3 : Int32)) (by decide) rfl ?_
  refine g_icmpY C X0 d5_55 (pc' := 70) (by decide) (by decide) (by decide) ?_
  refine g_aload C X0 (pc' := 72) d5_70 rfl rfl rfl ?_
  refine g_iloadN C X0 (pc' := 73) d5_72 rfl rfl ?_
  refine g_daload C X0 (pc' := 74) e0 Ad hj.1 hj.2 j.toNatClampNeg rfl hg d5_73 rfl ?_
  refine g_dload C X0 (pc' := 76) d5_74 rfl rfl ?_
  have D101 : FP.Core.DInt (k + 0) (FP.dadd y FP.dconst0) := dadd_D Dy dint_zero (by show _ ≤ 9007199254740992; omega)
  refine g_dadd C X0 (pc' := 77) d5_76 (nn_of_int D101) rfl ?_
  have P : own_p 0 t0 t1 t2 t3 i0 i1 i2 i3 j.toInt 0 := by unfold own_p; unfold own_four at hT; refine ⟨fun _ _ => ?_, fun _ _ => ?_, fun _ _ => ?_, fun _ _ => ?_, fun _ _ _ _ => ?_⟩ <;> omega
  exact g_dreturn C X0 d5_77 ⟨_, 0, rfl, D101, P, rfl, e0⟩ (by decide) (by decide)
set_option maxRecDepth 65536 in
set_option maxHeartbeats 40000000 in
theorem c_add1 (l : Launch) (Z : State) (a0 : Array Value) (hw : ∀ d ∈ tables_1, d.before a0 Z = true) (h : Heap) (n0 : Nat) (Z0 : n0 ≤ h.size) (a b ta aw : Addr) (z_b : n0 ≤ b) (n_a : a ≠ b) (n_ta : ta ≠ b) (n_aw : aw ≠ b) (kt kw kd : ClassId) (t0 t1 t2 t3 : Int32) (i0 i1 i2 i3 : Int) (hT : own_four t0 t1 t2 t3) (w0 : UInt64) (W0 : FP.Core.DInt i0 w0) (R0 : -2147483648 ≤ i0 ∧ i0 < 2147483648) (d0 : UInt64) (k0 : Int) (D0 : FP.Core.DInt k0 d0) (S0 : -2147483648 ≤ k0 ∧ k0 < 2147483648) (d1 : UInt64) (k1 : Int) (D1 : FP.Core.DInt k1 d1) (S1 : -2147483648 ≤ k1 ∧ k1 < 2147483648) (d2 : UInt64) (k2 : Int) (D2 : FP.Core.DInt k2 d2) (S2 : -2147483648 ≤ k2 ∧ k2 < 2147483648) (d3 : UInt64) (k3 : Int) (D3 : FP.Core.DInt k3 d3) (S3 : -2147483648 ≤ k3 ∧ k3 < 2147483648) (F1 : Fld Z h a "com/example/kenning/kenning/retrieval/KMeans$Vector" "terms" "[I" (.ref ta)) (F2 : Fld Z h a "com/example/kenning/kenning/retrieval/KMeans$Vector" "weights" "[D" (.ref aw)) (At : Arv Z h ta kt .int (1 : Int32) [.int t0] (.int (0 : Int32))) (Aw : Arv Z h aw kw .double (1 : Int32) [.double w0] (.double (0 : UInt64))) (Ad : Arv Z h b kd .double (4 : Int32) [.double d0, .double d1, .double d2, .double d3] (.double (0 : UInt64))) :
    Con l Z (⟨"com/example/kenning/kenning/retrieval/KMeans$Vector", "addTo", "([D)V"⟩ : MethodName) prog_50_method_4_code 3 none ⟨0, 0, 0, 0⟩ #[.ref a, .ref b] h (fun v h' L => v = none ∧ Fr n0 L ∧ Keep h h' [b] ∧ ∃ (z0 z1 z2 z3 : UInt64) (b0 b1 b2 b3 : Int), FP.Core.DInt (k0 + b0) z0 ∧ FP.Core.DInt (k1 + b1) z1 ∧ FP.Core.DInt (k2 + b2) z2 ∧ FP.Core.DInt (k3 + b3) z3 ∧ own_p 1 t0 t1 t2 t3 i0 i1 i2 i3 0 b0 ∧ own_p 1 t0 t1 t2 t3 i0 i1 i2 i3 1 b1 ∧ own_p 1 t0 t1 t2 t3 i0 i1 i2 i3 2 b2 ∧ own_p 1 t0 t1 t2 t3 i0 i1 i2 i3 3 b3 ∧ Arv Z h' b kd .double (4 : Int32) [.double z0, .double z1, .double z2, .double z3] (.double (0 : UInt64))) := by
  refine con_of_go pnV (fun m => efD m a b) ?_
  intro p e s m below meth c T0 C X0 e0
  refine g_iconst C X0 (pc' := 1) d4_0 (v := (0 : Int32)) (by decide) rfl ?_
  refine g_istoreN C X0 (pc' := 2) d4_1 (x := (0 : Int32)) rfl (l' := #[.val (.ref a), .val (.ref b), .val (.int (0 : Int32))]) rfl rfl ?_
  refine g_iloadN C X0 (pc' := 3) d4_2 rfl rfl ?_
  refine g_aloadN C X0 (pc' := 4) d4_3 rfl rfl rfl ?_
  refine g_getF C X0 (host := "") (Or.inl (hw _ (List.mem_of_getElem? (i := 16) rfl))) Via.refl e0 F1 d4_4 rfl ?_
  intro T1 X1 e1
  refine g_len C X1 (pc' := 8) e1 At d4_7 rfl ?_
  refine g_icmpN C X1 d4_8 (by decide) rfl ?_
  refine g_aloadN C X1 (pc' := 12) d4_11 rfl rfl rfl ?_
  refine g_aloadN C X1 (pc' := 13) d4_12 rfl rfl rfl ?_
  refine g_getF C X1 (host := "") (Or.inl (hw _ (List.mem_of_getElem? (i := 16) rfl))) Via.refl e1 F1 d4_13 rfl ?_
  intro T2 X2 e2
  refine g_iloadN C X2 (pc' := 17) d4_16 rfl rfl ?_
  refine g_iaload C X2 (pc' := 18) e2 At (by decide) (by decide) 0 (by decide) rfl d4_17 rfl ?_
  rcases own_one hT.1 with rfl | rfl | rfl | rfl
  · show Go p.tables e below _ T2 (mkF m 18 #[.val (.ref a), .val (.ref b), .val (.int (0 : Int32))] [(.int (0 : Int32)), (.ref b)])
    refine g_dup2 C X2 (pc' := 19) d4_18 rfl rfl rfl ?_
    refine g_daload C X2 (pc' := 20) e2 Ad (by decide) (by decide) 0 (by decide) rfl d4_19 rfl ?_
    refine g_aloadN C X2 (pc' := 21) d4_20 rfl rfl rfl ?_
    refine g_getF C X2 (host := "") (Or.inl (hw _ (List.mem_of_getElem? (i := 18) rfl))) Via.refl e2 F2 d4_21 rfl ?_
    intro T3 X3 e3
    refine g_iloadN C X3 (pc' := 25) d4_24 rfl rfl ?_
    refine g_daload C X3 (pc' := 26) e3 Aw (by decide) (by decide) 0 (by decide) rfl d4_25 rfl ?_
    have D101 : FP.Core.DInt (k0 + i0) (FP.dadd d0 w0) := dadd_D D0 W0 (by show _ ≤ 9007199254740992; omega)
    refine g_dadd C X3 (pc' := 27) d4_26 (nn_of_int D101) rfl ?_
    refine g_dastore C X3 (pc' := 28) e3 Ad (by decide) (by decide) 0 0 (by decide) (of_decide_eq_true rfl) d4_27 rfl ?_
    intro T4 h4 X4 e4 W4 Aq
    have F1 := F1.other W4 (Or.inl n_a)
    have F2 := F2.other W4 (Or.inl n_a)
    have At := At.other W4 n_ta
    have Aw := Aw.other W4 n_aw
    have Z4 : n0 ≤ h4.size := by rw [W4.size]; exact Z0
    have N4 := Fr.snoc X4 (Fr.nil n0) z_b
    have P4 := (Keep.refl h [b]).wr W4 (Or.inl (List.mem_of_getElem? (i := 0) rfl))
    have Ad : Arv Z h4 b kd .double (4 : Int32) [(.double (FP.dadd d0 w0)), (.double d1), (.double d2), (.double d3)] (.double (0 : UInt64)) := Aq
    refine g_iinc C X4 (pc' := 31) d4_28 rfl (z := (1 : Int32)) (by decide) (l' := #[.val (.ref a), .val (.ref b), .val (.int (1 : Int32))]) rfl rfl ?_
    refine g_goto C X4 d4_31 (pc' := 2) (by decide) (by decide) ?_
    refine g_iloadN C X4 (pc' := 3) d4_2 rfl rfl ?_
    refine g_aloadN C X4 (pc' := 4) d4_3 rfl rfl rfl ?_
    refine g_getF C X4 (host := "") (Or.inl (hw _ (List.mem_of_getElem? (i := 16) rfl))) Via.refl e4 F1 d4_4 rfl ?_
    intro T5 X5 e5
    refine g_len C X5 (pc' := 8) e5 At d4_7 rfl ?_
    refine g_icmpY C X5 d4_8 (pc' := 34) (by decide) (by decide) (by decide) ?_
    have q0 := own_c0
    have q1 := own_c1
    have q2 := own_c2
    have q3 := own_c3
    have P0 : own_p 1 (0 : Int32) t1 t2 t3 i0 i1 i2 i3 0 i0 := by unfold own_p; refine ⟨fun _ _ => ?_, fun _ _ => ?_, fun _ _ => ?_, fun _ _ => ?_, fun _ _ _ _ => ?_⟩ <;> omega
    have P1 : own_p 1 (0 : Int32) t1 t2 t3 i0 i1 i2 i3 1 0 := by unfold own_p; refine ⟨fun _ _ => ?_, fun _ _ => ?_, fun _ _ => ?_, fun _ _ => ?_, fun _ _ _ _ => ?_⟩ <;> omega
    have P2 : own_p 1 (0 : Int32) t1 t2 t3 i0 i1 i2 i3 2 0 := by unfold own_p; refine ⟨fun _ _ => ?_, fun _ _ => ?_, fun _ _ => ?_, fun _ _ => ?_, fun _ _ _ _ => ?_⟩ <;> omega
    have P3 : own_p 1 (0 : Int32) t1 t2 t3 i0 i1 i2 i3 3 0 := by unfold own_p; refine ⟨fun _ _ => ?_, fun _ _ => ?_, fun _ _ => ?_, fun _ _ => ?_, fun _ _ _ _ => ?_⟩ <;> omega
    exact g_return C X5 d4_34 ⟨rfl, N4, by rw [e5]; exact P4, FP.dadd d0 w0, d1, d2, d3, i0, 0, 0, 0, D101, (by rw [Int.add_zero]; exact D1), (by rw [Int.add_zero]; exact D2), (by rw [Int.add_zero]; exact D3), P0, P1, P2, P3, by rw [e5]; exact Ad⟩ (by decide) (by decide)
  · show Go p.tables e below _ T2 (mkF m 18 #[.val (.ref a), .val (.ref b), .val (.int (0 : Int32))] [(.int (1 : Int32)), (.ref b)])
    refine g_dup2 C X2 (pc' := 19) d4_18 rfl rfl rfl ?_
    refine g_daload C X2 (pc' := 20) e2 Ad (by decide) (by decide) 1 (by decide) rfl d4_19 rfl ?_
    refine g_aloadN C X2 (pc' := 21) d4_20 rfl rfl rfl ?_
    refine g_getF C X2 (host := "") (Or.inl (hw _ (List.mem_of_getElem? (i := 18) rfl))) Via.refl e2 F2 d4_21 rfl ?_
    intro T6 X6 e6
    refine g_iloadN C X6 (pc' := 25) d4_24 rfl rfl ?_
    refine g_daload C X6 (pc' := 26) e6 Aw (by decide) (by decide) 0 (by decide) rfl d4_25 rfl ?_
    have D102 : FP.Core.DInt (k1 + i0) (FP.dadd d1 w0) := dadd_D D1 W0 (by show _ ≤ 9007199254740992; omega)
    refine g_dadd C X6 (pc' := 27) d4_26 (nn_of_int D102) rfl ?_
    refine g_dastore C X6 (pc' := 28) e6 Ad (by decide) (by decide) 1 0 (by decide) (of_decide_eq_true rfl) d4_27 rfl ?_
    intro T7 h7 X7 e7 W7 Aq
    have F1 := F1.other W7 (Or.inl n_a)
    have F2 := F2.other W7 (Or.inl n_a)
    have At := At.other W7 n_ta
    have Aw := Aw.other W7 n_aw
    have Z7 : n0 ≤ h7.size := by rw [W7.size]; exact Z0
    have N7 := Fr.snoc X7 (Fr.nil n0) z_b
    have P7 := (Keep.refl h [b]).wr W7 (Or.inl (List.mem_of_getElem? (i := 0) rfl))
    have Ad : Arv Z h7 b kd .double (4 : Int32) [(.double d0), (.double (FP.dadd d1 w0)), (.double d2), (.double d3)] (.double (0 : UInt64)) := Aq
    refine g_iinc C X7 (pc' := 31) d4_28 rfl (z := (1 : Int32)) (by decide) (l' := #[.val (.ref a), .val (.ref b), .val (.int (1 : Int32))]) rfl rfl ?_
    refine g_goto C X7 d4_31 (pc' := 2) (by decide) (by decide) ?_
    refine g_iloadN C X7 (pc' := 3) d4_2 rfl rfl ?_
    refine g_aloadN C X7 (pc' := 4) d4_3 rfl rfl rfl ?_
    refine g_getF C X7 (host := "") (Or.inl (hw _ (List.mem_of_getElem? (i := 16) rfl))) Via.refl e7 F1 d4_4 rfl ?_
    intro T8 X8 e8
    refine g_len C X8 (pc' := 8) e8 At d4_7 rfl ?_
    refine g_icmpY C X8 d4_8 (pc' := 34) (by decide) (by decide) (by decide) ?_
    have q0 := own_c0
    have q1 := own_c1
    have q2 := own_c2
    have q3 := own_c3
    have P0 : own_p 1 (1 : Int32) t1 t2 t3 i0 i1 i2 i3 0 0 := by unfold own_p; refine ⟨fun _ _ => ?_, fun _ _ => ?_, fun _ _ => ?_, fun _ _ => ?_, fun _ _ _ _ => ?_⟩ <;> omega
    have P1 : own_p 1 (1 : Int32) t1 t2 t3 i0 i1 i2 i3 1 i0 := by unfold own_p; refine ⟨fun _ _ => ?_, fun _ _ => ?_, fun _ _ => ?_, fun _ _ => ?_, fun _ _ _ _ => ?_⟩ <;> omega
    have P2 : own_p 1 (1 : Int32) t1 t2 t3 i0 i1 i2 i3 2 0 := by unfold own_p; refine ⟨fun _ _ => ?_, fun _ _ => ?_, fun _ _ => ?_, fun _ _ => ?_, fun _ _ _ _ => ?_⟩ <;> omega
    have P3 : own_p 1 (1 : Int32) t1 t2 t3 i0 i1 i2 i3 3 0 := by unfold own_p; refine ⟨fun _ _ => ?_, fun _ _ => ?_, fun _ _ => ?_, fun _ _ => ?_, fun _ _ _ _ => ?_⟩ <;> omega
    exact g_return C X8 d4_34 ⟨rfl, N7, by rw [e8]; exact P7, d0, FP.dadd d1 w0, d2, d3, 0, i0, 0, 0, (by rw [Int.add_zero]; exact D0), D102, (by rw [Int.add_zero]; exact D2), (by rw [Int.add_zero]; exact D3), P0, P1, P2, P3, by rw [e8]; exact Ad⟩ (by decide) (by decide)
  · show Go p.tables e below _ T2 (mkF m 18 #[.val (.ref a), .val (.ref b), .val (.int (0 : Int32))] [(.int (2 : Int32)), (.ref b)])
    refine g_dup2 C X2 (pc' := 19) d4_18 rfl rfl rfl ?_
    refine g_daload C X2 (pc' := 20) e2 Ad (by decide) (by decide) 2 (by decide) rfl d4_19 rfl ?_
    refine g_aloadN C X2 (pc' := 21) d4_20 rfl rfl rfl ?_
    refine g_getF C X2 (host := "") (Or.inl (hw _ (List.mem_of_getElem? (i := 18) rfl))) Via.refl e2 F2 d4_21 rfl ?_
    intro T9 X9 e9
    refine g_iloadN C X9 (pc' := 25) d4_24 rfl rfl ?_
    refine g_daload C X9 (pc' := 26) e9 Aw (by decide) (by decide) 0 (by decide) rfl d4_25 rfl ?_
    have D103 : FP.Core.DInt (k2 + i0) (FP.dadd d2 w0) := dadd_D D2 W0 (by show _ ≤ 9007199254740992; omega)
    refine g_dadd C X9 (pc' := 27) d4_26 (nn_of_int D103) rfl ?_
    refine g_dastore C X9 (pc' := 28) e9 Ad (by decide) (by decide) 2 0 (by decide) (of_decide_eq_true rfl) d4_27 rfl ?_
    intro T10 h10 X10 e10 W10 Aq
    have F1 := F1.other W10 (Or.inl n_a)
    have F2 := F2.other W10 (Or.inl n_a)
    have At := At.other W10 n_ta
    have Aw := Aw.other W10 n_aw
    have Z10 : n0 ≤ h10.size := by rw [W10.size]; exact Z0
    have N10 := Fr.snoc X10 (Fr.nil n0) z_b
    have P10 := (Keep.refl h [b]).wr W10 (Or.inl (List.mem_of_getElem? (i := 0) rfl))
    have Ad : Arv Z h10 b kd .double (4 : Int32) [(.double d0), (.double d1), (.double (FP.dadd d2 w0)), (.double d3)] (.double (0 : UInt64)) := Aq
    refine g_iinc C X10 (pc' := 31) d4_28 rfl (z := (1 : Int32)) (by decide) (l' := #[.val (.ref a), .val (.ref b), .val (.int (1 : Int32))]) rfl rfl ?_
    refine g_goto C X10 d4_31 (pc' := 2) (by decide) (by decide) ?_
    refine g_iloadN C X10 (pc' := 3) d4_2 rfl rfl ?_
    refine g_aloadN C X10 (pc' := 4) d4_3 rfl rfl rfl ?_
    refine g_getF C X10 (host := "") (Or.inl (hw _ (List.mem_of_getElem? (i := 16) rfl))) Via.refl e10 F1 d4_4 rfl ?_
    intro T11 X11 e11
    refine g_len C X11 (pc' := 8) e11 At d4_7 rfl ?_
    refine g_icmpY C X11 d4_8 (pc' := 34) (by decide) (by decide) (by decide) ?_
    have q0 := own_c0
    have q1 := own_c1
    have q2 := own_c2
    have q3 := own_c3
    have P0 : own_p 1 (2 : Int32) t1 t2 t3 i0 i1 i2 i3 0 0 := by unfold own_p; refine ⟨fun _ _ => ?_, fun _ _ => ?_, fun _ _ => ?_, fun _ _ => ?_, fun _ _ _ _ => ?_⟩ <;> omega
    have P1 : own_p 1 (2 : Int32) t1 t2 t3 i0 i1 i2 i3 1 0 := by unfold own_p; refine ⟨fun _ _ => ?_, fun _ _ => ?_, fun _ _ => ?_, fun _ _ => ?_, fun _ _ _ _ => ?_⟩ <;> omega
    have P2 : own_p 1 (2 : Int32) t1 t2 t3 i0 i1 i2 i3 2 i0 := by unfold own_p; refine ⟨fun _ _ => ?_, fun _ _ => ?_, fun _ _ => ?_, fun _ _ => ?_, fun _ _ _ _ => ?_⟩ <;> omega
    have P3 : own_p 1 (2 : Int32) t1 t2 t3 i0 i1 i2 i3 3 0 := by unfold own_p; refine ⟨fun _ _ => ?_, fun _ _ => ?_, fun _ _ => ?_, fun _ _ => ?_, fun _ _ _ _ => ?_⟩ <;> omega
    exact g_return C X11 d4_34 ⟨rfl, N10, by rw [e11]; exact P10, d0, d1, FP.dadd d2 w0, d3, 0, 0, i0, 0, (by rw [Int.add_zero]; exact D0), (by rw [Int.add_zero]; exact D1), D103, (by rw [Int.add_zero]; exact D3), P0, P1, P2, P3, by rw [e11]; exact Ad⟩ (by decide) (by decide)
  · show Go p.tables e below _ T2 (mkF m 18 #[.val (.ref a), .val (.ref b), .val (.int (0 : Int32))] [(.int (3 : Int32)), (.ref b)])
    refine g_dup2 C X2 (pc' := 19) d4_18 rfl rfl rfl ?_
    refine g_daload C X2 (pc' := 20) e2 Ad (by decide) (by decide) 3 (by decide) rfl d4_19 rfl ?_
    refine g_aloadN C X2 (pc' := 21) d4_20 rfl rfl rfl ?_
    refine g_getF C X2 (host := "") (Or.inl (hw _ (List.mem_of_getElem? (i := 18) rfl))) Via.refl e2 F2 d4_21 rfl ?_
    intro T12 X12 e12
    refine g_iloadN C X12 (pc' := 25) d4_24 rfl rfl ?_
    refine g_daload C X12 (pc' := 26) e12 Aw (by decide) (by decide) 0 (by decide) rfl d4_25 rfl ?_
    have D104 : FP.Core.DInt (k3 + i0) (FP.dadd d3 w0) := dadd_D D3 W0 (by show _ ≤ 9007199254740992; omega)
    refine g_dadd C X12 (pc' := 27) d4_26 (nn_of_int D104) rfl ?_
    refine g_dastore C X12 (pc' := 28) e12 Ad (by decide) (by decide) 3 0 (by decide) (of_decide_eq_true rfl) d4_27 rfl ?_
    intro T13 h13 X13 e13 W13 Aq
    have F1 := F1.other W13 (Or.inl n_a)
    have F2 := F2.other W13 (Or.inl n_a)
    have At := At.other W13 n_ta
    have Aw := Aw.other W13 n_aw
    have Z13 : n0 ≤ h13.size := by rw [W13.size]; exact Z0
    have N13 := Fr.snoc X13 (Fr.nil n0) z_b
    have P13 := (Keep.refl h [b]).wr W13 (Or.inl (List.mem_of_getElem? (i := 0) rfl))
    have Ad : Arv Z h13 b kd .double (4 : Int32) [(.double d0), (.double d1), (.double d2), (.double (FP.dadd d3 w0))] (.double (0 : UInt64)) := Aq
    refine g_iinc C X13 (pc' := 31) d4_28 rfl (z := (1 : Int32)) (by decide) (l' := #[.val (.ref a), .val (.ref b), .val (.int (1 : Int32))]) rfl rfl ?_
    refine g_goto C X13 d4_31 (pc' := 2) (by decide) (by decide) ?_
    refine g_iloadN C X13 (pc' := 3) d4_2 rfl rfl ?_
    refine g_aloadN C X13 (pc' := 4) d4_3 rfl rfl rfl ?_
    refine g_getF C X13 (host := "") (Or.inl (hw _ (List.mem_of_getElem? (i := 16) rfl))) Via.refl e13 F1 d4_4 rfl ?_
    intro T14 X14 e14
    refine g_len C X14 (pc' := 8) e14 At d4_7 rfl ?_
    refine g_icmpY C X14 d4_8 (pc' := 34) (by decide) (by decide) (by decide) ?_
    have q0 := own_c0
    have q1 := own_c1
    have q2 := own_c2
    have q3 := own_c3
    have P0 : own_p 1 (3 : Int32) t1 t2 t3 i0 i1 i2 i3 0 0 := by unfold own_p; refine ⟨fun _ _ => ?_, fun _ _ => ?_, fun _ _ => ?_, fun _ _ => ?_, fun _ _ _ _ => ?_⟩ <;> omega
    have P1 : own_p 1 (3 : Int32) t1 t2 t3 i0 i1 i2 i3 1 0 := by unfold own_p; refine ⟨fun _ _ => ?_, fun _ _ => ?_, fun _ _ => ?_, fun _ _ => ?_, fun _ _ _ _ => ?_⟩ <;> omega
    have P2 : own_p 1 (3 : Int32) t1 t2 t3 i0 i1 i2 i3 2 0 := by unfold own_p; refine ⟨fun _ _ => ?_, fun _ _ => ?_, fun _ _ => ?_, fun _ _ => ?_, fun _ _ _ _ => ?_⟩ <;> omega
    have P3 : own_p 1 (3 : Int32) t1 t2 t3 i0 i1 i2 i3 3 i0 := by unfold own_p; refine ⟨fun _ _ => ?_, fun _ _ => ?_, fun _ _ => ?_, fun _ _ => ?_, fun _ _ _ _ => ?_⟩ <;> omega
    exact g_return C X14 d4_34 ⟨rfl, N13, by rw [e14]; exact P13, d0, d1, d2, FP.dadd d3 w0, 0, 0, 0, i0, (by rw [Int.add_zero]; exact D0), (by rw [Int.add_zero]; exact D1), (by rw [Int.add_zero]; exact D2), D104, P0, P1, P2, P3, by rw [e14]; exact Ad⟩ (by decide) (by decide)
set_option maxRecDepth 65536 in
set_option maxHeartbeats 40000000 in
theorem c_exp1 (l : Launch) (Z : State) (a0 : Array Value) (hw : ∀ d ∈ tables_1, d.before a0 Z = true) (h : Heap) (ta aw b : Addr) (kt kw kd : ClassId) (t0 t1 t2 t3 : Int32) (i0 i1 i2 i3 : Int) (hT : own_four t0 t1 t2 t3) (w0 : UInt64) (W0 : FP.Core.DInt i0 w0) (R0 : -2147483648 ≤ i0 ∧ i0 < 2147483648) (w1 : UInt64) (W1 : FP.Core.DInt i1 w1) (R1 : -2147483648 ≤ i1 ∧ i1 < 2147483648) (w2 : UInt64) (W2 : FP.Core.DInt i2 w2) (R2 : -2147483648 ≤ i2 ∧ i2 < 2147483648) (w3 : UInt64) (W3 : FP.Core.DInt i3 w3) (R3 : -2147483648 ≤ i3 ∧ i3 < 2147483648) (d0 d1 d2 d3 : UInt64) (j : Int32) (hj : 0 ≤ j.toInt ∧ j.toInt < 4) (y : UInt64) (k : Int) (Dy : FP.Core.DInt k y) (S : -2147483648 ≤ k ∧ k < 2147483648) (hg : [Value.double d0, .double d1, .double d2, .double d3].getD j.toNatClampNeg (Value.double (0 : UInt64)) = Value.double y) (At : Arv Z h ta kt .int (4 : Int32) [.int t0, .int t1, .int t2, .int t3] (.int (0 : Int32))) (Aw : Arv Z h aw kw .double (4 : Int32) [.double w0, .double w1, .double w2, .double w3] (.double (0 : UInt64))) (Ad : Arv Z h b kd .double (4 : Int32) [.double d0, .double d1, .double d2, .double d3] (.double (0 : UInt64))) :
    Con l Z (⟨"com/example/kenning/kenning/retrieval/VectorAddToPinLaw", "expected", "(II[I[D[D)D"⟩ : MethodName) method_3_code 7 (some .double) ⟨0, 0, 0, 0⟩ #[.int j, .int (1 : Int32), .ref ta, .ref aw, .ref b] h (fun v h' L => ∃ r A, v = some (.double r) ∧ FP.Core.DInt (k + A) r ∧ own_p 1 t0 t1 t2 t3 i0 i1 i2 i3 j.toInt A ∧ L = [] ∧ h' = h) := by
  refine con_of_go pnE (fun m => efE m j _ ta aw b) ?_
  intro p e s m below meth c T0 C X0 e0
  refine g_dconst0 C X0 (pc' := 1) d5_0 rfl rfl ?_
  refine g_dstore C X0 (pc' := 3) d5_1 (x := FP.dconst0) rfl (l' := #[.val (.int j), .val (.int (1 : Int32)), .val (.ref ta), .val (.ref aw), .val (.ref b), .val (.double FP.dconst0), .second]) rfl rfl ?_
  refine g_iloadN C X0 (pc' := 4) d5_3 rfl rfl ?_
  refine g_ifN C X0 d5_4 (by decide) rfl ?_
  refine g_aloadN C X0 (pc' := 8) d5_7 rfl rfl rfl ?_
  refine g_iconst C X0 (pc' := 9) d5_8 (v := (0 : Int32)) (by decide) rfl ?_
  refine g_iaload C X0 (pc' := 10) e0 At (by decide) (by decide) 0 (by decide) rfl d5_9 rfl ?_
  refine g_iloadN C X0 (pc' := 11) d5_10 rfl rfl ?_
  refine g_icmp C X0 d5_11 (pc' := 19) (pc'' := 14) (by decide) (by decide) rfl (fun c11 => ?_) (fun c11 => ?_)
  · have c11 : ¬ (t0.toInt = j.toInt) := c11
    refine g_iloadN C X0 (pc' := 20) d5_19 rfl rfl ?_
    refine g_iconst C X0 (pc' := 21) d5_20 (v := (1 : Int32)) (by decide) rfl ?_
    refine g_icmpY C X0 d5_21 (pc' := 36) (by decide) (by decide) (by decide) ?_
    refine g_iloadN C X0 (pc' := 37) d5_36 rfl rfl ?_
    refine g_iconst C X0 (pc' := 38) d5_37 (v := (2 : Int32)) (by decide) rfl ?_
    refine g_icmpY C X0 d5_38 (pc' := 53) (by decide) (by decide) (by decide) ?_
    refine g_iloadN C X0 (pc' := 54) d5_53 rfl rfl ?_
    refine g_iconst C X0 (pc' := 55) d5_54 (v := (3 : Int32)) (by decide) rfl ?_
    refine g_icmpY C X0 d5_55 (pc' := 70) (by decide) (by decide) (by decide) ?_
    refine g_aload C X0 (pc' := 72) d5_70 rfl rfl rfl ?_
    refine g_iloadN C X0 (pc' := 73) d5_72 rfl rfl ?_
    refine g_daload C X0 (pc' := 74) e0 Ad hj.1 hj.2 j.toNatClampNeg rfl hg d5_73 rfl ?_
    refine g_dload C X0 (pc' := 76) d5_74 rfl rfl ?_
    have D101 : FP.Core.DInt (k + 0) (FP.dadd y FP.dconst0) := dadd_D Dy dint_zero (by show _ ≤ 9007199254740992; omega)
    refine g_dadd C X0 (pc' := 77) d5_76 (nn_of_int D101) rfl ?_
    have P : own_p 1 t0 t1 t2 t3 i0 i1 i2 i3 j.toInt 0 := by unfold own_p; unfold own_four at hT; refine ⟨fun _ _ => ?_, fun _ _ => ?_, fun _ _ => ?_, fun _ _ => ?_, fun _ _ _ _ => ?_⟩ <;> omega
    exact g_dreturn C X0 d5_77 ⟨_, 0, rfl, D101, P, rfl, e0⟩ (by decide) (by decide)
  · have c11 : t0.toInt = j.toInt := Decidable.not_not.mp c11
    refine g_aloadN C X0 (pc' := 15) d5_14 rfl rfl rfl ?_
    refine g_iconst C X0 (pc' := 16) d5_15 (v := (0 : Int32)) (by decide) rfl ?_
    refine g_daload C X0 (pc' := 17) e0 Aw (by decide) (by decide) 0 (by decide) rfl d5_16 rfl ?_
    refine g_dstore C X0 (pc' := 19) d5_17 (x := w0) rfl (l' := #[.val (.int j), .val (.int (1 : Int32)), .val (.ref ta), .val (.ref aw), .val (.ref b), .val (.double w0), .second]) rfl rfl ?_
    refine g_iloadN C X0 (pc' := 20) d5_19 rfl rfl ?_
    refine g_iconst C X0 (pc' := 21) d5_20 (v := (1 : Int32)) (by decide) rfl ?_
    refine g_icmpY C X0 d5_21 (pc' := 36) (by decide) (by decide) (by decide) ?_
    refine g_iloadN C X0 (pc' := 37) d5_36 rfl rfl ?_
    refine g_iconst C X0 (pc' := 38) d5_37 (v := (2 : Int32)) (by decide) rfl ?_
    refine g_icmpY C X0 d5_38 (pc' := 53) (by decide) (by decide) (by decide) ?_
    refine g_iloadN C X0 (pc' := 54) d5_53 rfl rfl ?_
    refine g_iconst C X0 (pc' := 55) d5_54 (v := (3 : Int32)) (by decide) rfl ?_
    refine g_icmpY C X0 d5_55 (pc' := 70) (by decide) (by decide) (by decide) ?_
    refine g_aload C X0 (pc' := 72) d5_70 rfl rfl rfl ?_
    refine g_iloadN C X0 (pc' := 73) d5_72 rfl rfl ?_
    refine g_daload C X0 (pc' := 74) e0 Ad hj.1 hj.2 j.toNatClampNeg rfl hg d5_73 rfl ?_
    refine g_dload C X0 (pc' := 76) d5_74 rfl rfl ?_
    have D102 : FP.Core.DInt (k + i0) (FP.dadd y w0) := dadd_D Dy W0 (by show _ ≤ 9007199254740992; omega)
    refine g_dadd C X0 (pc' := 77) d5_76 (nn_of_int D102) rfl ?_
    have P : own_p 1 t0 t1 t2 t3 i0 i1 i2 i3 j.toInt i0 := by unfold own_p; unfold own_four at hT; refine ⟨fun _ _ => ?_, fun _ _ => ?_, fun _ _ => ?_, fun _ _ => ?_, fun _ _ _ _ => ?_⟩ <;> omega
    exact g_dreturn C X0 d5_77 ⟨_, i0, rfl, D102, P, rfl, e0⟩ (by decide) (by decide)
set_option maxRecDepth 65536 in
set_option maxHeartbeats 40000000 in
theorem c_add2 (l : Launch) (Z : State) (a0 : Array Value) (hw : ∀ d ∈ tables_1, d.before a0 Z = true) (h : Heap) (n0 : Nat) (Z0 : n0 ≤ h.size) (a b ta aw : Addr) (z_b : n0 ≤ b) (n_a : a ≠ b) (n_ta : ta ≠ b) (n_aw : aw ≠ b) (kt kw kd : ClassId) (t0 t1 t2 t3 : Int32) (i0 i1 i2 i3 : Int) (hT : own_four t0 t1 t2 t3) (w0 : UInt64) (W0 : FP.Core.DInt i0 w0) (R0 : -2147483648 ≤ i0 ∧ i0 < 2147483648) (w1 : UInt64) (W1 : FP.Core.DInt i1 w1) (R1 : -2147483648 ≤ i1 ∧ i1 < 2147483648) (d0 : UInt64) (k0 : Int) (D0 : FP.Core.DInt k0 d0) (S0 : -2147483648 ≤ k0 ∧ k0 < 2147483648) (d1 : UInt64) (k1 : Int) (D1 : FP.Core.DInt k1 d1) (S1 : -2147483648 ≤ k1 ∧ k1 < 2147483648) (d2 : UInt64) (k2 : Int) (D2 : FP.Core.DInt k2 d2) (S2 : -2147483648 ≤ k2 ∧ k2 < 2147483648) (d3 : UInt64) (k3 : Int) (D3 : FP.Core.DInt k3 d3) (S3 : -2147483648 ≤ k3 ∧ k3 < 2147483648) (F1 : Fld Z h a "com/example/kenning/kenning/retrieval/KMeans$Vector" "terms" "[I" (.ref ta)) (F2 : Fld Z h a "com/example/kenning/kenning/retrieval/KMeans$Vector" "weights" "[D" (.ref aw)) (At : Arv Z h ta kt .int (2 : Int32) [.int t0, .int t1] (.int (0 : Int32))) (Aw : Arv Z h aw kw .double (2 : Int32) [.double w0, .double w1] (.double (0 : UInt64))) (Ad : Arv Z h b kd .double (4 : Int32) [.double d0, .double d1, .double d2, .double d3] (.double (0 : UInt64))) :
    Con l Z (⟨"com/example/kenning/kenning/retrieval/KMeans$Vector", "addTo", "([D)V"⟩ : MethodName) prog_50_method_4_code 3 none ⟨0, 0, 0, 0⟩ #[.ref a, .ref b] h (fun v h' L => v = none ∧ Fr n0 L ∧ Keep h h' [b] ∧ ∃ (z0 z1 z2 z3 : UInt64) (b0 b1 b2 b3 : Int), FP.Core.DInt (k0 + b0) z0 ∧ FP.Core.DInt (k1 + b1) z1 ∧ FP.Core.DInt (k2 + b2) z2 ∧ FP.Core.DInt (k3 + b3) z3 ∧ own_p 2 t0 t1 t2 t3 i0 i1 i2 i3 0 b0 ∧ own_p 2 t0 t1 t2 t3 i0 i1 i2 i3 1 b1 ∧ own_p 2 t0 t1 t2 t3 i0 i1 i2 i3 2 b2 ∧ own_p 2 t0 t1 t2 t3 i0 i1 i2 i3 3 b3 ∧ Arv Z h' b kd .double (4 : Int32) [.double z0, .double z1, .double z2, .double z3] (.double (0 : UInt64))) := by
  refine con_of_go pnV (fun m => efD m a b) ?_
  intro p e s m below meth c T0 C X0 e0
  refine g_iconst C X0 (pc' := 1) d4_0 (v := (0 : Int32)) (by decide) rfl ?_
  refine g_istoreN C X0 (pc' := 2) d4_1 (x := (0 : Int32)) rfl (l' := #[.val (.ref a), .val (.ref b), .val (.int (0 : Int32))]) rfl rfl ?_
  refine g_iloadN C X0 (pc' := 3) d4_2 rfl rfl ?_
  refine g_aloadN C X0 (pc' := 4) d4_3 rfl rfl rfl ?_
  refine g_getF C X0 (host := "") (Or.inl (hw _ (List.mem_of_getElem? (i := 16) rfl))) Via.refl e0 F1 d4_4 rfl ?_
  intro T1 X1 e1
  refine g_len C X1 (pc' := 8) e1 At d4_7 rfl ?_
  refine g_icmpN C X1 d4_8 (by decide) rfl ?_
  refine g_aloadN C X1 (pc' := 12) d4_11 rfl rfl rfl ?_
  refine g_aloadN C X1 (pc' := 13) d4_12 rfl rfl rfl ?_
  refine g_getF C X1 (host := "") (Or.inl (hw _ (List.mem_of_getElem? (i := 16) rfl))) Via.refl e1 F1 d4_13 rfl ?_
  intro T2 X2 e2
  refine g_iloadN C X2 (pc' := 17) d4_16 rfl rfl ?_
  refine g_iaload C X2 (pc' := 18) e2 At (by decide) (by decide) 0 (by decide) rfl d4_17 rfl ?_
  rcases own_one hT.1 with rfl | rfl | rfl | rfl
  · show Go p.tables e below _ T2 (mkF m 18 #[.val (.ref a), .val (.ref b), .val (.int (0 : Int32))] [(.int (0 : Int32)), (.ref b)])
    refine g_dup2 C X2 (pc' := 19) d4_18 rfl rfl rfl ?_
    refine g_daload C X2 (pc' := 20) e2 Ad (by decide) (by decide) 0 (by decide) rfl d4_19 rfl ?_
    refine g_aloadN C X2 (pc' := 21) d4_20 rfl rfl rfl ?_
    refine g_getF C X2 (host := "") (Or.inl (hw _ (List.mem_of_getElem? (i := 18) rfl))) Via.refl e2 F2 d4_21 rfl ?_
    intro T3 X3 e3
    refine g_iloadN C X3 (pc' := 25) d4_24 rfl rfl ?_
    refine g_daload C X3 (pc' := 26) e3 Aw (by decide) (by decide) 0 (by decide) rfl d4_25 rfl ?_
    have D101 : FP.Core.DInt (k0 + i0) (FP.dadd d0 w0) := dadd_D D0 W0 (by show _ ≤ 9007199254740992; omega)
    refine g_dadd C X3 (pc' := 27) d4_26 (nn_of_int D101) rfl ?_
    refine g_dastore C X3 (pc' := 28) e3 Ad (by decide) (by decide) 0 0 (by decide) (of_decide_eq_true rfl) d4_27 rfl ?_
    intro T4 h4 X4 e4 W4 Aq
    have F1 := F1.other W4 (Or.inl n_a)
    have F2 := F2.other W4 (Or.inl n_a)
    have At := At.other W4 n_ta
    have Aw := Aw.other W4 n_aw
    have Z4 : n0 ≤ h4.size := by rw [W4.size]; exact Z0
    have N4 := Fr.snoc X4 (Fr.nil n0) z_b
    have P4 := (Keep.refl h [b]).wr W4 (Or.inl (List.mem_of_getElem? (i := 0) rfl))
    have Ad : Arv Z h4 b kd .double (4 : Int32) [(.double (FP.dadd d0 w0)), (.double d1), (.double d2), (.double d3)] (.double (0 : UInt64)) := Aq
    refine g_iinc C X4 (pc' := 31) d4_28 rfl (z := (1 : Int32)) (by decide) (l' := #[.val (.ref a), .val (.ref b), .val (.int (1 : Int32))]) rfl rfl ?_
    refine g_goto C X4 d4_31 (pc' := 2) (by decide) (by decide) ?_
    refine g_iloadN C X4 (pc' := 3) d4_2 rfl rfl ?_
    refine g_aloadN C X4 (pc' := 4) d4_3 rfl rfl rfl ?_
    refine g_getF C X4 (host := "") (Or.inl (hw _ (List.mem_of_getElem? (i := 16) rfl))) Via.refl e4 F1 d4_4 rfl ?_
    intro T5 X5 e5
    refine g_len C X5 (pc' := 8) e5 At d4_7 rfl ?_
    refine g_icmpN C X5 d4_8 (by decide) rfl ?_
    refine g_aloadN C X5 (pc' := 12) d4_11 rfl rfl rfl ?_
    refine g_aloadN C X5 (pc' := 13) d4_12 rfl rfl rfl ?_
    refine g_getF C X5 (host := "") (Or.inl (hw _ (List.mem_of_getElem? (i := 16) rfl))) Via.refl e5 F1 d4_13 rfl ?_
    intro T6 X6 e6
    refine g_iloadN C X6 (pc' := 17) d4_16 rfl rfl ?_
    refine g_iaload C X6 (pc' := 18) e6 At (by decide) (by decide) 1 (by decide) rfl d4_17 rfl ?_
    rcases own_one hT.2.1 with rfl | rfl | rfl | rfl
    · exact absurd rfl hT.2.2.2.2.1
    · show Go p.tables e below _ T6 (mkF m 18 #[.val (.ref a), .val (.ref b), .val (.int (1 : Int32))] [(.int (1 : Int32)), (.ref b)])
      refine g_dup2 C X6 (pc' := 19) d4_18 rfl rfl rfl ?_
      refine g_daload C X6 (pc' := 20) e6 Ad (by decide) (by decide) 1 (by decide) rfl d4_19 rfl ?_
      refine g_aloadN C X6 (pc' := 21) d4_20 rfl rfl rfl ?_
      refine g_getF C X6 (host := "") (Or.inl (hw _ (List.mem_of_getElem? (i := 18) rfl))) Via.refl e6 F2 d4_21 rfl ?_
      intro T7 X7 e7
      refine g_iloadN C X7 (pc' := 25) d4_24 rfl rfl ?_
      refine g_daload C X7 (pc' := 26) e7 Aw (by decide) (by decide) 1 (by decide) rfl d4_25 rfl ?_
      have D102 : FP.Core.DInt (k1 + i1) (FP.dadd d1 w1) := dadd_D D1 W1 (by show _ ≤ 9007199254740992; omega)
      refine g_dadd C X7 (pc' := 27) d4_26 (nn_of_int D102) rfl ?_
      refine g_dastore C X7 (pc' := 28) e7 Ad (by decide) (by decide) 1 0 (by decide) (of_decide_eq_true rfl) d4_27 rfl ?_
      intro T8 h8 X8 e8 W8 Aq
      have F1 := F1.other W8 (Or.inl n_a)
      have F2 := F2.other W8 (Or.inl n_a)
      have At := At.other W8 n_ta
      have Aw := Aw.other W8 n_aw
      have Z8 : n0 ≤ h8.size := by rw [W8.size]; exact Z4
      have N8 := Fr.snoc X8 N4 z_b
      have P8 := P4.wr W8 (Or.inl (List.mem_of_getElem? (i := 0) rfl))
      have Ad : Arv Z h8 b kd .double (4 : Int32) [(.double (FP.dadd d0 w0)), (.double (FP.dadd d1 w1)), (.double d2), (.double d3)] (.double (0 : UInt64)) := Aq
      refine g_iinc C X8 (pc' := 31) d4_28 rfl (z := (2 : Int32)) (by decide) (l' := #[.val (.ref a), .val (.ref b), .val (.int (2 : Int32))]) rfl rfl ?_
      refine g_goto C X8 d4_31 (pc' := 2) (by decide) (by decide) ?_
      refine g_iloadN C X8 (pc' := 3) d4_2 rfl rfl ?_
      refine g_aloadN C X8 (pc' := 4) d4_3 rfl rfl rfl ?_
      refine g_getF C X8 (host := "") (Or.inl (hw _ (List.mem_of_getElem? (i := 16) rfl))) Via.refl e8 F1 d4_4 rfl ?_
      intro T9 X9 e9
      refine g_len C X9 (pc' := 8) e9 At d4_7 rfl ?_
      refine g_icmpY C X9 d4_8 (pc' := 34) (by decide) (by decide) (by decide) ?_
      have q0 := own_c0
      have q1 := own_c1
      have q2 := own_c2
      have q3 := own_c3
      have P0 : own_p 2 (0 : Int32) (1 : Int32) t2 t3 i0 i1 i2 i3 0 i0 := by unfold own_p; refine ⟨fun _ _ => ?_, fun _ _ => ?_, fun _ _ => ?_, fun _ _ => ?_, fun _ _ _ _ => ?_⟩ <;> omega
      have P1 : own_p 2 (0 : Int32) (1 : Int32) t2 t3 i0 i1 i2 i3 1 i1 := by unfold own_p; refine ⟨fun _ _ => ?_, fun _ _ => ?_, fun _ _ => ?_, fun _ _ => ?_, fun _ _ _ _ => ?_⟩ <;> omega
      have P2 : own_p 2 (0 : Int32) (1 : Int32) t2 t3 i0 i1 i2 i3 2 0 := by unfold own_p; refine ⟨fun _ _ => ?_, fun _ _ => ?_, fun _ _ => ?_, fun _ _ => ?_, fun _ _ _ _ => ?_⟩ <;> omega
      have P3 : own_p 2 (0 : Int32) (1 : Int32) t2 t3 i0 i1 i2 i3 3 0 := by unfold own_p; refine ⟨fun _ _ => ?_, fun _ _ => ?_, fun _ _ => ?_, fun _ _ => ?_, fun _ _ _ _ => ?_⟩ <;> omega
      exact g_return C X9 d4_34 ⟨rfl, N8, by rw [e9]; exact P8, FP.dadd d0 w0, FP.dadd d1 w1, d2, d3, i0, i1, 0, 0, D101, D102, (by rw [Int.add_zero]; exact D2), (by rw [Int.add_zero]; exact D3), P0, P1, P2, P3, by rw [e9]; exact Ad⟩ (by decide) (by decide)
    · show Go p.tables e below _ T6 (mkF m 18 #[.val (.ref a), .val (.ref b), .val (.int (1 : Int32))] [(.int (2 : Int32)), (.ref b)])
      refine g_dup2 C X6 (pc' := 19) d4_18 rfl rfl rfl ?_
      refine g_daload C X6 (pc' := 20) e6 Ad (by decide) (by decide) 2 (by decide) rfl d4_19 rfl ?_
      refine g_aloadN C X6 (pc' := 21) d4_20 rfl rfl rfl ?_
      refine g_getF C X6 (host := "") (Or.inl (hw _ (List.mem_of_getElem? (i := 18) rfl))) Via.refl e6 F2 d4_21 rfl ?_
      intro T10 X10 e10
      refine g_iloadN C X10 (pc' := 25) d4_24 rfl rfl ?_
      refine g_daload C X10 (pc' := 26) e10 Aw (by decide) (by decide) 1 (by decide) rfl d4_25 rfl ?_
      have D103 : FP.Core.DInt (k2 + i1) (FP.dadd d2 w1) := dadd_D D2 W1 (by show _ ≤ 9007199254740992; omega)
      refine g_dadd C X10 (pc' := 27) d4_26 (nn_of_int D103) rfl ?_
      refine g_dastore C X10 (pc' := 28) e10 Ad (by decide) (by decide) 2 0 (by decide) (of_decide_eq_true rfl) d4_27 rfl ?_
      intro T11 h11 X11 e11 W11 Aq
      have F1 := F1.other W11 (Or.inl n_a)
      have F2 := F2.other W11 (Or.inl n_a)
      have At := At.other W11 n_ta
      have Aw := Aw.other W11 n_aw
      have Z11 : n0 ≤ h11.size := by rw [W11.size]; exact Z4
      have N11 := Fr.snoc X11 N4 z_b
      have P11 := P4.wr W11 (Or.inl (List.mem_of_getElem? (i := 0) rfl))
      have Ad : Arv Z h11 b kd .double (4 : Int32) [(.double (FP.dadd d0 w0)), (.double d1), (.double (FP.dadd d2 w1)), (.double d3)] (.double (0 : UInt64)) := Aq
      refine g_iinc C X11 (pc' := 31) d4_28 rfl (z := (2 : Int32)) (by decide) (l' := #[.val (.ref a), .val (.ref b), .val (.int (2 : Int32))]) rfl rfl ?_
      refine g_goto C X11 d4_31 (pc' := 2) (by decide) (by decide) ?_
      refine g_iloadN C X11 (pc' := 3) d4_2 rfl rfl ?_
      refine g_aloadN C X11 (pc' := 4) d4_3 rfl rfl rfl ?_
      refine g_getF C X11 (host := "") (Or.inl (hw _ (List.mem_of_getElem? (i := 16) rfl))) Via.refl e11 F1 d4_4 rfl ?_
      intro T12 X12 e12
      refine g_len C X12 (pc' := 8) e12 At d4_7 rfl ?_
      refine g_icmpY C X12 d4_8 (pc' := 34) (by decide) (by decide) (by decide) ?_
      have q0 := own_c0
      have q1 := own_c1
      have q2 := own_c2
      have q3 := own_c3
      have P0 : own_p 2 (0 : Int32) (2 : Int32) t2 t3 i0 i1 i2 i3 0 i0 := by unfold own_p; refine ⟨fun _ _ => ?_, fun _ _ => ?_, fun _ _ => ?_, fun _ _ => ?_, fun _ _ _ _ => ?_⟩ <;> omega
      have P1 : own_p 2 (0 : Int32) (2 : Int32) t2 t3 i0 i1 i2 i3 1 0 := by unfold own_p; refine ⟨fun _ _ => ?_, fun _ _ => ?_, fun _ _ => ?_, fun _ _ => ?_, fun _ _ _ _ => ?_⟩ <;> omega
      have P2 : own_p 2 (0 : Int32) (2 : Int32) t2 t3 i0 i1 i2 i3 2 i1 := by unfold own_p; refine ⟨fun _ _ => ?_, fun _ _ => ?_, fun _ _ => ?_, fun _ _ => ?_, fun _ _ _ _ => ?_⟩ <;> omega
      have P3 : own_p 2 (0 : Int32) (2 : Int32) t2 t3 i0 i1 i2 i3 3 0 := by unfold own_p; refine ⟨fun _ _ => ?_, fun _ _ => ?_, fun _ _ => ?_, fun _ _ => ?_, fun _ _ _ _ => ?_⟩ <;> omega
      exact g_return C X12 d4_34 ⟨rfl, N11, by rw [e12]; exact P11, FP.dadd d0 w0, d1, FP.dadd d2 w1, d3, i0, 0, i1, 0, D101, (by rw [Int.add_zero]; exact D1), D103, (by rw [Int.add_zero]; exact D3), P0, P1, P2, P3, by rw [e12]; exact Ad⟩ (by decide) (by decide)
    · show Go p.tables e below _ T6 (mkF m 18 #[.val (.ref a), .val (.ref b), .val (.int (1 : Int32))] [(.int (3 : Int32)), (.ref b)])
      refine g_dup2 C X6 (pc' := 19) d4_18 rfl rfl rfl ?_
      refine g_daload C X6 (pc' := 20) e6 Ad (by decide) (by decide) 3 (by decide) rfl d4_19 rfl ?_
      refine g_aloadN C X6 (pc' := 21) d4_20 rfl rfl rfl ?_
      refine g_getF C X6 (host := "") (Or.inl (hw _ (List.mem_of_getElem? (i := 18) rfl))) Via.refl e6 F2 d4_21 rfl ?_
      intro T13 X13 e13
      refine g_iloadN C X13 (pc' := 25) d4_24 rfl rfl ?_
      refine g_daload C X13 (pc' := 26) e13 Aw (by decide) (by decide) 1 (by decide) rfl d4_25 rfl ?_
      have D104 : FP.Core.DInt (k3 + i1) (FP.dadd d3 w1) := dadd_D D3 W1 (by show _ ≤ 9007199254740992; omega)
      refine g_dadd C X13 (pc' := 27) d4_26 (nn_of_int D104) rfl ?_
      refine g_dastore C X13 (pc' := 28) e13 Ad (by decide) (by decide) 3 0 (by decide) (of_decide_eq_true rfl) d4_27 rfl ?_
      intro T14 h14 X14 e14 W14 Aq
      have F1 := F1.other W14 (Or.inl n_a)
      have F2 := F2.other W14 (Or.inl n_a)
      have At := At.other W14 n_ta
      have Aw := Aw.other W14 n_aw
      have Z14 : n0 ≤ h14.size := by rw [W14.size]; exact Z4
      have N14 := Fr.snoc X14 N4 z_b
      have P14 := P4.wr W14 (Or.inl (List.mem_of_getElem? (i := 0) rfl))
      have Ad : Arv Z h14 b kd .double (4 : Int32) [(.double (FP.dadd d0 w0)), (.double d1), (.double d2), (.double (FP.dadd d3 w1))] (.double (0 : UInt64)) := Aq
      refine g_iinc C X14 (pc' := 31) d4_28 rfl (z := (2 : Int32)) (by decide) (l' := #[.val (.ref a), .val (.ref b), .val (.int (2 : Int32))]) rfl rfl ?_
      refine g_goto C X14 d4_31 (pc' := 2) (by decide) (by decide) ?_
      refine g_iloadN C X14 (pc' := 3) d4_2 rfl rfl ?_
      refine g_aloadN C X14 (pc' := 4) d4_3 rfl rfl rfl ?_
      refine g_getF C X14 (host := "") (Or.inl (hw _ (List.mem_of_getElem? (i := 16) rfl))) Via.refl e14 F1 d4_4 rfl ?_
      intro T15 X15 e15
      refine g_len C X15 (pc' := 8) e15 At d4_7 rfl ?_
      refine g_icmpY C X15 d4_8 (pc' := 34) (by decide) (by decide) (by decide) ?_
      have q0 := own_c0
      have q1 := own_c1
      have q2 := own_c2
      have q3 := own_c3
      have P0 : own_p 2 (0 : Int32) (3 : Int32) t2 t3 i0 i1 i2 i3 0 i0 := by unfold own_p; refine ⟨fun _ _ => ?_, fun _ _ => ?_, fun _ _ => ?_, fun _ _ => ?_, fun _ _ _ _ => ?_⟩ <;> omega
      have P1 : own_p 2 (0 : Int32) (3 : Int32) t2 t3 i0 i1 i2 i3 1 0 := by unfold own_p; refine ⟨fun _ _ => ?_, fun _ _ => ?_, fun _ _ => ?_, fun _ _ => ?_, fun _ _ _ _ => ?_⟩ <;> omega
      have P2 : own_p 2 (0 : Int32) (3 : Int32) t2 t3 i0 i1 i2 i3 2 0 := by unfold own_p; refine ⟨fun _ _ => ?_, fun _ _ => ?_, fun _ _ => ?_, fun _ _ => ?_, fun _ _ _ _ => ?_⟩ <;> omega
      have P3 : own_p 2 (0 : Int32) (3 : Int32) t2 t3 i0 i1 i2 i3 3 i1 := by unfold own_p; refine ⟨fun _ _ => ?_, fun _ _ => ?_, fun _ _ => ?_, fun _ _ => ?_, fun _ _ _ _ => ?_⟩ <;> omega
      exact g_return C X15 d4_34 ⟨rfl, N14, by rw [e15]; exact P14, FP.dadd d0 w0, d1, d2, FP.dadd d3 w1, i0, 0, 0, i1, D101, (by rw [Int.add_zero]; exact D1), (by rw [Int.add_zero]; exact D2), D104, P0, P1, P2, P3, by rw [e15]; exact Ad⟩ (by decide) (by decide)
  · show Go p.tables e below _ T2 (mkF m 18 #[.val (.ref a), .val (.ref b), .val (.int (0 : Int32))] [(.int (1 : Int32)), (.ref b)])
    refine g_dup2 C X2 (pc' := 19) d4_18 rfl rfl rfl ?_
    refine g_daload C X2 (pc' := 20) e2 Ad (by decide) (by decide) 1 (by decide) rfl d4_19 rfl ?_
    refine g_aloadN C X2 (pc' := 21) d4_20 rfl rfl rfl ?_
    refine g_getF C X2 (host := "") (Or.inl (hw _ (List.mem_of_getElem? (i := 18) rfl))) Via.refl e2 F2 d4_21 rfl ?_
    intro T16 X16 e16
    refine g_iloadN C X16 (pc' := 25) d4_24 rfl rfl ?_
    refine g_daload C X16 (pc' := 26) e16 Aw (by decide) (by decide) 0 (by decide) rfl d4_25 rfl ?_
    have D105 : FP.Core.DInt (k1 + i0) (FP.dadd d1 w0) := dadd_D D1 W0 (by show _ ≤ 9007199254740992; omega)
    refine g_dadd C X16 (pc' := 27) d4_26 (nn_of_int D105) rfl ?_
    refine g_dastore C X16 (pc' := 28) e16 Ad (by decide) (by decide) 1 0 (by decide) (of_decide_eq_true rfl) d4_27 rfl ?_
    intro T17 h17 X17 e17 W17 Aq
    have F1 := F1.other W17 (Or.inl n_a)
    have F2 := F2.other W17 (Or.inl n_a)
    have At := At.other W17 n_ta
    have Aw := Aw.other W17 n_aw
    have Z17 : n0 ≤ h17.size := by rw [W17.size]; exact Z0
    have N17 := Fr.snoc X17 (Fr.nil n0) z_b
    have P17 := (Keep.refl h [b]).wr W17 (Or.inl (List.mem_of_getElem? (i := 0) rfl))
    have Ad : Arv Z h17 b kd .double (4 : Int32) [(.double d0), (.double (FP.dadd d1 w0)), (.double d2), (.double d3)] (.double (0 : UInt64)) := Aq
    refine g_iinc C X17 (pc' := 31) d4_28 rfl (z := (1 : Int32)) (by decide) (l' := #[.val (.ref a), .val (.ref b), .val (.int (1 : Int32))]) rfl rfl ?_
    refine g_goto C X17 d4_31 (pc' := 2) (by decide) (by decide) ?_
    refine g_iloadN C X17 (pc' := 3) d4_2 rfl rfl ?_
    refine g_aloadN C X17 (pc' := 4) d4_3 rfl rfl rfl ?_
    refine g_getF C X17 (host := "") (Or.inl (hw _ (List.mem_of_getElem? (i := 16) rfl))) Via.refl e17 F1 d4_4 rfl ?_
    intro T18 X18 e18
    refine g_len C X18 (pc' := 8) e18 At d4_7 rfl ?_
    refine g_icmpN C X18 d4_8 (by decide) rfl ?_
    refine g_aloadN C X18 (pc' := 12) d4_11 rfl rfl rfl ?_
    refine g_aloadN C X18 (pc' := 13) d4_12 rfl rfl rfl ?_
    refine g_getF C X18 (host := "") (Or.inl (hw _ (List.mem_of_getElem? (i := 16) rfl))) Via.refl e18 F1 d4_13 rfl ?_
    intro T19 X19 e19
    refine g_iloadN C X19 (pc' := 17) d4_16 rfl rfl ?_
    refine g_iaload C X19 (pc' := 18) e19 At (by decide) (by decide) 1 (by decide) rfl d4_17 rfl ?_
    rcases own_one hT.2.1 with rfl | rfl | rfl | rfl
    · show Go p.tables e below _ T19 (mkF m 18 #[.val (.ref a), .val (.ref b), .val (.int (1 : Int32))] [(.int (0 : Int32)), (.ref b)])
      refine g_dup2 C X19 (pc' := 19) d4_18 rfl rfl rfl ?_
      refine g_daload C X19 (pc' := 20) e19 Ad (by decide) (by decide) 0 (by decide) rfl d4_19 rfl ?_
      refine g_aloadN C X19 (pc' := 21) d4_20 rfl rfl rfl ?_
      refine g_getF C X19 (host := "") (Or.inl (hw _ (List.mem_of_getElem? (i := 18) rfl))) Via.refl e19 F2 d4_21 rfl ?_
      intro T20 X20 e20
      refine g_iloadN C X20 (pc' := 25) d4_24 rfl rfl ?_
      refine g_daload C X20 (pc' := 26) e20 Aw (by decide) (by decide) 1 (by decide) rfl d4_25 rfl ?_
      have D106 : FP.Core.DInt (k0 + i1) (FP.dadd d0 w1) := dadd_D D0 W1 (by show _ ≤ 9007199254740992; omega)
      refine g_dadd C X20 (pc' := 27) d4_26 (nn_of_int D106) rfl ?_
      refine g_dastore C X20 (pc' := 28) e20 Ad (by decide) (by decide) 0 0 (by decide) (of_decide_eq_true rfl) d4_27 rfl ?_
      intro T21 h21 X21 e21 W21 Aq
      have F1 := F1.other W21 (Or.inl n_a)
      have F2 := F2.other W21 (Or.inl n_a)
      have At := At.other W21 n_ta
      have Aw := Aw.other W21 n_aw
      have Z21 : n0 ≤ h21.size := by rw [W21.size]; exact Z17
      have N21 := Fr.snoc X21 N17 z_b
      have P21 := P17.wr W21 (Or.inl (List.mem_of_getElem? (i := 0) rfl))
      have Ad : Arv Z h21 b kd .double (4 : Int32) [(.double (FP.dadd d0 w1)), (.double (FP.dadd d1 w0)), (.double d2), (.double d3)] (.double (0 : UInt64)) := Aq
      refine g_iinc C X21 (pc' := 31) d4_28 rfl (z := (2 : Int32)) (by decide) (l' := #[.val (.ref a), .val (.ref b), .val (.int (2 : Int32))]) rfl rfl ?_
      refine g_goto C X21 d4_31 (pc' := 2) (by decide) (by decide) ?_
      refine g_iloadN C X21 (pc' := 3) d4_2 rfl rfl ?_
      refine g_aloadN C X21 (pc' := 4) d4_3 rfl rfl rfl ?_
      refine g_getF C X21 (host := "") (Or.inl (hw _ (List.mem_of_getElem? (i := 16) rfl))) Via.refl e21 F1 d4_4 rfl ?_
      intro T22 X22 e22
      refine g_len C X22 (pc' := 8) e22 At d4_7 rfl ?_
      refine g_icmpY C X22 d4_8 (pc' := 34) (by decide) (by decide) (by decide) ?_
      have q0 := own_c0
      have q1 := own_c1
      have q2 := own_c2
      have q3 := own_c3
      have P0 : own_p 2 (1 : Int32) (0 : Int32) t2 t3 i0 i1 i2 i3 0 i1 := by unfold own_p; refine ⟨fun _ _ => ?_, fun _ _ => ?_, fun _ _ => ?_, fun _ _ => ?_, fun _ _ _ _ => ?_⟩ <;> omega
      have P1 : own_p 2 (1 : Int32) (0 : Int32) t2 t3 i0 i1 i2 i3 1 i0 := by unfold own_p; refine ⟨fun _ _ => ?_, fun _ _ => ?_, fun _ _ => ?_, fun _ _ => ?_, fun _ _ _ _ => ?_⟩ <;> omega
      have P2 : own_p 2 (1 : Int32) (0 : Int32) t2 t3 i0 i1 i2 i3 2 0 := by unfold own_p; refine ⟨fun _ _ => ?_, fun _ _ => ?_, fun _ _ => ?_, fun _ _ => ?_, fun _ _ _ _ => ?_⟩ <;> omega
      have P3 : own_p 2 (1 : Int32) (0 : Int32) t2 t3 i0 i1 i2 i3 3 0 := by unfold own_p; refine ⟨fun _ _ => ?_, fun _ _ => ?_, fun _ _ => ?_, fun _ _ => ?_, fun _ _ _ _ => ?_⟩ <;> omega
      exact g_return C X22 d4_34 ⟨rfl, N21, by rw [e22]; exact P21, FP.dadd d0 w1, FP.dadd d1 w0, d2, d3, i1, i0, 0, 0, D106, D105, (by rw [Int.add_zero]; exact D2), (by rw [Int.add_zero]; exact D3), P0, P1, P2, P3, by rw [e22]; exact Ad⟩ (by decide) (by decide)
    · exact absurd rfl hT.2.2.2.2.1
    · show Go p.tables e below _ T19 (mkF m 18 #[.val (.ref a), .val (.ref b), .val (.int (1 : Int32))] [(.int (2 : Int32)), (.ref b)])
      refine g_dup2 C X19 (pc' := 19) d4_18 rfl rfl rfl ?_
      refine g_daload C X19 (pc' := 20) e19 Ad (by decide) (by decide) 2 (by decide) rfl d4_19 rfl ?_
      refine g_aloadN C X19 (pc' := 21) d4_20 rfl rfl rfl ?_
      refine g_getF C X19 (host := "") (Or.inl (hw _ (List.mem_of_getElem? (i := 18) rfl))) Via.refl e19 F2 d4_21 rfl ?_
      intro T23 X23 e23
      refine g_iloadN C X23 (pc' := 25) d4_24 rfl rfl ?_
      refine g_daload C X23 (pc' := 26) e23 Aw (by decide) (by decide) 1 (by decide) rfl d4_25 rfl ?_
      have D107 : FP.Core.DInt (k2 + i1) (FP.dadd d2 w1) := dadd_D D2 W1 (by show _ ≤ 9007199254740992; omega)
      refine g_dadd C X23 (pc' := 27) d4_26 (nn_of_int D107) rfl ?_
      refine g_dastore C X23 (pc' := 28) e23 Ad (by decide) (by decide) 2 0 (by decide) (of_decide_eq_true rfl) d4_27 rfl ?_
      intro T24 h24 X24 e24 W24 Aq
      have F1 := F1.other W24 (Or.inl n_a)
      have F2 := F2.other W24 (Or.inl n_a)
      have At := At.other W24 n_ta
      have Aw := Aw.other W24 n_aw
      have Z24 : n0 ≤ h24.size := by rw [W24.size]; exact Z17
      have N24 := Fr.snoc X24 N17 z_b
      have P24 := P17.wr W24 (Or.inl (List.mem_of_getElem? (i := 0) rfl))
      have Ad : Arv Z h24 b kd .double (4 : Int32) [(.double d0), (.double (FP.dadd d1 w0)), (.double (FP.dadd d2 w1)), (.double d3)] (.double (0 : UInt64)) := Aq
      refine g_iinc C X24 (pc' := 31) d4_28 rfl (z := (2 : Int32)) (by decide) (l' := #[.val (.ref a), .val (.ref b), .val (.int (2 : Int32))]) rfl rfl ?_
      refine g_goto C X24 d4_31 (pc' := 2) (by decide) (by decide) ?_
      refine g_iloadN C X24 (pc' := 3) d4_2 rfl rfl ?_
      refine g_aloadN C X24 (pc' := 4) d4_3 rfl rfl rfl ?_
      refine g_getF C X24 (host := "") (Or.inl (hw _ (List.mem_of_getElem? (i := 16) rfl))) Via.refl e24 F1 d4_4 rfl ?_
      intro T25 X25 e25
      refine g_len C X25 (pc' := 8) e25 At d4_7 rfl ?_
      refine g_icmpY C X25 d4_8 (pc' := 34) (by decide) (by decide) (by decide) ?_
      have q0 := own_c0
      have q1 := own_c1
      have q2 := own_c2
      have q3 := own_c3
      have P0 : own_p 2 (1 : Int32) (2 : Int32) t2 t3 i0 i1 i2 i3 0 0 := by unfold own_p; refine ⟨fun _ _ => ?_, fun _ _ => ?_, fun _ _ => ?_, fun _ _ => ?_, fun _ _ _ _ => ?_⟩ <;> omega
      have P1 : own_p 2 (1 : Int32) (2 : Int32) t2 t3 i0 i1 i2 i3 1 i0 := by unfold own_p; refine ⟨fun _ _ => ?_, fun _ _ => ?_, fun _ _ => ?_, fun _ _ => ?_, fun _ _ _ _ => ?_⟩ <;> omega
      have P2 : own_p 2 (1 : Int32) (2 : Int32) t2 t3 i0 i1 i2 i3 2 i1 := by unfold own_p; refine ⟨fun _ _ => ?_, fun _ _ => ?_, fun _ _ => ?_, fun _ _ => ?_, fun _ _ _ _ => ?_⟩ <;> omega
      have P3 : own_p 2 (1 : Int32) (2 : Int32) t2 t3 i0 i1 i2 i3 3 0 := by unfold own_p; refine ⟨fun _ _ => ?_, fun _ _ => ?_, fun _ _ => ?_, fun _ _ => ?_, fun _ _ _ _ => ?_⟩ <;> omega
      exact g_return C X25 d4_34 ⟨rfl, N24, by rw [e25]; exact P24, d0, FP.dadd d1 w0, FP.dadd d2 w1, d3, 0, i0, i1, 0, (by rw [Int.add_zero]; exact D0), D105, D107, (by rw [Int.add_zero]; exact D3), P0, P1, P2, P3, by rw [e25]; exact Ad⟩ (by decide) (by decide)
    · show Go p.tables e below _ T19 (mkF m 18 #[.val (.ref a), .val (.ref b), .val (.int (1 : Int32))] [(.int (3 : Int32)), (.ref b)])
      refine g_dup2 C X19 (pc' := 19) d4_18 rfl rfl rfl ?_
      refine g_daload C X19 (pc' := 20) e19 Ad (by decide) (by decide) 3 (by decide) rfl d4_19 rfl ?_
      refine g_aloadN C X19 (pc' := 21) d4_20 rfl rfl rfl ?_
      refine g_getF C X19 (host := "") (Or.inl (hw _ (List.mem_of_getElem? (i := 18) rfl))) Via.refl e19 F2 d4_21 rfl ?_
      intro T26 X26 e26
      refine g_iloadN C X26 (pc' := 25) d4_24 rfl rfl ?_
      refine g_daload C X26 (pc' := 26) e26 Aw (by decide) (by decide) 1 (by decide) rfl d4_25 rfl ?_
      have D108 : FP.Core.DInt (k3 + i1) (FP.dadd d3 w1) := dadd_D D3 W1 (by show _ ≤ 9007199254740992; omega)
      refine g_dadd C X26 (pc' := 27) d4_26 (nn_of_int D108) rfl ?_
      refine g_dastore C X26 (pc' := 28) e26 Ad (by decide) (by decide) 3 0 (by decide) (of_decide_eq_true rfl) d4_27 rfl ?_
      intro T27 h27 X27 e27 W27 Aq
      have F1 := F1.other W27 (Or.inl n_a)
      have F2 := F2.other W27 (Or.inl n_a)
      have At := At.other W27 n_ta
      have Aw := Aw.other W27 n_aw
      have Z27 : n0 ≤ h27.size := by rw [W27.size]; exact Z17
      have N27 := Fr.snoc X27 N17 z_b
      have P27 := P17.wr W27 (Or.inl (List.mem_of_getElem? (i := 0) rfl))
      have Ad : Arv Z h27 b kd .double (4 : Int32) [(.double d0), (.double (FP.dadd d1 w0)), (.double d2), (.double (FP.dadd d3 w1))] (.double (0 : UInt64)) := Aq
      refine g_iinc C X27 (pc' := 31) d4_28 rfl (z := (2 : Int32)) (by decide) (l' := #[.val (.ref a), .val (.ref b), .val (.int (2 : Int32))]) rfl rfl ?_
      refine g_goto C X27 d4_31 (pc' := 2) (by decide) (by decide) ?_
      refine g_iloadN C X27 (pc' := 3) d4_2 rfl rfl ?_
      refine g_aloadN C X27 (pc' := 4) d4_3 rfl rfl rfl ?_
      refine g_getF C X27 (host := "") (Or.inl (hw _ (List.mem_of_getElem? (i := 16) rfl))) Via.refl e27 F1 d4_4 rfl ?_
      intro T28 X28 e28
      refine g_len C X28 (pc' := 8) e28 At d4_7 rfl ?_
      refine g_icmpY C X28 d4_8 (pc' := 34) (by decide) (by decide) (by decide) ?_
      have q0 := own_c0
      have q1 := own_c1
      have q2 := own_c2
      have q3 := own_c3
      have P0 : own_p 2 (1 : Int32) (3 : Int32) t2 t3 i0 i1 i2 i3 0 0 := by unfold own_p; refine ⟨fun _ _ => ?_, fun _ _ => ?_, fun _ _ => ?_, fun _ _ => ?_, fun _ _ _ _ => ?_⟩ <;> omega
      have P1 : own_p 2 (1 : Int32) (3 : Int32) t2 t3 i0 i1 i2 i3 1 i0 := by unfold own_p; refine ⟨fun _ _ => ?_, fun _ _ => ?_, fun _ _ => ?_, fun _ _ => ?_, fun _ _ _ _ => ?_⟩ <;> omega
      have P2 : own_p 2 (1 : Int32) (3 : Int32) t2 t3 i0 i1 i2 i3 2 0 := by unfold own_p; refine ⟨fun _ _ => ?_, fun _ _ => ?_, fun _ _ => ?_, fun _ _ => ?_, fun _ _ _ _ => ?_⟩ <;> omega
      have P3 : own_p 2 (1 : Int32) (3 : Int32) t2 t3 i0 i1 i2 i3 3 i1 := by unfold own_p; refine ⟨fun _ _ => ?_, fun _ _ => ?_, fun _ _ => ?_, fun _ _ => ?_, fun _ _ _ _ => ?_⟩ <;> omega
      exact g_return C X28 d4_34 ⟨rfl, N27, by rw [e28]; exact P27, d0, FP.dadd d1 w0, d2, FP.dadd d3 w1, 0, i0, 0, i1, (by rw [Int.add_zero]; exact D0), D105, (by rw [Int.add_zero]; exact D2), D108, P0, P1, P2, P3, by rw [e28]; exact Ad⟩ (by decide) (by decide)
  · show Go p.tables e below _ T2 (mkF m 18 #[.val (.ref a), .val (.ref b), .val (.int (0 : Int32))] [(.int (2 : Int32)), (.ref b)])
    refine g_dup2 C X2 (pc' := 19) d4_18 rfl rfl rfl ?_
    refine g_daload C X2 (pc' := 20) e2 Ad (by decide) (by decide) 2 (by decide) rfl d4_19 rfl ?_
    refine g_aloadN C X2 (pc' := 21) d4_20 rfl rfl rfl ?_
    refine g_getF C X2 (host := "") (Or.inl (hw _ (List.mem_of_getElem? (i := 18) rfl))) Via.refl e2 F2 d4_21 rfl ?_
    intro T29 X29 e29
    refine g_iloadN C X29 (pc' := 25) d4_24 rfl rfl ?_
    refine g_daload C X29 (pc' := 26) e29 Aw (by decide) (by decide) 0 (by decide) rfl d4_25 rfl ?_
    have D109 : FP.Core.DInt (k2 + i0) (FP.dadd d2 w0) := dadd_D D2 W0 (by show _ ≤ 9007199254740992; omega)
    refine g_dadd C X29 (pc' := 27) d4_26 (nn_of_int D109) rfl ?_
    refine g_dastore C X29 (pc' := 28) e29 Ad (by decide) (by decide) 2 0 (by decide) (of_decide_eq_true rfl) d4_27 rfl ?_
    intro T30 h30 X30 e30 W30 Aq
    have F1 := F1.other W30 (Or.inl n_a)
    have F2 := F2.other W30 (Or.inl n_a)
    have At := At.other W30 n_ta
    have Aw := Aw.other W30 n_aw
    have Z30 : n0 ≤ h30.size := by rw [W30.size]; exact Z0
    have N30 := Fr.snoc X30 (Fr.nil n0) z_b
    have P30 := (Keep.refl h [b]).wr W30 (Or.inl (List.mem_of_getElem? (i := 0) rfl))
    have Ad : Arv Z h30 b kd .double (4 : Int32) [(.double d0), (.double d1), (.double (FP.dadd d2 w0)), (.double d3)] (.double (0 : UInt64)) := Aq
    refine g_iinc C X30 (pc' := 31) d4_28 rfl (z := (1 : Int32)) (by decide) (l' := #[.val (.ref a), .val (.ref b), .val (.int (1 : Int32))]) rfl rfl ?_
    refine g_goto C X30 d4_31 (pc' := 2) (by decide) (by decide) ?_
    refine g_iloadN C X30 (pc' := 3) d4_2 rfl rfl ?_
    refine g_aloadN C X30 (pc' := 4) d4_3 rfl rfl rfl ?_
    refine g_getF C X30 (host := "") (Or.inl (hw _ (List.mem_of_getElem? (i := 16) rfl))) Via.refl e30 F1 d4_4 rfl ?_
    intro T31 X31 e31
    refine g_len C X31 (pc' := 8) e31 At d4_7 rfl ?_
    refine g_icmpN C X31 d4_8 (by decide) rfl ?_
    refine g_aloadN C X31 (pc' := 12) d4_11 rfl rfl rfl ?_
    refine g_aloadN C X31 (pc' := 13) d4_12 rfl rfl rfl ?_
    refine g_getF C X31 (host := "") (Or.inl (hw _ (List.mem_of_getElem? (i := 16) rfl))) Via.refl e31 F1 d4_13 rfl ?_
    intro T32 X32 e32
    refine g_iloadN C X32 (pc' := 17) d4_16 rfl rfl ?_
    refine g_iaload C X32 (pc' := 18) e32 At (by decide) (by decide) 1 (by decide) rfl d4_17 rfl ?_
    rcases own_one hT.2.1 with rfl | rfl | rfl | rfl
    · show Go p.tables e below _ T32 (mkF m 18 #[.val (.ref a), .val (.ref b), .val (.int (1 : Int32))] [(.int (0 : Int32)), (.ref b)])
      refine g_dup2 C X32 (pc' := 19) d4_18 rfl rfl rfl ?_
      refine g_daload C X32 (pc' := 20) e32 Ad (by decide) (by decide) 0 (by decide) rfl d4_19 rfl ?_
      refine g_aloadN C X32 (pc' := 21) d4_20 rfl rfl rfl ?_
      refine g_getF C X32 (host := "") (Or.inl (hw _ (List.mem_of_getElem? (i := 18) rfl))) Via.refl e32 F2 d4_21 rfl ?_
      intro T33 X33 e33
      refine g_iloadN C X33 (pc' := 25) d4_24 rfl rfl ?_
      refine g_daload C X33 (pc' := 26) e33 Aw (by decide) (by decide) 1 (by decide) rfl d4_25 rfl ?_
      have D110 : FP.Core.DInt (k0 + i1) (FP.dadd d0 w1) := dadd_D D0 W1 (by show _ ≤ 9007199254740992; omega)
      refine g_dadd C X33 (pc' := 27) d4_26 (nn_of_int D110) rfl ?_
      refine g_dastore C X33 (pc' := 28) e33 Ad (by decide) (by decide) 0 0 (by decide) (of_decide_eq_true rfl) d4_27 rfl ?_
      intro T34 h34 X34 e34 W34 Aq
      have F1 := F1.other W34 (Or.inl n_a)
      have F2 := F2.other W34 (Or.inl n_a)
      have At := At.other W34 n_ta
      have Aw := Aw.other W34 n_aw
      have Z34 : n0 ≤ h34.size := by rw [W34.size]; exact Z30
      have N34 := Fr.snoc X34 N30 z_b
      have P34 := P30.wr W34 (Or.inl (List.mem_of_getElem? (i := 0) rfl))
      have Ad : Arv Z h34 b kd .double (4 : Int32) [(.double (FP.dadd d0 w1)), (.double d1), (.double (FP.dadd d2 w0)), (.double d3)] (.double (0 : UInt64)) := Aq
      refine g_iinc C X34 (pc' := 31) d4_28 rfl (z := (2 : Int32)) (by decide) (l' := #[.val (.ref a), .val (.ref b), .val (.int (2 : Int32))]) rfl rfl ?_
      refine g_goto C X34 d4_31 (pc' := 2) (by decide) (by decide) ?_
      refine g_iloadN C X34 (pc' := 3) d4_2 rfl rfl ?_
      refine g_aloadN C X34 (pc' := 4) d4_3 rfl rfl rfl ?_
      refine g_getF C X34 (host := "") (Or.inl (hw _ (List.mem_of_getElem? (i := 16) rfl))) Via.refl e34 F1 d4_4 rfl ?_
      intro T35 X35 e35
      refine g_len C X35 (pc' := 8) e35 At d4_7 rfl ?_
      refine g_icmpY C X35 d4_8 (pc' := 34) (by decide) (by decide) (by decide) ?_
      have q0 := own_c0
      have q1 := own_c1
      have q2 := own_c2
      have q3 := own_c3
      have P0 : own_p 2 (2 : Int32) (0 : Int32) t2 t3 i0 i1 i2 i3 0 i1 := by unfold own_p; refine ⟨fun _ _ => ?_, fun _ _ => ?_, fun _ _ => ?_, fun _ _ => ?_, fun _ _ _ _ => ?_⟩ <;> omega
      have P1 : own_p 2 (2 : Int32) (0 : Int32) t2 t3 i0 i1 i2 i3 1 0 := by unfold own_p; refine ⟨fun _ _ => ?_, fun _ _ => ?_, fun _ _ => ?_, fun _ _ => ?_, fun _ _ _ _ => ?_⟩ <;> omega
      have P2 : own_p 2 (2 : Int32) (0 : Int32) t2 t3 i0 i1 i2 i3 2 i0 := by unfold own_p; refine ⟨fun _ _ => ?_, fun _ _ => ?_, fun _ _ => ?_, fun _ _ => ?_, fun _ _ _ _ => ?_⟩ <;> omega
      have P3 : own_p 2 (2 : Int32) (0 : Int32) t2 t3 i0 i1 i2 i3 3 0 := by unfold own_p; refine ⟨fun _ _ => ?_, fun _ _ => ?_, fun _ _ => ?_, fun _ _ => ?_, fun _ _ _ _ => ?_⟩ <;> omega
      exact g_return C X35 d4_34 ⟨rfl, N34, by rw [e35]; exact P34, FP.dadd d0 w1, d1, FP.dadd d2 w0, d3, i1, 0, i0, 0, D110, (by rw [Int.add_zero]; exact D1), D109, (by rw [Int.add_zero]; exact D3), P0, P1, P2, P3, by rw [e35]; exact Ad⟩ (by decide) (by decide)
    · show Go p.tables e below _ T32 (mkF m 18 #[.val (.ref a), .val (.ref b), .val (.int (1 : Int32))] [(.int (1 : Int32)), (.ref b)])
      refine g_dup2 C X32 (pc' := 19) d4_18 rfl rfl rfl ?_
      refine g_daload C X32 (pc' := 20) e32 Ad (by decide) (by decide) 1 (by decide) rfl d4_19 rfl ?_
      refine g_aloadN C X32 (pc' := 21) d4_20 rfl rfl rfl ?_
      refine g_getF C X32 (host := "") (Or.inl (hw _ (List.mem_of_getElem? (i := 18) rfl))) Via.refl e32 F2 d4_21 rfl ?_
      intro T36 X36 e36
      refine g_iloadN C X36 (pc' := 25) d4_24 rfl rfl ?_
      refine g_daload C X36 (pc' := 26) e36 Aw (by decide) (by decide) 1 (by decide) rfl d4_25 rfl ?_
      have D111 : FP.Core.DInt (k1 + i1) (FP.dadd d1 w1) := dadd_D D1 W1 (by show _ ≤ 9007199254740992; omega)
      refine g_dadd C X36 (pc' := 27) d4_26 (nn_of_int D111) rfl ?_
      refine g_dastore C X36 (pc' := 28) e36 Ad (by decide) (by decide) 1 0 (by decide) (of_decide_eq_true rfl) d4_27 rfl ?_
      intro T37 h37 X37 e37 W37 Aq
      have F1 := F1.other W37 (Or.inl n_a)
      have F2 := F2.other W37 (Or.inl n_a)
      have At := At.other W37 n_ta
      have Aw := Aw.other W37 n_aw
      have Z37 : n0 ≤ h37.size := by rw [W37.size]; exact Z30
      have N37 := Fr.snoc X37 N30 z_b
      have P37 := P30.wr W37 (Or.inl (List.mem_of_getElem? (i := 0) rfl))
      have Ad : Arv Z h37 b kd .double (4 : Int32) [(.double d0), (.double (FP.dadd d1 w1)), (.double (FP.dadd d2 w0)), (.double d3)] (.double (0 : UInt64)) := Aq
      refine g_iinc C X37 (pc' := 31) d4_28 rfl (z := (2 : Int32)) (by decide) (l' := #[.val (.ref a), .val (.ref b), .val (.int (2 : Int32))]) rfl rfl ?_
      refine g_goto C X37 d4_31 (pc' := 2) (by decide) (by decide) ?_
      refine g_iloadN C X37 (pc' := 3) d4_2 rfl rfl ?_
      refine g_aloadN C X37 (pc' := 4) d4_3 rfl rfl rfl ?_
      refine g_getF C X37 (host := "") (Or.inl (hw _ (List.mem_of_getElem? (i := 16) rfl))) Via.refl e37 F1 d4_4 rfl ?_
      intro T38 X38 e38
      refine g_len C X38 (pc' := 8) e38 At d4_7 rfl ?_
      refine g_icmpY C X38 d4_8 (pc' := 34) (by decide) (by decide) (by decide) ?_
      have q0 := own_c0
      have q1 := own_c1
      have q2 := own_c2
      have q3 := own_c3
      have P0 : own_p 2 (2 : Int32) (1 : Int32) t2 t3 i0 i1 i2 i3 0 0 := by unfold own_p; refine ⟨fun _ _ => ?_, fun _ _ => ?_, fun _ _ => ?_, fun _ _ => ?_, fun _ _ _ _ => ?_⟩ <;> omega
      have P1 : own_p 2 (2 : Int32) (1 : Int32) t2 t3 i0 i1 i2 i3 1 i1 := by unfold own_p; refine ⟨fun _ _ => ?_, fun _ _ => ?_, fun _ _ => ?_, fun _ _ => ?_, fun _ _ _ _ => ?_⟩ <;> omega
      have P2 : own_p 2 (2 : Int32) (1 : Int32) t2 t3 i0 i1 i2 i3 2 i0 := by unfold own_p; refine ⟨fun _ _ => ?_, fun _ _ => ?_, fun _ _ => ?_, fun _ _ => ?_, fun _ _ _ _ => ?_⟩ <;> omega
      have P3 : own_p 2 (2 : Int32) (1 : Int32) t2 t3 i0 i1 i2 i3 3 0 := by unfold own_p; refine ⟨fun _ _ => ?_, fun _ _ => ?_, fun _ _ => ?_, fun _ _ => ?_, fun _ _ _ _ => ?_⟩ <;> omega
      exact g_return C X38 d4_34 ⟨rfl, N37, by rw [e38]; exact P37, d0, FP.dadd d1 w1, FP.dadd d2 w0, d3, 0, i1, i0, 0, (by rw [Int.add_zero]; exact D0), D111, D109, (by rw [Int.add_zero]; exact D3), P0, P1, P2, P3, by rw [e38]; exact Ad⟩ (by decide) (by decide)
    · exact absurd rfl hT.2.2.2.2.1
    · show Go p.tables e below _ T32 (mkF m 18 #[.val (.ref a), .val (.ref b), .val (.int (1 : Int32))] [(.int (3 : Int32)), (.ref b)])
      refine g_dup2 C X32 (pc' := 19) d4_18 rfl rfl rfl ?_
      refine g_daload C X32 (pc' := 20) e32 Ad (by decide) (by decide) 3 (by decide) rfl d4_19 rfl ?_
      refine g_aloadN C X32 (pc' := 21) d4_20 rfl rfl rfl ?_
      refine g_getF C X32 (host := "") (Or.inl (hw _ (List.mem_of_getElem? (i := 18) rfl))) Via.refl e32 F2 d4_21 rfl ?_
      intro T39 X39 e39
      refine g_iloadN C X39 (pc' := 25) d4_24 rfl rfl ?_
      refine g_daload C X39 (pc' := 26) e39 Aw (by decide) (by decide) 1 (by decide) rfl d4_25 rfl ?_
      have D112 : FP.Core.DInt (k3 + i1) (FP.dadd d3 w1) := dadd_D D3 W1 (by show _ ≤ 9007199254740992; omega)
      refine g_dadd C X39 (pc' := 27) d4_26 (nn_of_int D112) rfl ?_
      refine g_dastore C X39 (pc' := 28) e39 Ad (by decide) (by decide) 3 0 (by decide) (of_decide_eq_true rfl) d4_27 rfl ?_
      intro T40 h40 X40 e40 W40 Aq
      have F1 := F1.other W40 (Or.inl n_a)
      have F2 := F2.other W40 (Or.inl n_a)
      have At := At.other W40 n_ta
      have Aw := Aw.other W40 n_aw
      have Z40 : n0 ≤ h40.size := by rw [W40.size]; exact Z30
      have N40 := Fr.snoc X40 N30 z_b
      have P40 := P30.wr W40 (Or.inl (List.mem_of_getElem? (i := 0) rfl))
      have Ad : Arv Z h40 b kd .double (4 : Int32) [(.double d0), (.double d1), (.double (FP.dadd d2 w0)), (.double (FP.dadd d3 w1))] (.double (0 : UInt64)) := Aq
      refine g_iinc C X40 (pc' := 31) d4_28 rfl (z := (2 : Int32)) (by decide) (l' := #[.val (.ref a), .val (.ref b), .val (.int (2 : Int32))]) rfl rfl ?_
      refine g_goto C X40 d4_31 (pc' := 2) (by decide) (by decide) ?_
      refine g_iloadN C X40 (pc' := 3) d4_2 rfl rfl ?_
      refine g_aloadN C X40 (pc' := 4) d4_3 rfl rfl rfl ?_
      refine g_getF C X40 (host := "") (Or.inl (hw _ (List.mem_of_getElem? (i := 16) rfl))) Via.refl e40 F1 d4_4 rfl ?_
      intro T41 X41 e41
      refine g_len C X41 (pc' := 8) e41 At d4_7 rfl ?_
      refine g_icmpY C X41 d4_8 (pc' := 34) (by decide) (by decide) (by decide) ?_
      have q0 := own_c0
      have q1 := own_c1
      have q2 := own_c2
      have q3 := own_c3
      have P0 : own_p 2 (2 : Int32) (3 : Int32) t2 t3 i0 i1 i2 i3 0 0 := by unfold own_p; refine ⟨fun _ _ => ?_, fun _ _ => ?_, fun _ _ => ?_, fun _ _ => ?_, fun _ _ _ _ => ?_⟩ <;> omega
      have P1 : own_p 2 (2 : Int32) (3 : Int32) t2 t3 i0 i1 i2 i3 1 0 := by unfold own_p; refine ⟨fun _ _ => ?_, fun _ _ => ?_, fun _ _ => ?_, fun _ _ => ?_, fun _ _ _ _ => ?_⟩ <;> omega
      have P2 : own_p 2 (2 : Int32) (3 : Int32) t2 t3 i0 i1 i2 i3 2 i0 := by unfold own_p; refine ⟨fun _ _ => ?_, fun _ _ => ?_, fun _ _ => ?_, fun _ _ => ?_, fun _ _ _ _ => ?_⟩ <;> omega
      have P3 : own_p 2 (2 : Int32) (3 : Int32) t2 t3 i0 i1 i2 i3 3 i1 := by unfold own_p; refine ⟨fun _ _ => ?_, fun _ _ => ?_, fun _ _ => ?_, fun _ _ => ?_, fun _ _ _ _ => ?_⟩ <;> omega
      exact g_return C X41 d4_34 ⟨rfl, N40, by rw [e41]; exact P40, d0, d1, FP.dadd d2 w0, FP.dadd d3 w1, 0, 0, i0, i1, (by rw [Int.add_zero]; exact D0), (by rw [Int.add_zero]; exact D1), D109, D112, P0, P1, P2, P3, by rw [e41]; exact Ad⟩ (by decide) (by decide)
  · show Go p.tables e below _ T2 (mkF m 18 #[.val (.ref a), .val (.ref b), .val (.int (0 : Int32))] [(.int (3 : Int32)), (.ref b)])
    refine g_dup2 C X2 (pc' := 19) d4_18 rfl rfl rfl ?_
    refine g_daload C X2 (pc' := 20) e2 Ad (by decide) (by decide) 3 (by decide) rfl d4_19 rfl ?_
    refine g_aloadN C X2 (pc' := 21) d4_20 rfl rfl rfl ?_
    refine g_getF C X2 (host := "") (Or.inl (hw _ (List.mem_of_getElem? (i := 18) rfl))) Via.refl e2 F2 d4_21 rfl ?_
    intro T42 X42 e42
    refine g_iloadN C X42 (pc' := 25) d4_24 rfl rfl ?_
    refine g_daload C X42 (pc' := 26) e42 Aw (by decide) (by decide) 0 (by decide) rfl d4_25 rfl ?_
    have D113 : FP.Core.DInt (k3 + i0) (FP.dadd d3 w0) := dadd_D D3 W0 (by show _ ≤ 9007199254740992; omega)
    refine g_dadd C X42 (pc' := 27) d4_26 (nn_of_int D113) rfl ?_
    refine g_dastore C X42 (pc' := 28) e42 Ad (by decide) (by decide) 3 0 (by decide) (of_decide_eq_true rfl) d4_27 rfl ?_
    intro T43 h43 X43 e43 W43 Aq
    have F1 := F1.other W43 (Or.inl n_a)
    have F2 := F2.other W43 (Or.inl n_a)
    have At := At.other W43 n_ta
    have Aw := Aw.other W43 n_aw
    have Z43 : n0 ≤ h43.size := by rw [W43.size]; exact Z0
    have N43 := Fr.snoc X43 (Fr.nil n0) z_b
    have P43 := (Keep.refl h [b]).wr W43 (Or.inl (List.mem_of_getElem? (i := 0) rfl))
    have Ad : Arv Z h43 b kd .double (4 : Int32) [(.double d0), (.double d1), (.double d2), (.double (FP.dadd d3 w0))] (.double (0 : UInt64)) := Aq
    refine g_iinc C X43 (pc' := 31) d4_28 rfl (z := (1 : Int32)) (by decide) (l' := #[.val (.ref a), .val (.ref b), .val (.int (1 : Int32))]) rfl rfl ?_
    refine g_goto C X43 d4_31 (pc' := 2) (by decide) (by decide) ?_
    refine g_iloadN C X43 (pc' := 3) d4_2 rfl rfl ?_
    refine g_aloadN C X43 (pc' := 4) d4_3 rfl rfl rfl ?_
    refine g_getF C X43 (host := "") (Or.inl (hw _ (List.mem_of_getElem? (i := 16) rfl))) Via.refl e43 F1 d4_4 rfl ?_
    intro T44 X44 e44
    refine g_len C X44 (pc' := 8) e44 At d4_7 rfl ?_
    refine g_icmpN C X44 d4_8 (by decide) rfl ?_
    refine g_aloadN C X44 (pc' := 12) d4_11 rfl rfl rfl ?_
    refine g_aloadN C X44 (pc' := 13) d4_12 rfl rfl rfl ?_
    refine g_getF C X44 (host := "") (Or.inl (hw _ (List.mem_of_getElem? (i := 16) rfl))) Via.refl e44 F1 d4_13 rfl ?_
    intro T45 X45 e45
    refine g_iloadN C X45 (pc' := 17) d4_16 rfl rfl ?_
    refine g_iaload C X45 (pc' := 18) e45 At (by decide) (by decide) 1 (by decide) rfl d4_17 rfl ?_
    rcases own_one hT.2.1 with rfl | rfl | rfl | rfl
    · show Go p.tables e below _ T45 (mkF m 18 #[.val (.ref a), .val (.ref b), .val (.int (1 : Int32))] [(.int (0 : Int32)), (.ref b)])
      refine g_dup2 C X45 (pc' := 19) d4_18 rfl rfl rfl ?_
      refine g_daload C X45 (pc' := 20) e45 Ad (by decide) (by decide) 0 (by decide) rfl d4_19 rfl ?_
      refine g_aloadN C X45 (pc' := 21) d4_20 rfl rfl rfl ?_
      refine g_getF C X45 (host := "") (Or.inl (hw _ (List.mem_of_getElem? (i := 18) rfl))) Via.refl e45 F2 d4_21 rfl ?_
      intro T46 X46 e46
      refine g_iloadN C X46 (pc' := 25) d4_24 rfl rfl ?_
      refine g_daload C X46 (pc' := 26) e46 Aw (by decide) (by decide) 1 (by decide) rfl d4_25 rfl ?_
      have D114 : FP.Core.DInt (k0 + i1) (FP.dadd d0 w1) := dadd_D D0 W1 (by show _ ≤ 9007199254740992; omega)
      refine g_dadd C X46 (pc' := 27) d4_26 (nn_of_int D114) rfl ?_
      refine g_dastore C X46 (pc' := 28) e46 Ad (by decide) (by decide) 0 0 (by decide) (of_decide_eq_true rfl) d4_27 rfl ?_
      intro T47 h47 X47 e47 W47 Aq
      have F1 := F1.other W47 (Or.inl n_a)
      have F2 := F2.other W47 (Or.inl n_a)
      have At := At.other W47 n_ta
      have Aw := Aw.other W47 n_aw
      have Z47 : n0 ≤ h47.size := by rw [W47.size]; exact Z43
      have N47 := Fr.snoc X47 N43 z_b
      have P47 := P43.wr W47 (Or.inl (List.mem_of_getElem? (i := 0) rfl))
      have Ad : Arv Z h47 b kd .double (4 : Int32) [(.double (FP.dadd d0 w1)), (.double d1), (.double d2), (.double (FP.dadd d3 w0))] (.double (0 : UInt64)) := Aq
      refine g_iinc C X47 (pc' := 31) d4_28 rfl (z := (2 : Int32)) (by decide) (l' := #[.val (.ref a), .val (.ref b), .val (.int (2 : Int32))]) rfl rfl ?_
      refine g_goto C X47 d4_31 (pc' := 2) (by decide) (by decide) ?_
      refine g_iloadN C X47 (pc' := 3) d4_2 rfl rfl ?_
      refine g_aloadN C X47 (pc' := 4) d4_3 rfl rfl rfl ?_
      refine g_getF C X47 (host := "") (Or.inl (hw _ (List.mem_of_getElem? (i := 16) rfl))) Via.refl e47 F1 d4_4 rfl ?_
      intro T48 X48 e48
      refine g_len C X48 (pc' := 8) e48 At d4_7 rfl ?_
      refine g_icmpY C X48 d4_8 (pc' := 34) (by decide) (by decide) (by decide) ?_
      have q0 := own_c0
      have q1 := own_c1
      have q2 := own_c2
      have q3 := own_c3
      have P0 : own_p 2 (3 : Int32) (0 : Int32) t2 t3 i0 i1 i2 i3 0 i1 := by unfold own_p; refine ⟨fun _ _ => ?_, fun _ _ => ?_, fun _ _ => ?_, fun _ _ => ?_, fun _ _ _ _ => ?_⟩ <;> omega
      have P1 : own_p 2 (3 : Int32) (0 : Int32) t2 t3 i0 i1 i2 i3 1 0 := by unfold own_p; refine ⟨fun _ _ => ?_, fun _ _ => ?_, fun _ _ => ?_, fun _ _ => ?_, fun _ _ _ _ => ?_⟩ <;> omega
      have P2 : own_p 2 (3 : Int32) (0 : Int32) t2 t3 i0 i1 i2 i3 2 0 := by unfold own_p; refine ⟨fun _ _ => ?_, fun _ _ => ?_, fun _ _ => ?_, fun _ _ => ?_, fun _ _ _ _ => ?_⟩ <;> omega
      have P3 : own_p 2 (3 : Int32) (0 : Int32) t2 t3 i0 i1 i2 i3 3 i0 := by unfold own_p; refine ⟨fun _ _ => ?_, fun _ _ => ?_, fun _ _ => ?_, fun _ _ => ?_, fun _ _ _ _ => ?_⟩ <;> omega
      exact g_return C X48 d4_34 ⟨rfl, N47, by rw [e48]; exact P47, FP.dadd d0 w1, d1, d2, FP.dadd d3 w0, i1, 0, 0, i0, D114, (by rw [Int.add_zero]; exact D1), (by rw [Int.add_zero]; exact D2), D113, P0, P1, P2, P3, by rw [e48]; exact Ad⟩ (by decide) (by decide)
    · show Go p.tables e below _ T45 (mkF m 18 #[.val (.ref a), .val (.ref b), .val (.int (1 : Int32))] [(.int (1 : Int32)), (.ref b)])
      refine g_dup2 C X45 (pc' := 19) d4_18 rfl rfl rfl ?_
      refine g_daload C X45 (pc' := 20) e45 Ad (by decide) (by decide) 1 (by decide) rfl d4_19 rfl ?_
      refine g_aloadN C X45 (pc' := 21) d4_20 rfl rfl rfl ?_
      refine g_getF C X45 (host := "") (Or.inl (hw _ (List.mem_of_getElem? (i := 18) rfl))) Via.refl e45 F2 d4_21 rfl ?_
      intro T49 X49 e49
      refine g_iloadN C X49 (pc' := 25) d4_24 rfl rfl ?_
      refine g_daload C X49 (pc' := 26) e49 Aw (by decide) (by decide) 1 (by decide) rfl d4_25 rfl ?_
      have D115 : FP.Core.DInt (k1 + i1) (FP.dadd d1 w1) := dadd_D D1 W1 (by show _ ≤ 9007199254740992; omega)
      refine g_dadd C X49 (pc' := 27) d4_26 (nn_of_int D115) rfl ?_
      refine g_dastore C X49 (pc' := 28) e49 Ad (by decide) (by decide) 1 0 (by decide) (of_decide_eq_true rfl) d4_27 rfl ?_
      intro T50 h50 X50 e50 W50 Aq
      have F1 := F1.other W50 (Or.inl n_a)
      have F2 := F2.other W50 (Or.inl n_a)
      have At := At.other W50 n_ta
      have Aw := Aw.other W50 n_aw
      have Z50 : n0 ≤ h50.size := by rw [W50.size]; exact Z43
      have N50 := Fr.snoc X50 N43 z_b
      have P50 := P43.wr W50 (Or.inl (List.mem_of_getElem? (i := 0) rfl))
      have Ad : Arv Z h50 b kd .double (4 : Int32) [(.double d0), (.double (FP.dadd d1 w1)), (.double d2), (.double (FP.dadd d3 w0))] (.double (0 : UInt64)) := Aq
      refine g_iinc C X50 (pc' := 31) d4_28 rfl (z := (2 : Int32)) (by decide) (l' := #[.val (.ref a), .val (.ref b), .val (.int (2 : Int32))]) rfl rfl ?_
      refine g_goto C X50 d4_31 (pc' := 2) (by decide) (by decide) ?_
      refine g_iloadN C X50 (pc' := 3) d4_2 rfl rfl ?_
      refine g_aloadN C X50 (pc' := 4) d4_3 rfl rfl rfl ?_
      refine g_getF C X50 (host := "") (Or.inl (hw _ (List.mem_of_getElem? (i := 16) rfl))) Via.refl e50 F1 d4_4 rfl ?_
      intro T51 X51 e51
      refine g_len C X51 (pc' := 8) e51 At d4_7 rfl ?_
      refine g_icmpY C X51 d4_8 (pc' := 34) (by decide) (by decide) (by decide) ?_
      have q0 := own_c0
      have q1 := own_c1
      have q2 := own_c2
      have q3 := own_c3
      have P0 : own_p 2 (3 : Int32) (1 : Int32) t2 t3 i0 i1 i2 i3 0 0 := by unfold own_p; refine ⟨fun _ _ => ?_, fun _ _ => ?_, fun _ _ => ?_, fun _ _ => ?_, fun _ _ _ _ => ?_⟩ <;> omega
      have P1 : own_p 2 (3 : Int32) (1 : Int32) t2 t3 i0 i1 i2 i3 1 i1 := by unfold own_p; refine ⟨fun _ _ => ?_, fun _ _ => ?_, fun _ _ => ?_, fun _ _ => ?_, fun _ _ _ _ => ?_⟩ <;> omega
      have P2 : own_p 2 (3 : Int32) (1 : Int32) t2 t3 i0 i1 i2 i3 2 0 := by unfold own_p; refine ⟨fun _ _ => ?_, fun _ _ => ?_, fun _ _ => ?_, fun _ _ => ?_, fun _ _ _ _ => ?_⟩ <;> omega
      have P3 : own_p 2 (3 : Int32) (1 : Int32) t2 t3 i0 i1 i2 i3 3 i0 := by unfold own_p; refine ⟨fun _ _ => ?_, fun _ _ => ?_, fun _ _ => ?_, fun _ _ => ?_, fun _ _ _ _ => ?_⟩ <;> omega
      exact g_return C X51 d4_34 ⟨rfl, N50, by rw [e51]; exact P50, d0, FP.dadd d1 w1, d2, FP.dadd d3 w0, 0, i1, 0, i0, (by rw [Int.add_zero]; exact D0), D115, (by rw [Int.add_zero]; exact D2), D113, P0, P1, P2, P3, by rw [e51]; exact Ad⟩ (by decide) (by decide)
    · show Go p.tables e below _ T45 (mkF m 18 #[.val (.ref a), .val (.ref b), .val (.int (1 : Int32))] [(.int (2 : Int32)), (.ref b)])
      refine g_dup2 C X45 (pc' := 19) d4_18 rfl rfl rfl ?_
      refine g_daload C X45 (pc' := 20) e45 Ad (by decide) (by decide) 2 (by decide) rfl d4_19 rfl ?_
      refine g_aloadN C X45 (pc' := 21) d4_20 rfl rfl rfl ?_
      refine g_getF C X45 (host := "") (Or.inl (hw _ (List.mem_of_getElem? (i := 18) rfl))) Via.refl e45 F2 d4_21 rfl ?_
      intro T52 X52 e52
      refine g_iloadN C X52 (pc' := 25) d4_24 rfl rfl ?_
      refine g_daload C X52 (pc' := 26) e52 Aw (by decide) (by decide) 1 (by decide) rfl d4_25 rfl ?_
      have D116 : FP.Core.DInt (k2 + i1) (FP.dadd d2 w1) := dadd_D D2 W1 (by show _ ≤ 9007199254740992; omega)
      refine g_dadd C X52 (pc' := 27) d4_26 (nn_of_int D116) rfl ?_
      refine g_dastore C X52 (pc' := 28) e52 Ad (by decide) (by decide) 2 0 (by decide) (of_decide_eq_true rfl) d4_27 rfl ?_
      intro T53 h53 X53 e53 W53 Aq
      have F1 := F1.other W53 (Or.inl n_a)
      have F2 := F2.other W53 (Or.inl n_a)
      have At := At.other W53 n_ta
      have Aw := Aw.other W53 n_aw
      have Z53 : n0 ≤ h53.size := by rw [W53.size]; exact Z43
      have N53 := Fr.snoc X53 N43 z_b
      have P53 := P43.wr W53 (Or.inl (List.mem_of_getElem? (i := 0) rfl))
      have Ad : Arv Z h53 b kd .double (4 : Int32) [(.double d0), (.double d1), (.double (FP.dadd d2 w1)), (.double (FP.dadd d3 w0))] (.double (0 : UInt64)) := Aq
      refine g_iinc C X53 (pc' := 31) d4_28 rfl (z := (2 : Int32)) (by decide) (l' := #[.val (.ref a), .val (.ref b), .val (.int (2 : Int32))]) rfl rfl ?_
      refine g_goto C X53 d4_31 (pc' := 2) (by decide) (by decide) ?_
      refine g_iloadN C X53 (pc' := 3) d4_2 rfl rfl ?_
      refine g_aloadN C X53 (pc' := 4) d4_3 rfl rfl rfl ?_
      refine g_getF C X53 (host := "") (Or.inl (hw _ (List.mem_of_getElem? (i := 16) rfl))) Via.refl e53 F1 d4_4 rfl ?_
      intro T54 X54 e54
      refine g_len C X54 (pc' := 8) e54 At d4_7 rfl ?_
      refine g_icmpY C X54 d4_8 (pc' := 34) (by decide) (by decide) (by decide) ?_
      have q0 := own_c0
      have q1 := own_c1
      have q2 := own_c2
      have q3 := own_c3
      have P0 : own_p 2 (3 : Int32) (2 : Int32) t2 t3 i0 i1 i2 i3 0 0 := by unfold own_p; refine ⟨fun _ _ => ?_, fun _ _ => ?_, fun _ _ => ?_, fun _ _ => ?_, fun _ _ _ _ => ?_⟩ <;> omega
      have P1 : own_p 2 (3 : Int32) (2 : Int32) t2 t3 i0 i1 i2 i3 1 0 := by unfold own_p; refine ⟨fun _ _ => ?_, fun _ _ => ?_, fun _ _ => ?_, fun _ _ => ?_, fun _ _ _ _ => ?_⟩ <;> omega
      have P2 : own_p 2 (3 : Int32) (2 : Int32) t2 t3 i0 i1 i2 i3 2 i1 := by unfold own_p; refine ⟨fun _ _ => ?_, fun _ _ => ?_, fun _ _ => ?_, fun _ _ => ?_, fun _ _ _ _ => ?_⟩ <;> omega
      have P3 : own_p 2 (3 : Int32) (2 : Int32) t2 t3 i0 i1 i2 i3 3 i0 := by unfold own_p; refine ⟨fun _ _ => ?_, fun _ _ => ?_, fun _ _ => ?_, fun _ _ => ?_, fun _ _ _ _ => ?_⟩ <;> omega
      exact g_return C X54 d4_34 ⟨rfl, N53, by rw [e54]; exact P53, d0, d1, FP.dadd d2 w1, FP.dadd d3 w0, 0, 0, i1, i0, (by rw [Int.add_zero]; exact D0), (by rw [Int.add_zero]; exact D1), D116, D113, P0, P1, P2, P3, by rw [e54]; exact Ad⟩ (by decide) (by decide)
    · exact absurd rfl hT.2.2.2.2.1
set_option maxRecDepth 65536 in
set_option maxHeartbeats 40000000 in
theorem c_exp2 (l : Launch) (Z : State) (a0 : Array Value) (hw : ∀ d ∈ tables_1, d.before a0 Z = true) (h : Heap) (ta aw b : Addr) (kt kw kd : ClassId) (t0 t1 t2 t3 : Int32) (i0 i1 i2 i3 : Int) (hT : own_four t0 t1 t2 t3) (w0 : UInt64) (W0 : FP.Core.DInt i0 w0) (R0 : -2147483648 ≤ i0 ∧ i0 < 2147483648) (w1 : UInt64) (W1 : FP.Core.DInt i1 w1) (R1 : -2147483648 ≤ i1 ∧ i1 < 2147483648) (w2 : UInt64) (W2 : FP.Core.DInt i2 w2) (R2 : -2147483648 ≤ i2 ∧ i2 < 2147483648) (w3 : UInt64) (W3 : FP.Core.DInt i3 w3) (R3 : -2147483648 ≤ i3 ∧ i3 < 2147483648) (d0 d1 d2 d3 : UInt64) (j : Int32) (hj : 0 ≤ j.toInt ∧ j.toInt < 4) (y : UInt64) (k : Int) (Dy : FP.Core.DInt k y) (S : -2147483648 ≤ k ∧ k < 2147483648) (hg : [Value.double d0, .double d1, .double d2, .double d3].getD j.toNatClampNeg (Value.double (0 : UInt64)) = Value.double y) (At : Arv Z h ta kt .int (4 : Int32) [.int t0, .int t1, .int t2, .int t3] (.int (0 : Int32))) (Aw : Arv Z h aw kw .double (4 : Int32) [.double w0, .double w1, .double w2, .double w3] (.double (0 : UInt64))) (Ad : Arv Z h b kd .double (4 : Int32) [.double d0, .double d1, .double d2, .double d3] (.double (0 : UInt64))) :
    Con l Z (⟨"com/example/kenning/kenning/retrieval/VectorAddToPinLaw", "expected", "(II[I[D[D)D"⟩ : MethodName) method_3_code 7 (some .double) ⟨0, 0, 0, 0⟩ #[.int j, .int (2 : Int32), .ref ta, .ref aw, .ref b] h (fun v h' L => ∃ r A, v = some (.double r) ∧ FP.Core.DInt (k + A) r ∧ own_p 2 t0 t1 t2 t3 i0 i1 i2 i3 j.toInt A ∧ L = [] ∧ h' = h) := by
  refine con_of_go pnE (fun m => efE m j _ ta aw b) ?_
  intro p e s m below meth c T0 C X0 e0
  refine g_dconst0 C X0 (pc' := 1) d5_0 rfl rfl ?_
  refine g_dstore C X0 (pc' := 3) d5_1 (x := FP.dconst0) rfl (l' := #[.val (.int j), .val (.int (2 : Int32)), .val (.ref ta), .val (.ref aw), .val (.ref b), .val (.double FP.dconst0), .second]) rfl rfl ?_
  refine g_iloadN C X0 (pc' := 4) d5_3 rfl rfl ?_
  refine g_ifN C X0 d5_4 (by decide) rfl ?_
  refine g_aloadN C X0 (pc' := 8) d5_7 rfl rfl rfl ?_
  refine g_iconst C X0 (pc' := 9) d5_8 (v := (0 : Int32)) (by decide) rfl ?_
  refine g_iaload C X0 (pc' := 10) e0 At (by decide) (by decide) 0 (by decide) rfl d5_9 rfl ?_
  refine g_iloadN C X0 (pc' := 11) d5_10 rfl rfl ?_
  refine g_icmp C X0 d5_11 (pc' := 19) (pc'' := 14) (by decide) (by decide) rfl (fun c11 => ?_) (fun c11 => ?_)
  · have c11 : ¬ (t0.toInt = j.toInt) := c11
    refine g_iloadN C X0 (pc' := 20) d5_19 rfl rfl ?_
    refine g_iconst C X0 (pc' := 21) d5_20 (v := (1 : Int32)) (by decide) rfl ?_
    refine g_icmpN C X0 d5_21 (by decide) rfl ?_
    refine g_aloadN C X0 (pc' := 25) d5_24 rfl rfl rfl ?_
    refine g_iconst C X0 (pc' := 26) d5_25 (v := (1 : Int32)) (by decide) rfl ?_
    refine g_iaload C X0 (pc' := 27) e0 At (by decide) (by decide) 1 (by decide) rfl d5_26 rfl ?_
    refine g_iloadN C X0 (pc' := 28) d5_27 rfl rfl ?_
    refine g_icmp C X0 d5_28 (pc' := 36) (pc'' := 31) (by decide) (by decide) rfl (fun c28 => ?_) (fun c28 => ?_)
    · have c28 : ¬ (t1.toInt = j.toInt) := c28
      refine g_iloadN C X0 (pc' := 37) d5_36 rfl rfl ?_
      refine g_iconst C X0 (pc' := 38) d5_37 (v := (2 : Int32)) (by decide) rfl ?_
      refine g_icmpY C X0 d5_38 (pc' := 53) (by decide) (by decide) (by decide) ?_
      refine g_iloadN C X0 (pc' := 54) d5_53 rfl rfl ?_
      refine g_iconst C X0 (pc' := 55) d5_54 (v := (3 : Int32)) (by decide) rfl ?_
      refine g_icmpY C X0 d5_55 (pc' := 70) (by decide) (by decide) (by decide) ?_
      refine g_aload C X0 (pc' := 72) d5_70 rfl rfl rfl ?_
      refine g_iloadN C X0 (pc' := 73) d5_72 rfl rfl ?_
      refine g_daload C X0 (pc' := 74) e0 Ad hj.1 hj.2 j.toNatClampNeg rfl hg d5_73 rfl ?_
      refine g_dload C X0 (pc' := 76) d5_74 rfl rfl ?_
      have D101 : FP.Core.DInt (k + 0) (FP.dadd y FP.dconst0) := dadd_D Dy dint_zero (by show _ ≤ 9007199254740992; omega)
      refine g_dadd C X0 (pc' := 77) d5_76 (nn_of_int D101) rfl ?_
      have P : own_p 2 t0 t1 t2 t3 i0 i1 i2 i3 j.toInt 0 := by unfold own_p; unfold own_four at hT; refine ⟨fun _ _ => ?_, fun _ _ => ?_, fun _ _ => ?_, fun _ _ => ?_, fun _ _ _ _ => ?_⟩ <;> omega
      exact g_dreturn C X0 d5_77 ⟨_, 0, rfl, D101, P, rfl, e0⟩ (by decide) (by decide)
    · have c28 : t1.toInt = j.toInt := Decidable.not_not.mp c28
      refine g_aloadN C X0 (pc' := 32) d5_31 rfl rfl rfl ?_
      refine g_iconst C X0 (pc' := 33) d5_32 (v := (1 : Int32)) (by decide) rfl ?_
      refine g_daload C X0 (pc' := 34) e0 Aw (by decide) (by decide) 1 (by decide) rfl d5_33 rfl ?_
      refine g_dstore C X0 (pc' := 36) d5_34 (x := w1) rfl (l' := #[.val (.int j), .val (.int (2 : Int32)), .val (.ref ta), .val (.ref aw), .val (.ref b), .val (.double w1), .second]) rfl rfl ?_
      refine g_iloadN C X0 (pc' := 37) d5_36 rfl rfl ?_
      refine g_iconst C X0 (pc' := 38) d5_37 (v := (2 : Int32)) (by decide) rfl ?_
      refine g_icmpY C X0 d5_38 (pc' := 53) (by decide) (by decide) (by decide) ?_
      refine g_iloadN C X0 (pc' := 54) d5_53 rfl rfl ?_
      refine g_iconst C X0 (pc' := 55) d5_54 (v := (3 : Int32)) (by decide) rfl ?_
      refine g_icmpY C X0 d5_55 (pc' := 70) (by decide) (by decide) (by decide) ?_
      refine g_aload C X0 (pc' := 72) d5_70 rfl rfl rfl ?_
      refine g_iloadN C X0 (pc' := 73) d5_72 rfl rfl ?_
      refine g_daload C X0 (pc' := 74) e0 Ad hj.1 hj.2 j.toNatClampNeg rfl hg d5_73 rfl ?_
      refine g_dload C X0 (pc' := 76) d5_74 rfl rfl ?_
      have D102 : FP.Core.DInt (k + i1) (FP.dadd y w1) := dadd_D Dy W1 (by show _ ≤ 9007199254740992; omega)
      refine g_dadd C X0 (pc' := 77) d5_76 (nn_of_int D102) rfl ?_
      have P : own_p 2 t0 t1 t2 t3 i0 i1 i2 i3 j.toInt i1 := by unfold own_p; unfold own_four at hT; refine ⟨fun _ _ => ?_, fun _ _ => ?_, fun _ _ => ?_, fun _ _ => ?_, fun _ _ _ _ => ?_⟩ <;> omega
      exact g_dreturn C X0 d5_77 ⟨_, i1, rfl, D102, P, rfl, e0⟩ (by decide) (by decide)
  · have c11 : t0.toInt = j.toInt := Decidable.not_not.mp c11
    refine g_aloadN C X0 (pc' := 15) d5_14 rfl rfl rfl ?_
    refine g_iconst C X0 (pc' := 16) d5_15 (v := (0 : Int32)) (by decide) rfl ?_
    refine g_daload C X0 (pc' := 17) e0 Aw (by decide) (by decide) 0 (by decide) rfl d5_16 rfl ?_
    refine g_dstore C X0 (pc' := 19) d5_17 (x := w0) rfl (l' := #[.val (.int j), .val (.int (2 : Int32)), .val (.ref ta), .val (.ref aw), .val (.ref b), .val (.double w0), .second]) rfl rfl ?_
    refine g_iloadN C X0 (pc' := 20) d5_19 rfl rfl ?_
    refine g_iconst C X0 (pc' := 21) d5_20 (v := (1 : Int32)) (by decide) rfl ?_
    refine g_icmpN C X0 d5_21 (by decide) rfl ?_
    refine g_aloadN C X0 (pc' := 25) d5_24 rfl rfl rfl ?_
    refine g_iconst C X0 (pc' := 26) d5_25 (v := (1 : Int32)) (by decide) rfl ?_
    refine g_iaload C X0 (pc' := 27) e0 At (by decide) (by decide) 1 (by decide) rfl d5_26 rfl ?_
    refine g_iloadN C X0 (pc' := 28) d5_27 rfl rfl ?_
    refine g_icmp C X0 d5_28 (pc' := 36) (pc'' := 31) (by decide) (by decide) rfl (fun c28 => ?_) (fun c28 => ?_)
    · have c28 : ¬ (t1.toInt = j.toInt) := c28
      refine g_iloadN C X0 (pc' := 37) d5_36 rfl rfl ?_
      refine g_iconst C X0 (pc' := 38) d5_37 (v := (2 : Int32)) (by decide) rfl ?_
      refine g_icmpY C X0 d5_38 (pc' := 53) (by decide) (by decide) (by decide) ?_
      refine g_iloadN C X0 (pc' := 54) d5_53 rfl rfl ?_
      refine g_iconst C X0 (pc' := 55) d5_54 (v := (3 : Int32)) (by decide) rfl ?_
      refine g_icmpY C X0 d5_55 (pc' := 70) (by decide) (by decide) (by decide) ?_
      refine g_aload C X0 (pc' := 72) d5_70 rfl rfl rfl ?_
      refine g_iloadN C X0 (pc' := 73) d5_72 rfl rfl ?_
      refine g_daload C X0 (pc' := 74) e0 Ad hj.1 hj.2 j.toNatClampNeg rfl hg d5_73 rfl ?_
      refine g_dload C X0 (pc' := 76) d5_74 rfl rfl ?_
      have D103 : FP.Core.DInt (k + i0) (FP.dadd y w0) := dadd_D Dy W0 (by show _ ≤ 9007199254740992; omega)
      refine g_dadd C X0 (pc' := 77) d5_76 (nn_of_int D103) rfl ?_
      have P : own_p 2 t0 t1 t2 t3 i0 i1 i2 i3 j.toInt i0 := by unfold own_p; unfold own_four at hT; refine ⟨fun _ _ => ?_, fun _ _ => ?_, fun _ _ => ?_, fun _ _ => ?_, fun _ _ _ _ => ?_⟩ <;> omega
      exact g_dreturn C X0 d5_77 ⟨_, i0, rfl, D103, P, rfl, e0⟩ (by decide) (by decide)
    · have c28 : t1.toInt = j.toInt := Decidable.not_not.mp c28
      refine g_aloadN C X0 (pc' := 32) d5_31 rfl rfl rfl ?_
      refine g_iconst C X0 (pc' := 33) d5_32 (v := (1 : Int32)) (by decide) rfl ?_
      refine g_daload C X0 (pc' := 34) e0 Aw (by decide) (by decide) 1 (by decide) rfl d5_33 rfl ?_
      refine g_dstore C X0 (pc' := 36) d5_34 (x := w1) rfl (l' := #[.val (.int j), .val (.int (2 : Int32)), .val (.ref ta), .val (.ref aw), .val (.ref b), .val (.double w1), .second]) rfl rfl ?_
      refine g_iloadN C X0 (pc' := 37) d5_36 rfl rfl ?_
      refine g_iconst C X0 (pc' := 38) d5_37 (v := (2 : Int32)) (by decide) rfl ?_
      refine g_icmpY C X0 d5_38 (pc' := 53) (by decide) (by decide) (by decide) ?_
      refine g_iloadN C X0 (pc' := 54) d5_53 rfl rfl ?_
      refine g_iconst C X0 (pc' := 55) d5_54 (v := (3 : Int32)) (by decide) rfl ?_
      refine g_icmpY C X0 d5_55 (pc' := 70) (by decide) (by decide) (by decide) ?_
      refine g_aload C X0 (pc' := 72) d5_70 rfl rfl rfl ?_
      refine g_iloadN C X0 (pc' := 73) d5_72 rfl rfl ?_
      refine g_daload C X0 (pc' := 74) e0 Ad hj.1 hj.2 j.toNatClampNeg rfl hg d5_73 rfl ?_
      refine g_dload C X0 (pc' := 76) d5_74 rfl rfl ?_
      have D104 : FP.Core.DInt (k + i1) (FP.dadd y w1) := dadd_D Dy W1 (by show _ ≤ 9007199254740992; omega)
      refine g_dadd C X0 (pc' := 77) d5_76 (nn_of_int D104) rfl ?_
      have P : own_p 2 t0 t1 t2 t3 i0 i1 i2 i3 j.toInt i1 := by unfold own_p; unfold own_four at hT; refine ⟨fun _ _ => ?_, fun _ _ => ?_, fun _ _ => ?_, fun _ _ => ?_, fun _ _ _ _ => ?_⟩ <;> omega
      exact g_dreturn C X0 d5_77 ⟨_, i1, rfl, D104, P, rfl, e0⟩ (by decide) (by decide)
set_option maxRecDepth 65536 in
set_option maxHeartbeats 40000000 in
theorem c_add3 (l : Launch) (Z : State) (a0 : Array Value) (hw : ∀ d ∈ tables_1, d.before a0 Z = true) (h : Heap) (n0 : Nat) (Z0 : n0 ≤ h.size) (a b ta aw : Addr) (z_b : n0 ≤ b) (n_a : a ≠ b) (n_ta : ta ≠ b) (n_aw : aw ≠ b) (kt kw kd : ClassId) (t0 t1 t2 t3 : Int32) (i0 i1 i2 i3 : Int) (hT : own_four t0 t1 t2 t3) (w0 : UInt64) (W0 : FP.Core.DInt i0 w0) (R0 : -2147483648 ≤ i0 ∧ i0 < 2147483648) (w1 : UInt64) (W1 : FP.Core.DInt i1 w1) (R1 : -2147483648 ≤ i1 ∧ i1 < 2147483648) (w2 : UInt64) (W2 : FP.Core.DInt i2 w2) (R2 : -2147483648 ≤ i2 ∧ i2 < 2147483648) (d0 : UInt64) (k0 : Int) (D0 : FP.Core.DInt k0 d0) (S0 : -2147483648 ≤ k0 ∧ k0 < 2147483648) (d1 : UInt64) (k1 : Int) (D1 : FP.Core.DInt k1 d1) (S1 : -2147483648 ≤ k1 ∧ k1 < 2147483648) (d2 : UInt64) (k2 : Int) (D2 : FP.Core.DInt k2 d2) (S2 : -2147483648 ≤ k2 ∧ k2 < 2147483648) (d3 : UInt64) (k3 : Int) (D3 : FP.Core.DInt k3 d3) (S3 : -2147483648 ≤ k3 ∧ k3 < 2147483648) (F1 : Fld Z h a "com/example/kenning/kenning/retrieval/KMeans$Vector" "terms" "[I" (.ref ta)) (F2 : Fld Z h a "com/example/kenning/kenning/retrieval/KMeans$Vector" "weights" "[D" (.ref aw)) (At : Arv Z h ta kt .int (3 : Int32) [.int t0, .int t1, .int t2] (.int (0 : Int32))) (Aw : Arv Z h aw kw .double (3 : Int32) [.double w0, .double w1, .double w2] (.double (0 : UInt64))) (Ad : Arv Z h b kd .double (4 : Int32) [.double d0, .double d1, .double d2, .double d3] (.double (0 : UInt64))) :
    Con l Z (⟨"com/example/kenning/kenning/retrieval/KMeans$Vector", "addTo", "([D)V"⟩ : MethodName) prog_50_method_4_code 3 none ⟨0, 0, 0, 0⟩ #[.ref a, .ref b] h (fun v h' L => v = none ∧ Fr n0 L ∧ Keep h h' [b] ∧ ∃ (z0 z1 z2 z3 : UInt64) (b0 b1 b2 b3 : Int), FP.Core.DInt (k0 + b0) z0 ∧ FP.Core.DInt (k1 + b1) z1 ∧ FP.Core.DInt (k2 + b2) z2 ∧ FP.Core.DInt (k3 + b3) z3 ∧ own_p 3 t0 t1 t2 t3 i0 i1 i2 i3 0 b0 ∧ own_p 3 t0 t1 t2 t3 i0 i1 i2 i3 1 b1 ∧ own_p 3 t0 t1 t2 t3 i0 i1 i2 i3 2 b2 ∧ own_p 3 t0 t1 t2 t3 i0 i1 i2 i3 3 b3 ∧ Arv Z h' b kd .double (4 : Int32) [.double z0, .double z1, .double z2, .double z3] (.double (0 : UInt64))) := by
  refine con_of_go pnV (fun m => efD m a b) ?_
  intro p e s m below meth c T0 C X0 e0
  refine g_iconst C X0 (pc' := 1) d4_0 (v := (0 : Int32)) (by decide) rfl ?_
  refine g_istoreN C X0 (pc' := 2) d4_1 (x := (0 : Int32)) rfl (l' := #[.val (.ref a), .val (.ref b), .val (.int (0 : Int32))]) rfl rfl ?_
  refine g_iloadN C X0 (pc' := 3) d4_2 rfl rfl ?_
  refine g_aloadN C X0 (pc' := 4) d4_3 rfl rfl rfl ?_
  refine g_getF C X0 (host := "") (Or.inl (hw _ (List.mem_of_getElem? (i := 16) rfl))) Via.refl e0 F1 d4_4 rfl ?_
  intro T1 X1 e1
  refine g_len C X1 (pc' := 8) e1 At d4_7 rfl ?_
  refine g_icmpN C X1 d4_8 (by decide) rfl ?_
  refine g_aloadN C X1 (pc' := 12) d4_11 rfl rfl rfl ?_
  refine g_aloadN C X1 (pc' := 13) d4_12 rfl rfl rfl ?_
  refine g_getF C X1 (host := "") (Or.inl (hw _ (List.mem_of_getElem? (i := 16) rfl))) Via.refl e1 F1 d4_13 rfl ?_
  intro T2 X2 e2
  refine g_iloadN C X2 (pc' := 17) d4_16 rfl rfl ?_
  refine g_iaload C X2 (pc' := 18) e2 At (by decide) (by decide) 0 (by decide) rfl d4_17 rfl ?_
  rcases own_one hT.1 with rfl | rfl | rfl | rfl
  · show Go p.tables e below _ T2 (mkF m 18 #[.val (.ref a), .val (.ref b), .val (.int (0 : Int32))] [(.int (0 : Int32)), (.ref b)])
    refine g_dup2 C X2 (pc' := 19) d4_18 rfl rfl rfl ?_
    refine g_daload C X2 (pc' := 20) e2 Ad (by decide) (by decide) 0 (by decide) rfl d4_19 rfl ?_
    refine g_aloadN C X2 (pc' := 21) d4_20 rfl rfl rfl ?_
    refine g_getF C X2 (host := "") (Or.inl (hw _ (List.mem_of_getElem? (i := 18) rfl))) Via.refl e2 F2 d4_21 rfl ?_
    intro T3 X3 e3
    refine g_iloadN C X3 (pc' := 25) d4_24 rfl rfl ?_
    refine g_daload C X3 (pc' := 26) e3 Aw (by decide) (by decide) 0 (by decide) rfl d4_25 rfl ?_
    have D101 : FP.Core.DInt (k0 + i0) (FP.dadd d0 w0) := dadd_D D0 W0 (by show _ ≤ 9007199254740992; omega)
    refine g_dadd C X3 (pc' := 27) d4_26 (nn_of_int D101) rfl ?_
    refine g_dastore C X3 (pc' := 28) e3 Ad (by decide) (by decide) 0 0 (by decide) (of_decide_eq_true rfl) d4_27 rfl ?_
    intro T4 h4 X4 e4 W4 Aq
    have F1 := F1.other W4 (Or.inl n_a)
    have F2 := F2.other W4 (Or.inl n_a)
    have At := At.other W4 n_ta
    have Aw := Aw.other W4 n_aw
    have Z4 : n0 ≤ h4.size := by rw [W4.size]; exact Z0
    have N4 := Fr.snoc X4 (Fr.nil n0) z_b
    have P4 := (Keep.refl h [b]).wr W4 (Or.inl (List.mem_of_getElem? (i := 0) rfl))
    have Ad : Arv Z h4 b kd .double (4 : Int32) [(.double (FP.dadd d0 w0)), (.double d1), (.double d2), (.double d3)] (.double (0 : UInt64)) := Aq
    refine g_iinc C X4 (pc' := 31) d4_28 rfl (z := (1 : Int32)) (by decide) (l' := #[.val (.ref a), .val (.ref b), .val (.int (1 : Int32))]) rfl rfl ?_
    refine g_goto C X4 d4_31 (pc' := 2) (by decide) (by decide) ?_
    refine g_iloadN C X4 (pc' := 3) d4_2 rfl rfl ?_
    refine g_aloadN C X4 (pc' := 4) d4_3 rfl rfl rfl ?_
    refine g_getF C X4 (host := "") (Or.inl (hw _ (List.mem_of_getElem? (i := 16) rfl))) Via.refl e4 F1 d4_4 rfl ?_
    intro T5 X5 e5
    refine g_len C X5 (pc' := 8) e5 At d4_7 rfl ?_
    refine g_icmpN C X5 d4_8 (by decide) rfl ?_
    refine g_aloadN C X5 (pc' := 12) d4_11 rfl rfl rfl ?_
    refine g_aloadN C X5 (pc' := 13) d4_12 rfl rfl rfl ?_
    refine g_getF C X5 (host := "") (Or.inl (hw _ (List.mem_of_getElem? (i := 16) rfl))) Via.refl e5 F1 d4_13 rfl ?_
    intro T6 X6 e6
    refine g_iloadN C X6 (pc' := 17) d4_16 rfl rfl ?_
    refine g_iaload C X6 (pc' := 18) e6 At (by decide) (by decide) 1 (by decide) rfl d4_17 rfl ?_
    rcases own_one hT.2.1 with rfl | rfl | rfl | rfl
    · exact absurd rfl hT.2.2.2.2.1
    · show Go p.tables e below _ T6 (mkF m 18 #[.val (.ref a), .val (.ref b), .val (.int (1 : Int32))] [(.int (1 : Int32)), (.ref b)])
      refine g_dup2 C X6 (pc' := 19) d4_18 rfl rfl rfl ?_
      refine g_daload C X6 (pc' := 20) e6 Ad (by decide) (by decide) 1 (by decide) rfl d4_19 rfl ?_
      refine g_aloadN C X6 (pc' := 21) d4_20 rfl rfl rfl ?_
      refine g_getF C X6 (host := "") (Or.inl (hw _ (List.mem_of_getElem? (i := 18) rfl))) Via.refl e6 F2 d4_21 rfl ?_
      intro T7 X7 e7
      refine g_iloadN C X7 (pc' := 25) d4_24 rfl rfl ?_
      refine g_daload C X7 (pc' := 26) e7 Aw (by decide) (by decide) 1 (by decide) rfl d4_25 rfl ?_
      have D102 : FP.Core.DInt (k1 + i1) (FP.dadd d1 w1) := dadd_D D1 W1 (by show _ ≤ 9007199254740992; omega)
      refine g_dadd C X7 (pc' := 27) d4_26 (nn_of_int D102) rfl ?_
      refine g_dastore C X7 (pc' := 28) e7 Ad (by decide) (by decide) 1 0 (by decide) (of_decide_eq_true rfl) d4_27 rfl ?_
      intro T8 h8 X8 e8 W8 Aq
      have F1 := F1.other W8 (Or.inl n_a)
      have F2 := F2.other W8 (Or.inl n_a)
      have At := At.other W8 n_ta
      have Aw := Aw.other W8 n_aw
      have Z8 : n0 ≤ h8.size := by rw [W8.size]; exact Z4
      have N8 := Fr.snoc X8 N4 z_b
      have P8 := P4.wr W8 (Or.inl (List.mem_of_getElem? (i := 0) rfl))
      have Ad : Arv Z h8 b kd .double (4 : Int32) [(.double (FP.dadd d0 w0)), (.double (FP.dadd d1 w1)), (.double d2), (.double d3)] (.double (0 : UInt64)) := Aq
      refine g_iinc C X8 (pc' := 31) d4_28 rfl (z := (2 : Int32)) (by decide) (l' := #[.val (.ref a), .val (.ref b), .val (.int (2 : Int32))]) rfl rfl ?_
      refine g_goto C X8 d4_31 (pc' := 2) (by decide) (by decide) ?_
      refine g_iloadN C X8 (pc' := 3) d4_2 rfl rfl ?_
      refine g_aloadN C X8 (pc' := 4) d4_3 rfl rfl rfl ?_
      refine g_getF C X8 (host := "") (Or.inl (hw _ (List.mem_of_getElem? (i := 16) rfl))) Via.refl e8 F1 d4_4 rfl ?_
      intro T9 X9 e9
      refine g_len C X9 (pc' := 8) e9 At d4_7 rfl ?_
      refine g_icmpN C X9 d4_8 (by decide) rfl ?_
      refine g_aloadN C X9 (pc' := 12) d4_11 rfl rfl rfl ?_
      refine g_aloadN C X9 (pc' := 13) d4_12 rfl rfl rfl ?_
      refine g_getF C X9 (host := "") (Or.inl (hw _ (List.mem_of_getElem? (i := 16) rfl))) Via.refl e9 F1 d4_13 rfl ?_
      intro T10 X10 e10
      refine g_iloadN C X10 (pc' := 17) d4_16 rfl rfl ?_
      refine g_iaload C X10 (pc' := 18) e10 At (by decide) (by decide) 2 (by decide) rfl d4_17 rfl ?_
      rcases own_one hT.2.2.1 with rfl | rfl | rfl | rfl
      · exact absurd rfl hT.2.2.2.2.2.1
      · exact absurd rfl hT.2.2.2.2.2.2.2.1
      · show Go p.tables e below _ T10 (mkF m 18 #[.val (.ref a), .val (.ref b), .val (.int (2 : Int32))] [(.int (2 : Int32)), (.ref b)])
        refine g_dup2 C X10 (pc' := 19) d4_18 rfl rfl rfl ?_
        refine g_daload C X10 (pc' := 20) e10 Ad (by decide) (by decide) 2 (by decide) rfl d4_19 rfl ?_
        refine g_aloadN C X10 (pc' := 21) d4_20 rfl rfl rfl ?_
        refine g_getF C X10 (host := "") (Or.inl (hw _ (List.mem_of_getElem? (i := 18) rfl))) Via.refl e10 F2 d4_21 rfl ?_
        intro T11 X11 e11
        refine g_iloadN C X11 (pc' := 25) d4_24 rfl rfl ?_
        refine g_daload C X11 (pc' := 26) e11 Aw (by decide) (by decide) 2 (by decide) rfl d4_25 rfl ?_
        have D103 : FP.Core.DInt (k2 + i2) (FP.dadd d2 w2) := dadd_D D2 W2 (by show _ ≤ 9007199254740992; omega)
        refine g_dadd C X11 (pc' := 27) d4_26 (nn_of_int D103) rfl ?_
        refine g_dastore C X11 (pc' := 28) e11 Ad (by decide) (by decide) 2 0 (by decide) (of_decide_eq_true rfl) d4_27 rfl ?_
        intro T12 h12 X12 e12 W12 Aq
        have F1 := F1.other W12 (Or.inl n_a)
        have F2 := F2.other W12 (Or.inl n_a)
        have At := At.other W12 n_ta
        have Aw := Aw.other W12 n_aw
        have Z12 : n0 ≤ h12.size := by rw [W12.size]; exact Z8
        have N12 := Fr.snoc X12 N8 z_b
        have P12 := P8.wr W12 (Or.inl (List.mem_of_getElem? (i := 0) rfl))
        have Ad : Arv Z h12 b kd .double (4 : Int32) [(.double (FP.dadd d0 w0)), (.double (FP.dadd d1 w1)), (.double (FP.dadd d2 w2)), (.double d3)] (.double (0 : UInt64)) := Aq
        refine g_iinc C X12 (pc' := 31) d4_28 rfl (z := (3 : Int32)) (by decide) (l' := #[.val (.ref a), .val (.ref b), .val (.int (3 : Int32))]) rfl rfl ?_
        refine g_goto C X12 d4_31 (pc' := 2) (by decide) (by decide) ?_
        refine g_iloadN C X12 (pc' := 3) d4_2 rfl rfl ?_
        refine g_aloadN C X12 (pc' := 4) d4_3 rfl rfl rfl ?_
        refine g_getF C X12 (host := "") (Or.inl (hw _ (List.mem_of_getElem? (i := 16) rfl))) Via.refl e12 F1 d4_4 rfl ?_
        intro T13 X13 e13
        refine g_len C X13 (pc' := 8) e13 At d4_7 rfl ?_
        refine g_icmpY C X13 d4_8 (pc' := 34) (by decide) (by decide) (by decide) ?_
        have q0 := own_c0
        have q1 := own_c1
        have q2 := own_c2
        have q3 := own_c3
        have P0 : own_p 3 (0 : Int32) (1 : Int32) (2 : Int32) t3 i0 i1 i2 i3 0 i0 := by unfold own_p; refine ⟨fun _ _ => ?_, fun _ _ => ?_, fun _ _ => ?_, fun _ _ => ?_, fun _ _ _ _ => ?_⟩ <;> omega
        have P1 : own_p 3 (0 : Int32) (1 : Int32) (2 : Int32) t3 i0 i1 i2 i3 1 i1 := by unfold own_p; refine ⟨fun _ _ => ?_, fun _ _ => ?_, fun _ _ => ?_, fun _ _ => ?_, fun _ _ _ _ => ?_⟩ <;> omega
        have P2 : own_p 3 (0 : Int32) (1 : Int32) (2 : Int32) t3 i0 i1 i2 i3 2 i2 := by unfold own_p; refine ⟨fun _ _ => ?_, fun _ _ => ?_, fun _ _ => ?_, fun _ _ => ?_, fun _ _ _ _ => ?_⟩ <;> omega
        have P3 : own_p 3 (0 : Int32) (1 : Int32) (2 : Int32) t3 i0 i1 i2 i3 3 0 := by unfold own_p; refine ⟨fun _ _ => ?_, fun _ _ => ?_, fun _ _ => ?_, fun _ _ => ?_, fun _ _ _ _ => ?_⟩ <;> omega
        exact g_return C X13 d4_34 ⟨rfl, N12, by rw [e13]; exact P12, FP.dadd d0 w0, FP.dadd d1 w1, FP.dadd d2 w2, d3, i0, i1, i2, 0, D101, D102, D103, (by rw [Int.add_zero]; exact D3), P0, P1, P2, P3, by rw [e13]; exact Ad⟩ (by decide) (by decide)
      · show Go p.tables e below _ T10 (mkF m 18 #[.val (.ref a), .val (.ref b), .val (.int (2 : Int32))] [(.int (3 : Int32)), (.ref b)])
        refine g_dup2 C X10 (pc' := 19) d4_18 rfl rfl rfl ?_
        refine g_daload C X10 (pc' := 20) e10 Ad (by decide) (by decide) 3 (by decide) rfl d4_19 rfl ?_
        refine g_aloadN C X10 (pc' := 21) d4_20 rfl rfl rfl ?_
        refine g_getF C X10 (host := "") (Or.inl (hw _ (List.mem_of_getElem? (i := 18) rfl))) Via.refl e10 F2 d4_21 rfl ?_
        intro T14 X14 e14
        refine g_iloadN C X14 (pc' := 25) d4_24 rfl rfl ?_
        refine g_daload C X14 (pc' := 26) e14 Aw (by decide) (by decide) 2 (by decide) rfl d4_25 rfl ?_
        have D104 : FP.Core.DInt (k3 + i2) (FP.dadd d3 w2) := dadd_D D3 W2 (by show _ ≤ 9007199254740992; omega)
        refine g_dadd C X14 (pc' := 27) d4_26 (nn_of_int D104) rfl ?_
        refine g_dastore C X14 (pc' := 28) e14 Ad (by decide) (by decide) 3 0 (by decide) (of_decide_eq_true rfl) d4_27 rfl ?_
        intro T15 h15 X15 e15 W15 Aq
        have F1 := F1.other W15 (Or.inl n_a)
        have F2 := F2.other W15 (Or.inl n_a)
        have At := At.other W15 n_ta
        have Aw := Aw.other W15 n_aw
        have Z15 : n0 ≤ h15.size := by rw [W15.size]; exact Z8
        have N15 := Fr.snoc X15 N8 z_b
        have P15 := P8.wr W15 (Or.inl (List.mem_of_getElem? (i := 0) rfl))
        have Ad : Arv Z h15 b kd .double (4 : Int32) [(.double (FP.dadd d0 w0)), (.double (FP.dadd d1 w1)), (.double d2), (.double (FP.dadd d3 w2))] (.double (0 : UInt64)) := Aq
        refine g_iinc C X15 (pc' := 31) d4_28 rfl (z := (3 : Int32)) (by decide) (l' := #[.val (.ref a), .val (.ref b), .val (.int (3 : Int32))]) rfl rfl ?_
        refine g_goto C X15 d4_31 (pc' := 2) (by decide) (by decide) ?_
        refine g_iloadN C X15 (pc' := 3) d4_2 rfl rfl ?_
        refine g_aloadN C X15 (pc' := 4) d4_3 rfl rfl rfl ?_
        refine g_getF C X15 (host := "") (Or.inl (hw _ (List.mem_of_getElem? (i := 16) rfl))) Via.refl e15 F1 d4_4 rfl ?_
        intro T16 X16 e16
        refine g_len C X16 (pc' := 8) e16 At d4_7 rfl ?_
        refine g_icmpY C X16 d4_8 (pc' := 34) (by decide) (by decide) (by decide) ?_
        have q0 := own_c0
        have q1 := own_c1
        have q2 := own_c2
        have q3 := own_c3
        have P0 : own_p 3 (0 : Int32) (1 : Int32) (3 : Int32) t3 i0 i1 i2 i3 0 i0 := by unfold own_p; refine ⟨fun _ _ => ?_, fun _ _ => ?_, fun _ _ => ?_, fun _ _ => ?_, fun _ _ _ _ => ?_⟩ <;> omega
        have P1 : own_p 3 (0 : Int32) (1 : Int32) (3 : Int32) t3 i0 i1 i2 i3 1 i1 := by unfold own_p; refine ⟨fun _ _ => ?_, fun _ _ => ?_, fun _ _ => ?_, fun _ _ => ?_, fun _ _ _ _ => ?_⟩ <;> omega
        have P2 : own_p 3 (0 : Int32) (1 : Int32) (3 : Int32) t3 i0 i1 i2 i3 2 0 := by unfold own_p; refine ⟨fun _ _ => ?_, fun _ _ => ?_, fun _ _ => ?_, fun _ _ => ?_, fun _ _ _ _ => ?_⟩ <;> omega
        have P3 : own_p 3 (0 : Int32) (1 : Int32) (3 : Int32) t3 i0 i1 i2 i3 3 i2 := by unfold own_p; refine ⟨fun _ _ => ?_, fun _ _ => ?_, fun _ _ => ?_, fun _ _ => ?_, fun _ _ _ _ => ?_⟩ <;> omega
        exact g_return C X16 d4_34 ⟨rfl, N15, by rw [e16]; exact P15, FP.dadd d0 w0, FP.dadd d1 w1, d2, FP.dadd d3 w2, i0, i1, 0, i2, D101, D102, (by rw [Int.add_zero]; exact D2), D104, P0, P1, P2, P3, by rw [e16]; exact Ad⟩ (by decide) (by decide)
    · show Go p.tables e below _ T6 (mkF m 18 #[.val (.ref a), .val (.ref b), .val (.int (1 : Int32))] [(.int (2 : Int32)), (.ref b)])
      refine g_dup2 C X6 (pc' := 19) d4_18 rfl rfl rfl ?_
      refine g_daload C X6 (pc' := 20) e6 Ad (by decide) (by decide) 2 (by decide) rfl d4_19 rfl ?_
      refine g_aloadN C X6 (pc' := 21) d4_20 rfl rfl rfl ?_
      refine g_getF C X6 (host := "") (Or.inl (hw _ (List.mem_of_getElem? (i := 18) rfl))) Via.refl e6 F2 d4_21 rfl ?_
      intro T17 X17 e17
      refine g_iloadN C X17 (pc' := 25) d4_24 rfl rfl ?_
      refine g_daload C X17 (pc' := 26) e17 Aw (by decide) (by decide) 1 (by decide) rfl d4_25 rfl ?_
      have D105 : FP.Core.DInt (k2 + i1) (FP.dadd d2 w1) := dadd_D D2 W1 (by show _ ≤ 9007199254740992; omega)
      refine g_dadd C X17 (pc' := 27) d4_26 (nn_of_int D105) rfl ?_
      refine g_dastore C X17 (pc' := 28) e17 Ad (by decide) (by decide) 2 0 (by decide) (of_decide_eq_true rfl) d4_27 rfl ?_
      intro T18 h18 X18 e18 W18 Aq
      have F1 := F1.other W18 (Or.inl n_a)
      have F2 := F2.other W18 (Or.inl n_a)
      have At := At.other W18 n_ta
      have Aw := Aw.other W18 n_aw
      have Z18 : n0 ≤ h18.size := by rw [W18.size]; exact Z4
      have N18 := Fr.snoc X18 N4 z_b
      have P18 := P4.wr W18 (Or.inl (List.mem_of_getElem? (i := 0) rfl))
      have Ad : Arv Z h18 b kd .double (4 : Int32) [(.double (FP.dadd d0 w0)), (.double d1), (.double (FP.dadd d2 w1)), (.double d3)] (.double (0 : UInt64)) := Aq
      refine g_iinc C X18 (pc' := 31) d4_28 rfl (z := (2 : Int32)) (by decide) (l' := #[.val (.ref a), .val (.ref b), .val (.int (2 : Int32))]) rfl rfl ?_
      refine g_goto C X18 d4_31 (pc' := 2) (by decide) (by decide) ?_
      refine g_iloadN C X18 (pc' := 3) d4_2 rfl rfl ?_
      refine g_aloadN C X18 (pc' := 4) d4_3 rfl rfl rfl ?_
      refine g_getF C X18 (host := "") (Or.inl (hw _ (List.mem_of_getElem? (i := 16) rfl))) Via.refl e18 F1 d4_4 rfl ?_
      intro T19 X19 e19
      refine g_len C X19 (pc' := 8) e19 At d4_7 rfl ?_
      refine g_icmpN C X19 d4_8 (by decide) rfl ?_
      refine g_aloadN C X19 (pc' := 12) d4_11 rfl rfl rfl ?_
      refine g_aloadN C X19 (pc' := 13) d4_12 rfl rfl rfl ?_
      refine g_getF C X19 (host := "") (Or.inl (hw _ (List.mem_of_getElem? (i := 16) rfl))) Via.refl e19 F1 d4_13 rfl ?_
      intro T20 X20 e20
      refine g_iloadN C X20 (pc' := 17) d4_16 rfl rfl ?_
      refine g_iaload C X20 (pc' := 18) e20 At (by decide) (by decide) 2 (by decide) rfl d4_17 rfl ?_
      rcases own_one hT.2.2.1 with rfl | rfl | rfl | rfl
      · exact absurd rfl hT.2.2.2.2.2.1
      · show Go p.tables e below _ T20 (mkF m 18 #[.val (.ref a), .val (.ref b), .val (.int (2 : Int32))] [(.int (1 : Int32)), (.ref b)])
        refine g_dup2 C X20 (pc' := 19) d4_18 rfl rfl rfl ?_
        refine g_daload C X20 (pc' := 20) e20 Ad (by decide) (by decide) 1 (by decide) rfl d4_19 rfl ?_
        refine g_aloadN C X20 (pc' := 21) d4_20 rfl rfl rfl ?_
        refine g_getF C X20 (host := "") (Or.inl (hw _ (List.mem_of_getElem? (i := 18) rfl))) Via.refl e20 F2 d4_21 rfl ?_
        intro T21 X21 e21
        refine g_iloadN C X21 (pc' := 25) d4_24 rfl rfl ?_
        refine g_daload C X21 (pc' := 26) e21 Aw (by decide) (by decide) 2 (by decide) rfl d4_25 rfl ?_
        have D106 : FP.Core.DInt (k1 + i2) (FP.dadd d1 w2) := dadd_D D1 W2 (by show _ ≤ 9007199254740992; omega)
        refine g_dadd C X21 (pc' := 27) d4_26 (nn_of_int D106) rfl ?_
        refine g_dastore C X21 (pc' := 28) e21 Ad (by decide) (by decide) 1 0 (by decide) (of_decide_eq_true rfl) d4_27 rfl ?_
        intro T22 h22 X22 e22 W22 Aq
        have F1 := F1.other W22 (Or.inl n_a)
        have F2 := F2.other W22 (Or.inl n_a)
        have At := At.other W22 n_ta
        have Aw := Aw.other W22 n_aw
        have Z22 : n0 ≤ h22.size := by rw [W22.size]; exact Z18
        have N22 := Fr.snoc X22 N18 z_b
        have P22 := P18.wr W22 (Or.inl (List.mem_of_getElem? (i := 0) rfl))
        have Ad : Arv Z h22 b kd .double (4 : Int32) [(.double (FP.dadd d0 w0)), (.double (FP.dadd d1 w2)), (.double (FP.dadd d2 w1)), (.double d3)] (.double (0 : UInt64)) := Aq
        refine g_iinc C X22 (pc' := 31) d4_28 rfl (z := (3 : Int32)) (by decide) (l' := #[.val (.ref a), .val (.ref b), .val (.int (3 : Int32))]) rfl rfl ?_
        refine g_goto C X22 d4_31 (pc' := 2) (by decide) (by decide) ?_
        refine g_iloadN C X22 (pc' := 3) d4_2 rfl rfl ?_
        refine g_aloadN C X22 (pc' := 4) d4_3 rfl rfl rfl ?_
        refine g_getF C X22 (host := "") (Or.inl (hw _ (List.mem_of_getElem? (i := 16) rfl))) Via.refl e22 F1 d4_4 rfl ?_
        intro T23 X23 e23
        refine g_len C X23 (pc' := 8) e23 At d4_7 rfl ?_
        refine g_icmpY C X23 d4_8 (pc' := 34) (by decide) (by decide) (by decide) ?_
        have q0 := own_c0
        have q1 := own_c1
        have q2 := own_c2
        have q3 := own_c3
        have P0 : own_p 3 (0 : Int32) (2 : Int32) (1 : Int32) t3 i0 i1 i2 i3 0 i0 := by unfold own_p; refine ⟨fun _ _ => ?_, fun _ _ => ?_, fun _ _ => ?_, fun _ _ => ?_, fun _ _ _ _ => ?_⟩ <;> omega
        have P1 : own_p 3 (0 : Int32) (2 : Int32) (1 : Int32) t3 i0 i1 i2 i3 1 i2 := by unfold own_p; refine ⟨fun _ _ => ?_, fun _ _ => ?_, fun _ _ => ?_, fun _ _ => ?_, fun _ _ _ _ => ?_⟩ <;> omega
        have P2 : own_p 3 (0 : Int32) (2 : Int32) (1 : Int32) t3 i0 i1 i2 i3 2 i1 := by unfold own_p; refine ⟨fun _ _ => ?_, fun _ _ => ?_, fun _ _ => ?_, fun _ _ => ?_, fun _ _ _ _ => ?_⟩ <;> omega
        have P3 : own_p 3 (0 : Int32) (2 : Int32) (1 : Int32) t3 i0 i1 i2 i3 3 0 := by unfold own_p; refine ⟨fun _ _ => ?_, fun _ _ => ?_, fun _ _ => ?_, fun _ _ => ?_, fun _ _ _ _ => ?_⟩ <;> omega
        exact g_return C X23 d4_34 ⟨rfl, N22, by rw [e23]; exact P22, FP.dadd d0 w0, FP.dadd d1 w2, FP.dadd d2 w1, d3, i0, i2, i1, 0, D101, D106, D105, (by rw [Int.add_zero]; exact D3), P0, P1, P2, P3, by rw [e23]; exact Ad⟩ (by decide) (by decide)
      · exact absurd rfl hT.2.2.2.2.2.2.2.1
      · show Go p.tables e below _ T20 (mkF m 18 #[.val (.ref a), .val (.ref b), .val (.int (2 : Int32))] [(.int (3 : Int32)), (.ref b)])
        refine g_dup2 C X20 (pc' := 19) d4_18 rfl rfl rfl ?_
        refine g_daload C X20 (pc' := 20) e20 Ad (by decide) (by decide) 3 (by decide) rfl d4_19 rfl ?_
        refine g_aloadN C X20 (pc' := 21) d4_20 rfl rfl rfl ?_
        refine g_getF C X20 (host := "") (Or.inl (hw _ (List.mem_of_getElem? (i := 18) rfl))) Via.refl e20 F2 d4_21 rfl ?_
        intro T24 X24 e24
        refine g_iloadN C X24 (pc' := 25) d4_24 rfl rfl ?_
        refine g_daload C X24 (pc' := 26) e24 Aw (by decide) (by decide) 2 (by decide) rfl d4_25 rfl ?_
        have D107 : FP.Core.DInt (k3 + i2) (FP.dadd d3 w2) := dadd_D D3 W2 (by show _ ≤ 9007199254740992; omega)
        refine g_dadd C X24 (pc' := 27) d4_26 (nn_of_int D107) rfl ?_
        refine g_dastore C X24 (pc' := 28) e24 Ad (by decide) (by decide) 3 0 (by decide) (of_decide_eq_true rfl) d4_27 rfl ?_
        intro T25 h25 X25 e25 W25 Aq
        have F1 := F1.other W25 (Or.inl n_a)
        have F2 := F2.other W25 (Or.inl n_a)
        have At := At.other W25 n_ta
        have Aw := Aw.other W25 n_aw
        have Z25 : n0 ≤ h25.size := by rw [W25.size]; exact Z18
        have N25 := Fr.snoc X25 N18 z_b
        have P25 := P18.wr W25 (Or.inl (List.mem_of_getElem? (i := 0) rfl))
        have Ad : Arv Z h25 b kd .double (4 : Int32) [(.double (FP.dadd d0 w0)), (.double d1), (.double (FP.dadd d2 w1)), (.double (FP.dadd d3 w2))] (.double (0 : UInt64)) := Aq
        refine g_iinc C X25 (pc' := 31) d4_28 rfl (z := (3 : Int32)) (by decide) (l' := #[.val (.ref a), .val (.ref b), .val (.int (3 : Int32))]) rfl rfl ?_
        refine g_goto C X25 d4_31 (pc' := 2) (by decide) (by decide) ?_
        refine g_iloadN C X25 (pc' := 3) d4_2 rfl rfl ?_
        refine g_aloadN C X25 (pc' := 4) d4_3 rfl rfl rfl ?_
        refine g_getF C X25 (host := "") (Or.inl (hw _ (List.mem_of_getElem? (i := 16) rfl))) Via.refl e25 F1 d4_4 rfl ?_
        intro T26 X26 e26
        refine g_len C X26 (pc' := 8) e26 At d4_7 rfl ?_
        refine g_icmpY C X26 d4_8 (pc' := 34) (by decide) (by decide) (by decide) ?_
        have q0 := own_c0
        have q1 := own_c1
        have q2 := own_c2
        have q3 := own_c3
        have P0 : own_p 3 (0 : Int32) (2 : Int32) (3 : Int32) t3 i0 i1 i2 i3 0 i0 := by unfold own_p; refine ⟨fun _ _ => ?_, fun _ _ => ?_, fun _ _ => ?_, fun _ _ => ?_, fun _ _ _ _ => ?_⟩ <;> omega
        have P1 : own_p 3 (0 : Int32) (2 : Int32) (3 : Int32) t3 i0 i1 i2 i3 1 0 := by unfold own_p; refine ⟨fun _ _ => ?_, fun _ _ => ?_, fun _ _ => ?_, fun _ _ => ?_, fun _ _ _ _ => ?_⟩ <;> omega
        have P2 : own_p 3 (0 : Int32) (2 : Int32) (3 : Int32) t3 i0 i1 i2 i3 2 i1 := by unfold own_p; refine ⟨fun _ _ => ?_, fun _ _ => ?_, fun _ _ => ?_, fun _ _ => ?_, fun _ _ _ _ => ?_⟩ <;> omega
        have P3 : own_p 3 (0 : Int32) (2 : Int32) (3 : Int32) t3 i0 i1 i2 i3 3 i2 := by unfold own_p; refine ⟨fun _ _ => ?_, fun _ _ => ?_, fun _ _ => ?_, fun _ _ => ?_, fun _ _ _ _ => ?_⟩ <;> omega
        exact g_return C X26 d4_34 ⟨rfl, N25, by rw [e26]; exact P25, FP.dadd d0 w0, d1, FP.dadd d2 w1, FP.dadd d3 w2, i0, 0, i1, i2, D101, (by rw [Int.add_zero]; exact D1), D105, D107, P0, P1, P2, P3, by rw [e26]; exact Ad⟩ (by decide) (by decide)
    · show Go p.tables e below _ T6 (mkF m 18 #[.val (.ref a), .val (.ref b), .val (.int (1 : Int32))] [(.int (3 : Int32)), (.ref b)])
      refine g_dup2 C X6 (pc' := 19) d4_18 rfl rfl rfl ?_
      refine g_daload C X6 (pc' := 20) e6 Ad (by decide) (by decide) 3 (by decide) rfl d4_19 rfl ?_
      refine g_aloadN C X6 (pc' := 21) d4_20 rfl rfl rfl ?_
      refine g_getF C X6 (host := "") (Or.inl (hw _ (List.mem_of_getElem? (i := 18) rfl))) Via.refl e6 F2 d4_21 rfl ?_
      intro T27 X27 e27
      refine g_iloadN C X27 (pc' := 25) d4_24 rfl rfl ?_
      refine g_daload C X27 (pc' := 26) e27 Aw (by decide) (by decide) 1 (by decide) rfl d4_25 rfl ?_
      have D108 : FP.Core.DInt (k3 + i1) (FP.dadd d3 w1) := dadd_D D3 W1 (by show _ ≤ 9007199254740992; omega)
      refine g_dadd C X27 (pc' := 27) d4_26 (nn_of_int D108) rfl ?_
      refine g_dastore C X27 (pc' := 28) e27 Ad (by decide) (by decide) 3 0 (by decide) (of_decide_eq_true rfl) d4_27 rfl ?_
      intro T28 h28 X28 e28 W28 Aq
      have F1 := F1.other W28 (Or.inl n_a)
      have F2 := F2.other W28 (Or.inl n_a)
      have At := At.other W28 n_ta
      have Aw := Aw.other W28 n_aw
      have Z28 : n0 ≤ h28.size := by rw [W28.size]; exact Z4
      have N28 := Fr.snoc X28 N4 z_b
      have P28 := P4.wr W28 (Or.inl (List.mem_of_getElem? (i := 0) rfl))
      have Ad : Arv Z h28 b kd .double (4 : Int32) [(.double (FP.dadd d0 w0)), (.double d1), (.double d2), (.double (FP.dadd d3 w1))] (.double (0 : UInt64)) := Aq
      refine g_iinc C X28 (pc' := 31) d4_28 rfl (z := (2 : Int32)) (by decide) (l' := #[.val (.ref a), .val (.ref b), .val (.int (2 : Int32))]) rfl rfl ?_
      refine g_goto C X28 d4_31 (pc' := 2) (by decide) (by decide) ?_
      refine g_iloadN C X28 (pc' := 3) d4_2 rfl rfl ?_
      refine g_aloadN C X28 (pc' := 4) d4_3 rfl rfl rfl ?_
      refine g_getF C X28 (host := "") (Or.inl (hw _ (List.mem_of_getElem? (i := 16) rfl))) Via.refl e28 F1 d4_4 rfl ?_
      intro T29 X29 e29
      refine g_len C X29 (pc' := 8) e29 At d4_7 rfl ?_
      refine g_icmpN C X29 d4_8 (by decide) rfl ?_
      refine g_aloadN C X29 (pc' := 12) d4_11 rfl rfl rfl ?_
      refine g_aloadN C X29 (pc' := 13) d4_12 rfl rfl rfl ?_
      refine g_getF C X29 (host := "") (Or.inl (hw _ (List.mem_of_getElem? (i := 16) rfl))) Via.refl e29 F1 d4_13 rfl ?_
      intro T30 X30 e30
      refine g_iloadN C X30 (pc' := 17) d4_16 rfl rfl ?_
      refine g_iaload C X30 (pc' := 18) e30 At (by decide) (by decide) 2 (by decide) rfl d4_17 rfl ?_
      rcases own_one hT.2.2.1 with rfl | rfl | rfl | rfl
      · exact absurd rfl hT.2.2.2.2.2.1
      · show Go p.tables e below _ T30 (mkF m 18 #[.val (.ref a), .val (.ref b), .val (.int (2 : Int32))] [(.int (1 : Int32)), (.ref b)])
        refine g_dup2 C X30 (pc' := 19) d4_18 rfl rfl rfl ?_
        refine g_daload C X30 (pc' := 20) e30 Ad (by decide) (by decide) 1 (by decide) rfl d4_19 rfl ?_
        refine g_aloadN C X30 (pc' := 21) d4_20 rfl rfl rfl ?_
        refine g_getF C X30 (host := "") (Or.inl (hw _ (List.mem_of_getElem? (i := 18) rfl))) Via.refl e30 F2 d4_21 rfl ?_
        intro T31 X31 e31
        refine g_iloadN C X31 (pc' := 25) d4_24 rfl rfl ?_
        refine g_daload C X31 (pc' := 26) e31 Aw (by decide) (by decide) 2 (by decide) rfl d4_25 rfl ?_
        have D109 : FP.Core.DInt (k1 + i2) (FP.dadd d1 w2) := dadd_D D1 W2 (by show _ ≤ 9007199254740992; omega)
        refine g_dadd C X31 (pc' := 27) d4_26 (nn_of_int D109) rfl ?_
        refine g_dastore C X31 (pc' := 28) e31 Ad (by decide) (by decide) 1 0 (by decide) (of_decide_eq_true rfl) d4_27 rfl ?_
        intro T32 h32 X32 e32 W32 Aq
        have F1 := F1.other W32 (Or.inl n_a)
        have F2 := F2.other W32 (Or.inl n_a)
        have At := At.other W32 n_ta
        have Aw := Aw.other W32 n_aw
        have Z32 : n0 ≤ h32.size := by rw [W32.size]; exact Z28
        have N32 := Fr.snoc X32 N28 z_b
        have P32 := P28.wr W32 (Or.inl (List.mem_of_getElem? (i := 0) rfl))
        have Ad : Arv Z h32 b kd .double (4 : Int32) [(.double (FP.dadd d0 w0)), (.double (FP.dadd d1 w2)), (.double d2), (.double (FP.dadd d3 w1))] (.double (0 : UInt64)) := Aq
        refine g_iinc C X32 (pc' := 31) d4_28 rfl (z := (3 : Int32)) (by decide) (l' := #[.val (.ref a), .val (.ref b), .val (.int (3 : Int32))]) rfl rfl ?_
        refine g_goto C X32 d4_31 (pc' := 2) (by decide) (by decide) ?_
        refine g_iloadN C X32 (pc' := 3) d4_2 rfl rfl ?_
        refine g_aloadN C X32 (pc' := 4) d4_3 rfl rfl rfl ?_
        refine g_getF C X32 (host := "") (Or.inl (hw _ (List.mem_of_getElem? (i := 16) rfl))) Via.refl e32 F1 d4_4 rfl ?_
        intro T33 X33 e33
        refine g_len C X33 (pc' := 8) e33 At d4_7 rfl ?_
        refine g_icmpY C X33 d4_8 (pc' := 34) (by decide) (by decide) (by decide) ?_
        have q0 := own_c0
        have q1 := own_c1
        have q2 := own_c2
        have q3 := own_c3
        have P0 : own_p 3 (0 : Int32) (3 : Int32) (1 : Int32) t3 i0 i1 i2 i3 0 i0 := by unfold own_p; refine ⟨fun _ _ => ?_, fun _ _ => ?_, fun _ _ => ?_, fun _ _ => ?_, fun _ _ _ _ => ?_⟩ <;> omega
        have P1 : own_p 3 (0 : Int32) (3 : Int32) (1 : Int32) t3 i0 i1 i2 i3 1 i2 := by unfold own_p; refine ⟨fun _ _ => ?_, fun _ _ => ?_, fun _ _ => ?_, fun _ _ => ?_, fun _ _ _ _ => ?_⟩ <;> omega
        have P2 : own_p 3 (0 : Int32) (3 : Int32) (1 : Int32) t3 i0 i1 i2 i3 2 0 := by unfold own_p; refine ⟨fun _ _ => ?_, fun _ _ => ?_, fun _ _ => ?_, fun _ _ => ?_, fun _ _ _ _ => ?_⟩ <;> omega
        have P3 : own_p 3 (0 : Int32) (3 : Int32) (1 : Int32) t3 i0 i1 i2 i3 3 i1 := by unfold own_p; refine ⟨fun _ _ => ?_, fun _ _ => ?_, fun _ _ => ?_, fun _ _ => ?_, fun _ _ _ _ => ?_⟩ <;> omega
        exact g_return C X33 d4_34 ⟨rfl, N32, by rw [e33]; exact P32, FP.dadd d0 w0, FP.dadd d1 w2, d2, FP.dadd d3 w1, i0, i2, 0, i1, D101, D109, (by rw [Int.add_zero]; exact D2), D108, P0, P1, P2, P3, by rw [e33]; exact Ad⟩ (by decide) (by decide)
      · show Go p.tables e below _ T30 (mkF m 18 #[.val (.ref a), .val (.ref b), .val (.int (2 : Int32))] [(.int (2 : Int32)), (.ref b)])
        refine g_dup2 C X30 (pc' := 19) d4_18 rfl rfl rfl ?_
        refine g_daload C X30 (pc' := 20) e30 Ad (by decide) (by decide) 2 (by decide) rfl d4_19 rfl ?_
        refine g_aloadN C X30 (pc' := 21) d4_20 rfl rfl rfl ?_
        refine g_getF C X30 (host := "") (Or.inl (hw _ (List.mem_of_getElem? (i := 18) rfl))) Via.refl e30 F2 d4_21 rfl ?_
        intro T34 X34 e34
        refine g_iloadN C X34 (pc' := 25) d4_24 rfl rfl ?_
        refine g_daload C X34 (pc' := 26) e34 Aw (by decide) (by decide) 2 (by decide) rfl d4_25 rfl ?_
        have D110 : FP.Core.DInt (k2 + i2) (FP.dadd d2 w2) := dadd_D D2 W2 (by show _ ≤ 9007199254740992; omega)
        refine g_dadd C X34 (pc' := 27) d4_26 (nn_of_int D110) rfl ?_
        refine g_dastore C X34 (pc' := 28) e34 Ad (by decide) (by decide) 2 0 (by decide) (of_decide_eq_true rfl) d4_27 rfl ?_
        intro T35 h35 X35 e35 W35 Aq
        have F1 := F1.other W35 (Or.inl n_a)
        have F2 := F2.other W35 (Or.inl n_a)
        have At := At.other W35 n_ta
        have Aw := Aw.other W35 n_aw
        have Z35 : n0 ≤ h35.size := by rw [W35.size]; exact Z28
        have N35 := Fr.snoc X35 N28 z_b
        have P35 := P28.wr W35 (Or.inl (List.mem_of_getElem? (i := 0) rfl))
        have Ad : Arv Z h35 b kd .double (4 : Int32) [(.double (FP.dadd d0 w0)), (.double d1), (.double (FP.dadd d2 w2)), (.double (FP.dadd d3 w1))] (.double (0 : UInt64)) := Aq
        refine g_iinc C X35 (pc' := 31) d4_28 rfl (z := (3 : Int32)) (by decide) (l' := #[.val (.ref a), .val (.ref b), .val (.int (3 : Int32))]) rfl rfl ?_
        refine g_goto C X35 d4_31 (pc' := 2) (by decide) (by decide) ?_
        refine g_iloadN C X35 (pc' := 3) d4_2 rfl rfl ?_
        refine g_aloadN C X35 (pc' := 4) d4_3 rfl rfl rfl ?_
        refine g_getF C X35 (host := "") (Or.inl (hw _ (List.mem_of_getElem? (i := 16) rfl))) Via.refl e35 F1 d4_4 rfl ?_
        intro T36 X36 e36
        refine g_len C X36 (pc' := 8) e36 At d4_7 rfl ?_
        refine g_icmpY C X36 d4_8 (pc' := 34) (by decide) (by decide) (by decide) ?_
        have q0 := own_c0
        have q1 := own_c1
        have q2 := own_c2
        have q3 := own_c3
        have P0 : own_p 3 (0 : Int32) (3 : Int32) (2 : Int32) t3 i0 i1 i2 i3 0 i0 := by unfold own_p; refine ⟨fun _ _ => ?_, fun _ _ => ?_, fun _ _ => ?_, fun _ _ => ?_, fun _ _ _ _ => ?_⟩ <;> omega
        have P1 : own_p 3 (0 : Int32) (3 : Int32) (2 : Int32) t3 i0 i1 i2 i3 1 0 := by unfold own_p; refine ⟨fun _ _ => ?_, fun _ _ => ?_, fun _ _ => ?_, fun _ _ => ?_, fun _ _ _ _ => ?_⟩ <;> omega
        have P2 : own_p 3 (0 : Int32) (3 : Int32) (2 : Int32) t3 i0 i1 i2 i3 2 i2 := by unfold own_p; refine ⟨fun _ _ => ?_, fun _ _ => ?_, fun _ _ => ?_, fun _ _ => ?_, fun _ _ _ _ => ?_⟩ <;> omega
        have P3 : own_p 3 (0 : Int32) (3 : Int32) (2 : Int32) t3 i0 i1 i2 i3 3 i1 := by unfold own_p; refine ⟨fun _ _ => ?_, fun _ _ => ?_, fun _ _ => ?_, fun _ _ => ?_, fun _ _ _ _ => ?_⟩ <;> omega
        exact g_return C X36 d4_34 ⟨rfl, N35, by rw [e36]; exact P35, FP.dadd d0 w0, d1, FP.dadd d2 w2, FP.dadd d3 w1, i0, 0, i2, i1, D101, (by rw [Int.add_zero]; exact D1), D110, D108, P0, P1, P2, P3, by rw [e36]; exact Ad⟩ (by decide) (by decide)
      · exact absurd rfl hT.2.2.2.2.2.2.2.1
  · show Go p.tables e below _ T2 (mkF m 18 #[.val (.ref a), .val (.ref b), .val (.int (0 : Int32))] [(.int (1 : Int32)), (.ref b)])
    refine g_dup2 C X2 (pc' := 19) d4_18 rfl rfl rfl ?_
    refine g_daload C X2 (pc' := 20) e2 Ad (by decide) (by decide) 1 (by decide) rfl d4_19 rfl ?_
    refine g_aloadN C X2 (pc' := 21) d4_20 rfl rfl rfl ?_
    refine g_getF C X2 (host := "") (Or.inl (hw _ (List.mem_of_getElem? (i := 18) rfl))) Via.refl e2 F2 d4_21 rfl ?_
    intro T37 X37 e37
    refine g_iloadN C X37 (pc' := 25) d4_24 rfl rfl ?_
    refine g_daload C X37 (pc' := 26) e37 Aw (by decide) (by decide) 0 (by decide) rfl d4_25 rfl ?_
    have D111 : FP.Core.DInt (k1 + i0) (FP.dadd d1 w0) := dadd_D D1 W0 (by show _ ≤ 9007199254740992; omega)
    refine g_dadd C X37 (pc' := 27) d4_26 (nn_of_int D111) rfl ?_
    refine g_dastore C X37 (pc' := 28) e37 Ad (by decide) (by decide) 1 0 (by decide) (of_decide_eq_true rfl) d4_27 rfl ?_
    intro T38 h38 X38 e38 W38 Aq
    have F1 := F1.other W38 (Or.inl n_a)
    have F2 := F2.other W38 (Or.inl n_a)
    have At := At.other W38 n_ta
    have Aw := Aw.other W38 n_aw
    have Z38 : n0 ≤ h38.size := by rw [W38.size]; exact Z0
    have N38 := Fr.snoc X38 (Fr.nil n0) z_b
    have P38 := (Keep.refl h [b]).wr W38 (Or.inl (List.mem_of_getElem? (i := 0) rfl))
    have Ad : Arv Z h38 b kd .double (4 : Int32) [(.double d0), (.double (FP.dadd d1 w0)), (.double d2), (.double d3)] (.double (0 : UInt64)) := Aq
    refine g_iinc C X38 (pc' := 31) d4_28 rfl (z := (1 : Int32)) (by decide) (l' := #[.val (.ref a), .val (.ref b), .val (.int (1 : Int32))]) rfl rfl ?_
    refine g_goto C X38 d4_31 (pc' := 2) (by decide) (by decide) ?_
    refine g_iloadN C X38 (pc' := 3) d4_2 rfl rfl ?_
    refine g_aloadN C X38 (pc' := 4) d4_3 rfl rfl rfl ?_
    refine g_getF C X38 (host := "") (Or.inl (hw _ (List.mem_of_getElem? (i := 16) rfl))) Via.refl e38 F1 d4_4 rfl ?_
    intro T39 X39 e39
    refine g_len C X39 (pc' := 8) e39 At d4_7 rfl ?_
    refine g_icmpN C X39 d4_8 (by decide) rfl ?_
    refine g_aloadN C X39 (pc' := 12) d4_11 rfl rfl rfl ?_
    refine g_aloadN C X39 (pc' := 13) d4_12 rfl rfl rfl ?_
    refine g_getF C X39 (host := "") (Or.inl (hw _ (List.mem_of_getElem? (i := 16) rfl))) Via.refl e39 F1 d4_13 rfl ?_
    intro T40 X40 e40
    refine g_iloadN C X40 (pc' := 17) d4_16 rfl rfl ?_
    refine g_iaload C X40 (pc' := 18) e40 At (by decide) (by decide) 1 (by decide) rfl d4_17 rfl ?_
    rcases own_one hT.2.1 with rfl | rfl | rfl | rfl
    · show Go p.tables e below _ T40 (mkF m 18 #[.val (.ref a), .val (.ref b), .val (.int (1 : Int32))] [(.int (0 : Int32)), (.ref b)])
      refine g_dup2 C X40 (pc' := 19) d4_18 rfl rfl rfl ?_
      refine g_daload C X40 (pc' := 20) e40 Ad (by decide) (by decide) 0 (by decide) rfl d4_19 rfl ?_
      refine g_aloadN C X40 (pc' := 21) d4_20 rfl rfl rfl ?_
      refine g_getF C X40 (host := "") (Or.inl (hw _ (List.mem_of_getElem? (i := 18) rfl))) Via.refl e40 F2 d4_21 rfl ?_
      intro T41 X41 e41
      refine g_iloadN C X41 (pc' := 25) d4_24 rfl rfl ?_
      refine g_daload C X41 (pc' := 26) e41 Aw (by decide) (by decide) 1 (by decide) rfl d4_25 rfl ?_
      have D112 : FP.Core.DInt (k0 + i1) (FP.dadd d0 w1) := dadd_D D0 W1 (by show _ ≤ 9007199254740992; omega)
      refine g_dadd C X41 (pc' := 27) d4_26 (nn_of_int D112) rfl ?_
      refine g_dastore C X41 (pc' := 28) e41 Ad (by decide) (by decide) 0 0 (by decide) (of_decide_eq_true rfl) d4_27 rfl ?_
      intro T42 h42 X42 e42 W42 Aq
      have F1 := F1.other W42 (Or.inl n_a)
      have F2 := F2.other W42 (Or.inl n_a)
      have At := At.other W42 n_ta
      have Aw := Aw.other W42 n_aw
      have Z42 : n0 ≤ h42.size := by rw [W42.size]; exact Z38
      have N42 := Fr.snoc X42 N38 z_b
      have P42 := P38.wr W42 (Or.inl (List.mem_of_getElem? (i := 0) rfl))
      have Ad : Arv Z h42 b kd .double (4 : Int32) [(.double (FP.dadd d0 w1)), (.double (FP.dadd d1 w0)), (.double d2), (.double d3)] (.double (0 : UInt64)) := Aq
      refine g_iinc C X42 (pc' := 31) d4_28 rfl (z := (2 : Int32)) (by decide) (l' := #[.val (.ref a), .val (.ref b), .val (.int (2 : Int32))]) rfl rfl ?_
      refine g_goto C X42 d4_31 (pc' := 2) (by decide) (by decide) ?_
      refine g_iloadN C X42 (pc' := 3) d4_2 rfl rfl ?_
      refine g_aloadN C X42 (pc' := 4) d4_3 rfl rfl rfl ?_
      refine g_getF C X42 (host := "") (Or.inl (hw _ (List.mem_of_getElem? (i := 16) rfl))) Via.refl e42 F1 d4_4 rfl ?_
      intro T43 X43 e43
      refine g_len C X43 (pc' := 8) e43 At d4_7 rfl ?_
      refine g_icmpN C X43 d4_8 (by decide) rfl ?_
      refine g_aloadN C X43 (pc' := 12) d4_11 rfl rfl rfl ?_
      refine g_aloadN C X43 (pc' := 13) d4_12 rfl rfl rfl ?_
      refine g_getF C X43 (host := "") (Or.inl (hw _ (List.mem_of_getElem? (i := 16) rfl))) Via.refl e43 F1 d4_13 rfl ?_
      intro T44 X44 e44
      refine g_iloadN C X44 (pc' := 17) d4_16 rfl rfl ?_
      refine g_iaload C X44 (pc' := 18) e44 At (by decide) (by decide) 2 (by decide) rfl d4_17 rfl ?_
      rcases own_one hT.2.2.1 with rfl | rfl | rfl | rfl
      · exact absurd rfl hT.2.2.2.2.2.2.2.1
      · exact absurd rfl hT.2.2.2.2.2.1
      · show Go p.tables e below _ T44 (mkF m 18 #[.val (.ref a), .val (.ref b), .val (.int (2 : Int32))] [(.int (2 : Int32)), (.ref b)])
        refine g_dup2 C X44 (pc' := 19) d4_18 rfl rfl rfl ?_
        refine g_daload C X44 (pc' := 20) e44 Ad (by decide) (by decide) 2 (by decide) rfl d4_19 rfl ?_
        refine g_aloadN C X44 (pc' := 21) d4_20 rfl rfl rfl ?_
        refine g_getF C X44 (host := "") (Or.inl (hw _ (List.mem_of_getElem? (i := 18) rfl))) Via.refl e44 F2 d4_21 rfl ?_
        intro T45 X45 e45
        refine g_iloadN C X45 (pc' := 25) d4_24 rfl rfl ?_
        refine g_daload C X45 (pc' := 26) e45 Aw (by decide) (by decide) 2 (by decide) rfl d4_25 rfl ?_
        have D113 : FP.Core.DInt (k2 + i2) (FP.dadd d2 w2) := dadd_D D2 W2 (by show _ ≤ 9007199254740992; omega)
        refine g_dadd C X45 (pc' := 27) d4_26 (nn_of_int D113) rfl ?_
        refine g_dastore C X45 (pc' := 28) e45 Ad (by decide) (by decide) 2 0 (by decide) (of_decide_eq_true rfl) d4_27 rfl ?_
        intro T46 h46 X46 e46 W46 Aq
        have F1 := F1.other W46 (Or.inl n_a)
        have F2 := F2.other W46 (Or.inl n_a)
        have At := At.other W46 n_ta
        have Aw := Aw.other W46 n_aw
        have Z46 : n0 ≤ h46.size := by rw [W46.size]; exact Z42
        have N46 := Fr.snoc X46 N42 z_b
        have P46 := P42.wr W46 (Or.inl (List.mem_of_getElem? (i := 0) rfl))
        have Ad : Arv Z h46 b kd .double (4 : Int32) [(.double (FP.dadd d0 w1)), (.double (FP.dadd d1 w0)), (.double (FP.dadd d2 w2)), (.double d3)] (.double (0 : UInt64)) := Aq
        refine g_iinc C X46 (pc' := 31) d4_28 rfl (z := (3 : Int32)) (by decide) (l' := #[.val (.ref a), .val (.ref b), .val (.int (3 : Int32))]) rfl rfl ?_
        refine g_goto C X46 d4_31 (pc' := 2) (by decide) (by decide) ?_
        refine g_iloadN C X46 (pc' := 3) d4_2 rfl rfl ?_
        refine g_aloadN C X46 (pc' := 4) d4_3 rfl rfl rfl ?_
        refine g_getF C X46 (host := "") (Or.inl (hw _ (List.mem_of_getElem? (i := 16) rfl))) Via.refl e46 F1 d4_4 rfl ?_
        intro T47 X47 e47
        refine g_len C X47 (pc' := 8) e47 At d4_7 rfl ?_
        refine g_icmpY C X47 d4_8 (pc' := 34) (by decide) (by decide) (by decide) ?_
        have q0 := own_c0
        have q1 := own_c1
        have q2 := own_c2
        have q3 := own_c3
        have P0 : own_p 3 (1 : Int32) (0 : Int32) (2 : Int32) t3 i0 i1 i2 i3 0 i1 := by unfold own_p; refine ⟨fun _ _ => ?_, fun _ _ => ?_, fun _ _ => ?_, fun _ _ => ?_, fun _ _ _ _ => ?_⟩ <;> omega
        have P1 : own_p 3 (1 : Int32) (0 : Int32) (2 : Int32) t3 i0 i1 i2 i3 1 i0 := by unfold own_p; refine ⟨fun _ _ => ?_, fun _ _ => ?_, fun _ _ => ?_, fun _ _ => ?_, fun _ _ _ _ => ?_⟩ <;> omega
        have P2 : own_p 3 (1 : Int32) (0 : Int32) (2 : Int32) t3 i0 i1 i2 i3 2 i2 := by unfold own_p; refine ⟨fun _ _ => ?_, fun _ _ => ?_, fun _ _ => ?_, fun _ _ => ?_, fun _ _ _ _ => ?_⟩ <;> omega
        have P3 : own_p 3 (1 : Int32) (0 : Int32) (2 : Int32) t3 i0 i1 i2 i3 3 0 := by unfold own_p; refine ⟨fun _ _ => ?_, fun _ _ => ?_, fun _ _ => ?_, fun _ _ => ?_, fun _ _ _ _ => ?_⟩ <;> omega
        exact g_return C X47 d4_34 ⟨rfl, N46, by rw [e47]; exact P46, FP.dadd d0 w1, FP.dadd d1 w0, FP.dadd d2 w2, d3, i1, i0, i2, 0, D112, D111, D113, (by rw [Int.add_zero]; exact D3), P0, P1, P2, P3, by rw [e47]; exact Ad⟩ (by decide) (by decide)
      · show Go p.tables e below _ T44 (mkF m 18 #[.val (.ref a), .val (.ref b), .val (.int (2 : Int32))] [(.int (3 : Int32)), (.ref b)])
        refine g_dup2 C X44 (pc' := 19) d4_18 rfl rfl rfl ?_
        refine g_daload C X44 (pc' := 20) e44 Ad (by decide) (by decide) 3 (by decide) rfl d4_19 rfl ?_
        refine g_aloadN C X44 (pc' := 21) d4_20 rfl rfl rfl ?_
        refine g_getF C X44 (host := "") (Or.inl (hw _ (List.mem_of_getElem? (i := 18) rfl))) Via.refl e44 F2 d4_21 rfl ?_
        intro T48 X48 e48
        refine g_iloadN C X48 (pc' := 25) d4_24 rfl rfl ?_
        refine g_daload C X48 (pc' := 26) e48 Aw (by decide) (by decide) 2 (by decide) rfl d4_25 rfl ?_
        have D114 : FP.Core.DInt (k3 + i2) (FP.dadd d3 w2) := dadd_D D3 W2 (by show _ ≤ 9007199254740992; omega)
        refine g_dadd C X48 (pc' := 27) d4_26 (nn_of_int D114) rfl ?_
        refine g_dastore C X48 (pc' := 28) e48 Ad (by decide) (by decide) 3 0 (by decide) (of_decide_eq_true rfl) d4_27 rfl ?_
        intro T49 h49 X49 e49 W49 Aq
        have F1 := F1.other W49 (Or.inl n_a)
        have F2 := F2.other W49 (Or.inl n_a)
        have At := At.other W49 n_ta
        have Aw := Aw.other W49 n_aw
        have Z49 : n0 ≤ h49.size := by rw [W49.size]; exact Z42
        have N49 := Fr.snoc X49 N42 z_b
        have P49 := P42.wr W49 (Or.inl (List.mem_of_getElem? (i := 0) rfl))
        have Ad : Arv Z h49 b kd .double (4 : Int32) [(.double (FP.dadd d0 w1)), (.double (FP.dadd d1 w0)), (.double d2), (.double (FP.dadd d3 w2))] (.double (0 : UInt64)) := Aq
        refine g_iinc C X49 (pc' := 31) d4_28 rfl (z := (3 : Int32)) (by decide) (l' := #[.val (.ref a), .val (.ref b), .val (.int (3 : Int32))]) rfl rfl ?_
        refine g_goto C X49 d4_31 (pc' := 2) (by decide) (by decide) ?_
        refine g_iloadN C X49 (pc' := 3) d4_2 rfl rfl ?_
        refine g_aloadN C X49 (pc' := 4) d4_3 rfl rfl rfl ?_
        refine g_getF C X49 (host := "") (Or.inl (hw _ (List.mem_of_getElem? (i := 16) rfl))) Via.refl e49 F1 d4_4 rfl ?_
        intro T50 X50 e50
        refine g_len C X50 (pc' := 8) e50 At d4_7 rfl ?_
        refine g_icmpY C X50 d4_8 (pc' := 34) (by decide) (by decide) (by decide) ?_
        have q0 := own_c0
        have q1 := own_c1
        have q2 := own_c2
        have q3 := own_c3
        have P0 : own_p 3 (1 : Int32) (0 : Int32) (3 : Int32) t3 i0 i1 i2 i3 0 i1 := by unfold own_p; refine ⟨fun _ _ => ?_, fun _ _ => ?_, fun _ _ => ?_, fun _ _ => ?_, fun _ _ _ _ => ?_⟩ <;> omega
        have P1 : own_p 3 (1 : Int32) (0 : Int32) (3 : Int32) t3 i0 i1 i2 i3 1 i0 := by unfold own_p; refine ⟨fun _ _ => ?_, fun _ _ => ?_, fun _ _ => ?_, fun _ _ => ?_, fun _ _ _ _ => ?_⟩ <;> omega
        have P2 : own_p 3 (1 : Int32) (0 : Int32) (3 : Int32) t3 i0 i1 i2 i3 2 0 := by unfold own_p; refine ⟨fun _ _ => ?_, fun _ _ => ?_, fun _ _ => ?_, fun _ _ => ?_, fun _ _ _ _ => ?_⟩ <;> omega
        have P3 : own_p 3 (1 : Int32) (0 : Int32) (3 : Int32) t3 i0 i1 i2 i3 3 i2 := by unfold own_p; refine ⟨fun _ _ => ?_, fun _ _ => ?_, fun _ _ => ?_, fun _ _ => ?_, fun _ _ _ _ => ?_⟩ <;> omega
        exact g_return C X50 d4_34 ⟨rfl, N49, by rw [e50]; exact P49, FP.dadd d0 w1, FP.dadd d1 w0, d2, FP.dadd d3 w2, i1, i0, 0, i2, D112, D111, (by rw [Int.add_zero]; exact D2), D114, P0, P1, P2, P3, by rw [e50]; exact Ad⟩ (by decide) (by decide)
    · exact absurd rfl hT.2.2.2.2.1
    · show Go p.tables e below _ T40 (mkF m 18 #[.val (.ref a), .val (.ref b), .val (.int (1 : Int32))] [(.int (2 : Int32)), (.ref b)])
      refine g_dup2 C X40 (pc' := 19) d4_18 rfl rfl rfl ?_
      refine g_daload C X40 (pc' := 20) e40 Ad (by decide) (by decide) 2 (by decide) rfl d4_19 rfl ?_
      refine g_aloadN C X40 (pc' := 21) d4_20 rfl rfl rfl ?_
      refine g_getF C X40 (host := "") (Or.inl (hw _ (List.mem_of_getElem? (i := 18) rfl))) Via.refl e40 F2 d4_21 rfl ?_
      intro T51 X51 e51
      refine g_iloadN C X51 (pc' := 25) d4_24 rfl rfl ?_
      refine g_daload C X51 (pc' := 26) e51 Aw (by decide) (by decide) 1 (by decide) rfl d4_25 rfl ?_
      have D115 : FP.Core.DInt (k2 + i1) (FP.dadd d2 w1) := dadd_D D2 W1 (by show _ ≤ 9007199254740992; omega)
      refine g_dadd C X51 (pc' := 27) d4_26 (nn_of_int D115) rfl ?_
      refine g_dastore C X51 (pc' := 28) e51 Ad (by decide) (by decide) 2 0 (by decide) (of_decide_eq_true rfl) d4_27 rfl ?_
      intro T52 h52 X52 e52 W52 Aq
      have F1 := F1.other W52 (Or.inl n_a)
      have F2 := F2.other W52 (Or.inl n_a)
      have At := At.other W52 n_ta
      have Aw := Aw.other W52 n_aw
      have Z52 : n0 ≤ h52.size := by rw [W52.size]; exact Z38
      have N52 := Fr.snoc X52 N38 z_b
      have P52 := P38.wr W52 (Or.inl (List.mem_of_getElem? (i := 0) rfl))
      have Ad : Arv Z h52 b kd .double (4 : Int32) [(.double d0), (.double (FP.dadd d1 w0)), (.double (FP.dadd d2 w1)), (.double d3)] (.double (0 : UInt64)) := Aq
      refine g_iinc C X52 (pc' := 31) d4_28 rfl (z := (2 : Int32)) (by decide) (l' := #[.val (.ref a), .val (.ref b), .val (.int (2 : Int32))]) rfl rfl ?_
      refine g_goto C X52 d4_31 (pc' := 2) (by decide) (by decide) ?_
      refine g_iloadN C X52 (pc' := 3) d4_2 rfl rfl ?_
      refine g_aloadN C X52 (pc' := 4) d4_3 rfl rfl rfl ?_
      refine g_getF C X52 (host := "") (Or.inl (hw _ (List.mem_of_getElem? (i := 16) rfl))) Via.refl e52 F1 d4_4 rfl ?_
      intro T53 X53 e53
      refine g_len C X53 (pc' := 8) e53 At d4_7 rfl ?_
      refine g_icmpN C X53 d4_8 (by decide) rfl ?_
      refine g_aloadN C X53 (pc' := 12) d4_11 rfl rfl rfl ?_
      refine g_aloadN C X53 (pc' := 13) d4_12 rfl rfl rfl ?_
      refine g_getF C X53 (host := "") (Or.inl (hw _ (List.mem_of_getElem? (i := 16) rfl))) Via.refl e53 F1 d4_13 rfl ?_
      intro T54 X54 e54
      refine g_iloadN C X54 (pc' := 17) d4_16 rfl rfl ?_
      refine g_iaload C X54 (pc' := 18) e54 At (by decide) (by decide) 2 (by decide) rfl d4_17 rfl ?_
      rcases own_one hT.2.2.1 with rfl | rfl | rfl | rfl
      · show Go p.tables e below _ T54 (mkF m 18 #[.val (.ref a), .val (.ref b), .val (.int (2 : Int32))] [(.int (0 : Int32)), (.ref b)])
        refine g_dup2 C X54 (pc' := 19) d4_18 rfl rfl rfl ?_
        refine g_daload C X54 (pc' := 20) e54 Ad (by decide) (by decide) 0 (by decide) rfl d4_19 rfl ?_
        refine g_aloadN C X54 (pc' := 21) d4_20 rfl rfl rfl ?_
        refine g_getF C X54 (host := "") (Or.inl (hw _ (List.mem_of_getElem? (i := 18) rfl))) Via.refl e54 F2 d4_21 rfl ?_
        intro T55 X55 e55
        refine g_iloadN C X55 (pc' := 25) d4_24 rfl rfl ?_
        refine g_daload C X55 (pc' := 26) e55 Aw (by decide) (by decide) 2 (by decide) rfl d4_25 rfl ?_
        have D116 : FP.Core.DInt (k0 + i2) (FP.dadd d0 w2) := dadd_D D0 W2 (by show _ ≤ 9007199254740992; omega)
        refine g_dadd C X55 (pc' := 27) d4_26 (nn_of_int D116) rfl ?_
        refine g_dastore C X55 (pc' := 28) e55 Ad (by decide) (by decide) 0 0 (by decide) (of_decide_eq_true rfl) d4_27 rfl ?_
        intro T56 h56 X56 e56 W56 Aq
        have F1 := F1.other W56 (Or.inl n_a)
        have F2 := F2.other W56 (Or.inl n_a)
        have At := At.other W56 n_ta
        have Aw := Aw.other W56 n_aw
        have Z56 : n0 ≤ h56.size := by rw [W56.size]; exact Z52
        have N56 := Fr.snoc X56 N52 z_b
        have P56 := P52.wr W56 (Or.inl (List.mem_of_getElem? (i := 0) rfl))
        have Ad : Arv Z h56 b kd .double (4 : Int32) [(.double (FP.dadd d0 w2)), (.double (FP.dadd d1 w0)), (.double (FP.dadd d2 w1)), (.double d3)] (.double (0 : UInt64)) := Aq
        refine g_iinc C X56 (pc' := 31) d4_28 rfl (z := (3 : Int32)) (by decide) (l' := #[.val (.ref a), .val (.ref b), .val (.int (3 : Int32))]) rfl rfl ?_
        refine g_goto C X56 d4_31 (pc' := 2) (by decide) (by decide) ?_
        refine g_iloadN C X56 (pc' := 3) d4_2 rfl rfl ?_
        refine g_aloadN C X56 (pc' := 4) d4_3 rfl rfl rfl ?_
        refine g_getF C X56 (host := "") (Or.inl (hw _ (List.mem_of_getElem? (i := 16) rfl))) Via.refl e56 F1 d4_4 rfl ?_
        intro T57 X57 e57
        refine g_len C X57 (pc' := 8) e57 At d4_7 rfl ?_
        refine g_icmpY C X57 d4_8 (pc' := 34) (by decide) (by decide) (by decide) ?_
        have q0 := own_c0
        have q1 := own_c1
        have q2 := own_c2
        have q3 := own_c3
        have P0 : own_p 3 (1 : Int32) (2 : Int32) (0 : Int32) t3 i0 i1 i2 i3 0 i2 := by unfold own_p; refine ⟨fun _ _ => ?_, fun _ _ => ?_, fun _ _ => ?_, fun _ _ => ?_, fun _ _ _ _ => ?_⟩ <;> omega
        have P1 : own_p 3 (1 : Int32) (2 : Int32) (0 : Int32) t3 i0 i1 i2 i3 1 i0 := by unfold own_p; refine ⟨fun _ _ => ?_, fun _ _ => ?_, fun _ _ => ?_, fun _ _ => ?_, fun _ _ _ _ => ?_⟩ <;> omega
        have P2 : own_p 3 (1 : Int32) (2 : Int32) (0 : Int32) t3 i0 i1 i2 i3 2 i1 := by unfold own_p; refine ⟨fun _ _ => ?_, fun _ _ => ?_, fun _ _ => ?_, fun _ _ => ?_, fun _ _ _ _ => ?_⟩ <;> omega
        have P3 : own_p 3 (1 : Int32) (2 : Int32) (0 : Int32) t3 i0 i1 i2 i3 3 0 := by unfold own_p; refine ⟨fun _ _ => ?_, fun _ _ => ?_, fun _ _ => ?_, fun _ _ => ?_, fun _ _ _ _ => ?_⟩ <;> omega
        exact g_return C X57 d4_34 ⟨rfl, N56, by rw [e57]; exact P56, FP.dadd d0 w2, FP.dadd d1 w0, FP.dadd d2 w1, d3, i2, i0, i1, 0, D116, D111, D115, (by rw [Int.add_zero]; exact D3), P0, P1, P2, P3, by rw [e57]; exact Ad⟩ (by decide) (by decide)
      · exact absurd rfl hT.2.2.2.2.2.1
      · exact absurd rfl hT.2.2.2.2.2.2.2.1
      · show Go p.tables e below _ T54 (mkF m 18 #[.val (.ref a), .val (.ref b), .val (.int (2 : Int32))] [(.int (3 : Int32)), (.ref b)])
        refine g_dup2 C X54 (pc' := 19) d4_18 rfl rfl rfl ?_
        refine g_daload C X54 (pc' := 20) e54 Ad (by decide) (by decide) 3 (by decide) rfl d4_19 rfl ?_
        refine g_aloadN C X54 (pc' := 21) d4_20 rfl rfl rfl ?_
        refine g_getF C X54 (host := "") (Or.inl (hw _ (List.mem_of_getElem? (i := 18) rfl))) Via.refl e54 F2 d4_21 rfl ?_
        intro T58 X58 e58
        refine g_iloadN C X58 (pc' := 25) d4_24 rfl rfl ?_
        refine g_daload C X58 (pc' := 26) e58 Aw (by decide) (by decide) 2 (by decide) rfl d4_25 rfl ?_
        have D117 : FP.Core.DInt (k3 + i2) (FP.dadd d3 w2) := dadd_D D3 W2 (by show _ ≤ 9007199254740992; omega)
        refine g_dadd C X58 (pc' := 27) d4_26 (nn_of_int D117) rfl ?_
        refine g_dastore C X58 (pc' := 28) e58 Ad (by decide) (by decide) 3 0 (by decide) (of_decide_eq_true rfl) d4_27 rfl ?_
        intro T59 h59 X59 e59 W59 Aq
        have F1 := F1.other W59 (Or.inl n_a)
        have F2 := F2.other W59 (Or.inl n_a)
        have At := At.other W59 n_ta
        have Aw := Aw.other W59 n_aw
        have Z59 : n0 ≤ h59.size := by rw [W59.size]; exact Z52
        have N59 := Fr.snoc X59 N52 z_b
        have P59 := P52.wr W59 (Or.inl (List.mem_of_getElem? (i := 0) rfl))
        have Ad : Arv Z h59 b kd .double (4 : Int32) [(.double d0), (.double (FP.dadd d1 w0)), (.double (FP.dadd d2 w1)), (.double (FP.dadd d3 w2))] (.double (0 : UInt64)) := Aq
        refine g_iinc C X59 (pc' := 31) d4_28 rfl (z := (3 : Int32)) (by decide) (l' := #[.val (.ref a), .val (.ref b), .val (.int (3 : Int32))]) rfl rfl ?_
        refine g_goto C X59 d4_31 (pc' := 2) (by decide) (by decide) ?_
        refine g_iloadN C X59 (pc' := 3) d4_2 rfl rfl ?_
        refine g_aloadN C X59 (pc' := 4) d4_3 rfl rfl rfl ?_
        refine g_getF C X59 (host := "") (Or.inl (hw _ (List.mem_of_getElem? (i := 16) rfl))) Via.refl e59 F1 d4_4 rfl ?_
        intro T60 X60 e60
        refine g_len C X60 (pc' := 8) e60 At d4_7 rfl ?_
        refine g_icmpY C X60 d4_8 (pc' := 34) (by decide) (by decide) (by decide) ?_
        have q0 := own_c0
        have q1 := own_c1
        have q2 := own_c2
        have q3 := own_c3
        have P0 : own_p 3 (1 : Int32) (2 : Int32) (3 : Int32) t3 i0 i1 i2 i3 0 0 := by unfold own_p; refine ⟨fun _ _ => ?_, fun _ _ => ?_, fun _ _ => ?_, fun _ _ => ?_, fun _ _ _ _ => ?_⟩ <;> omega
        have P1 : own_p 3 (1 : Int32) (2 : Int32) (3 : Int32) t3 i0 i1 i2 i3 1 i0 := by unfold own_p; refine ⟨fun _ _ => ?_, fun _ _ => ?_, fun _ _ => ?_, fun _ _ => ?_, fun _ _ _ _ => ?_⟩ <;> omega
        have P2 : own_p 3 (1 : Int32) (2 : Int32) (3 : Int32) t3 i0 i1 i2 i3 2 i1 := by unfold own_p; refine ⟨fun _ _ => ?_, fun _ _ => ?_, fun _ _ => ?_, fun _ _ => ?_, fun _ _ _ _ => ?_⟩ <;> omega
        have P3 : own_p 3 (1 : Int32) (2 : Int32) (3 : Int32) t3 i0 i1 i2 i3 3 i2 := by unfold own_p; refine ⟨fun _ _ => ?_, fun _ _ => ?_, fun _ _ => ?_, fun _ _ => ?_, fun _ _ _ _ => ?_⟩ <;> omega
        exact g_return C X60 d4_34 ⟨rfl, N59, by rw [e60]; exact P59, d0, FP.dadd d1 w0, FP.dadd d2 w1, FP.dadd d3 w2, 0, i0, i1, i2, (by rw [Int.add_zero]; exact D0), D111, D115, D117, P0, P1, P2, P3, by rw [e60]; exact Ad⟩ (by decide) (by decide)
    · show Go p.tables e below _ T40 (mkF m 18 #[.val (.ref a), .val (.ref b), .val (.int (1 : Int32))] [(.int (3 : Int32)), (.ref b)])
      refine g_dup2 C X40 (pc' := 19) d4_18 rfl rfl rfl ?_
      refine g_daload C X40 (pc' := 20) e40 Ad (by decide) (by decide) 3 (by decide) rfl d4_19 rfl ?_
      refine g_aloadN C X40 (pc' := 21) d4_20 rfl rfl rfl ?_
      refine g_getF C X40 (host := "") (Or.inl (hw _ (List.mem_of_getElem? (i := 18) rfl))) Via.refl e40 F2 d4_21 rfl ?_
      intro T61 X61 e61
      refine g_iloadN C X61 (pc' := 25) d4_24 rfl rfl ?_
      refine g_daload C X61 (pc' := 26) e61 Aw (by decide) (by decide) 1 (by decide) rfl d4_25 rfl ?_
      have D118 : FP.Core.DInt (k3 + i1) (FP.dadd d3 w1) := dadd_D D3 W1 (by show _ ≤ 9007199254740992; omega)
      refine g_dadd C X61 (pc' := 27) d4_26 (nn_of_int D118) rfl ?_
      refine g_dastore C X61 (pc' := 28) e61 Ad (by decide) (by decide) 3 0 (by decide) (of_decide_eq_true rfl) d4_27 rfl ?_
      intro T62 h62 X62 e62 W62 Aq
      have F1 := F1.other W62 (Or.inl n_a)
      have F2 := F2.other W62 (Or.inl n_a)
      have At := At.other W62 n_ta
      have Aw := Aw.other W62 n_aw
      have Z62 : n0 ≤ h62.size := by rw [W62.size]; exact Z38
      have N62 := Fr.snoc X62 N38 z_b
      have P62 := P38.wr W62 (Or.inl (List.mem_of_getElem? (i := 0) rfl))
      have Ad : Arv Z h62 b kd .double (4 : Int32) [(.double d0), (.double (FP.dadd d1 w0)), (.double d2), (.double (FP.dadd d3 w1))] (.double (0 : UInt64)) := Aq
      refine g_iinc C X62 (pc' := 31) d4_28 rfl (z := (2 : Int32)) (by decide) (l' := #[.val (.ref a), .val (.ref b), .val (.int (2 : Int32))]) rfl rfl ?_
      refine g_goto C X62 d4_31 (pc' := 2) (by decide) (by decide) ?_
      refine g_iloadN C X62 (pc' := 3) d4_2 rfl rfl ?_
      refine g_aloadN C X62 (pc' := 4) d4_3 rfl rfl rfl ?_
      refine g_getF C X62 (host := "") (Or.inl (hw _ (List.mem_of_getElem? (i := 16) rfl))) Via.refl e62 F1 d4_4 rfl ?_
      intro T63 X63 e63
      refine g_len C X63 (pc' := 8) e63 At d4_7 rfl ?_
      refine g_icmpN C X63 d4_8 (by decide) rfl ?_
      refine g_aloadN C X63 (pc' := 12) d4_11 rfl rfl rfl ?_
      refine g_aloadN C X63 (pc' := 13) d4_12 rfl rfl rfl ?_
      refine g_getF C X63 (host := "") (Or.inl (hw _ (List.mem_of_getElem? (i := 16) rfl))) Via.refl e63 F1 d4_13 rfl ?_
      intro T64 X64 e64
      refine g_iloadN C X64 (pc' := 17) d4_16 rfl rfl ?_
      refine g_iaload C X64 (pc' := 18) e64 At (by decide) (by decide) 2 (by decide) rfl d4_17 rfl ?_
      rcases own_one hT.2.2.1 with rfl | rfl | rfl | rfl
      · show Go p.tables e below _ T64 (mkF m 18 #[.val (.ref a), .val (.ref b), .val (.int (2 : Int32))] [(.int (0 : Int32)), (.ref b)])
        refine g_dup2 C X64 (pc' := 19) d4_18 rfl rfl rfl ?_
        refine g_daload C X64 (pc' := 20) e64 Ad (by decide) (by decide) 0 (by decide) rfl d4_19 rfl ?_
        refine g_aloadN C X64 (pc' := 21) d4_20 rfl rfl rfl ?_
        refine g_getF C X64 (host := "") (Or.inl (hw _ (List.mem_of_getElem? (i := 18) rfl))) Via.refl e64 F2 d4_21 rfl ?_
        intro T65 X65 e65
        refine g_iloadN C X65 (pc' := 25) d4_24 rfl rfl ?_
        refine g_daload C X65 (pc' := 26) e65 Aw (by decide) (by decide) 2 (by decide) rfl d4_25 rfl ?_
        have D119 : FP.Core.DInt (k0 + i2) (FP.dadd d0 w2) := dadd_D D0 W2 (by show _ ≤ 9007199254740992; omega)
        refine g_dadd C X65 (pc' := 27) d4_26 (nn_of_int D119) rfl ?_
        refine g_dastore C X65 (pc' := 28) e65 Ad (by decide) (by decide) 0 0 (by decide) (of_decide_eq_true rfl) d4_27 rfl ?_
        intro T66 h66 X66 e66 W66 Aq
        have F1 := F1.other W66 (Or.inl n_a)
        have F2 := F2.other W66 (Or.inl n_a)
        have At := At.other W66 n_ta
        have Aw := Aw.other W66 n_aw
        have Z66 : n0 ≤ h66.size := by rw [W66.size]; exact Z62
        have N66 := Fr.snoc X66 N62 z_b
        have P66 := P62.wr W66 (Or.inl (List.mem_of_getElem? (i := 0) rfl))
        have Ad : Arv Z h66 b kd .double (4 : Int32) [(.double (FP.dadd d0 w2)), (.double (FP.dadd d1 w0)), (.double d2), (.double (FP.dadd d3 w1))] (.double (0 : UInt64)) := Aq
        refine g_iinc C X66 (pc' := 31) d4_28 rfl (z := (3 : Int32)) (by decide) (l' := #[.val (.ref a), .val (.ref b), .val (.int (3 : Int32))]) rfl rfl ?_
        refine g_goto C X66 d4_31 (pc' := 2) (by decide) (by decide) ?_
        refine g_iloadN C X66 (pc' := 3) d4_2 rfl rfl ?_
        refine g_aloadN C X66 (pc' := 4) d4_3 rfl rfl rfl ?_
        refine g_getF C X66 (host := "") (Or.inl (hw _ (List.mem_of_getElem? (i := 16) rfl))) Via.refl e66 F1 d4_4 rfl ?_
        intro T67 X67 e67
        refine g_len C X67 (pc' := 8) e67 At d4_7 rfl ?_
        refine g_icmpY C X67 d4_8 (pc' := 34) (by decide) (by decide) (by decide) ?_
        have q0 := own_c0
        have q1 := own_c1
        have q2 := own_c2
        have q3 := own_c3
        have P0 : own_p 3 (1 : Int32) (3 : Int32) (0 : Int32) t3 i0 i1 i2 i3 0 i2 := by unfold own_p; refine ⟨fun _ _ => ?_, fun _ _ => ?_, fun _ _ => ?_, fun _ _ => ?_, fun _ _ _ _ => ?_⟩ <;> omega
        have P1 : own_p 3 (1 : Int32) (3 : Int32) (0 : Int32) t3 i0 i1 i2 i3 1 i0 := by unfold own_p; refine ⟨fun _ _ => ?_, fun _ _ => ?_, fun _ _ => ?_, fun _ _ => ?_, fun _ _ _ _ => ?_⟩ <;> omega
        have P2 : own_p 3 (1 : Int32) (3 : Int32) (0 : Int32) t3 i0 i1 i2 i3 2 0 := by unfold own_p; refine ⟨fun _ _ => ?_, fun _ _ => ?_, fun _ _ => ?_, fun _ _ => ?_, fun _ _ _ _ => ?_⟩ <;> omega
        have P3 : own_p 3 (1 : Int32) (3 : Int32) (0 : Int32) t3 i0 i1 i2 i3 3 i1 := by unfold own_p; refine ⟨fun _ _ => ?_, fun _ _ => ?_, fun _ _ => ?_, fun _ _ => ?_, fun _ _ _ _ => ?_⟩ <;> omega
        exact g_return C X67 d4_34 ⟨rfl, N66, by rw [e67]; exact P66, FP.dadd d0 w2, FP.dadd d1 w0, d2, FP.dadd d3 w1, i2, i0, 0, i1, D119, D111, (by rw [Int.add_zero]; exact D2), D118, P0, P1, P2, P3, by rw [e67]; exact Ad⟩ (by decide) (by decide)
      · exact absurd rfl hT.2.2.2.2.2.1
      · show Go p.tables e below _ T64 (mkF m 18 #[.val (.ref a), .val (.ref b), .val (.int (2 : Int32))] [(.int (2 : Int32)), (.ref b)])
        refine g_dup2 C X64 (pc' := 19) d4_18 rfl rfl rfl ?_
        refine g_daload C X64 (pc' := 20) e64 Ad (by decide) (by decide) 2 (by decide) rfl d4_19 rfl ?_
        refine g_aloadN C X64 (pc' := 21) d4_20 rfl rfl rfl ?_
        refine g_getF C X64 (host := "") (Or.inl (hw _ (List.mem_of_getElem? (i := 18) rfl))) Via.refl e64 F2 d4_21 rfl ?_
        intro T68 X68 e68
        refine g_iloadN C X68 (pc' := 25) d4_24 rfl rfl ?_
        refine g_daload C X68 (pc' := 26) e68 Aw (by decide) (by decide) 2 (by decide) rfl d4_25 rfl ?_
        have D120 : FP.Core.DInt (k2 + i2) (FP.dadd d2 w2) := dadd_D D2 W2 (by show _ ≤ 9007199254740992; omega)
        refine g_dadd C X68 (pc' := 27) d4_26 (nn_of_int D120) rfl ?_
        refine g_dastore C X68 (pc' := 28) e68 Ad (by decide) (by decide) 2 0 (by decide) (of_decide_eq_true rfl) d4_27 rfl ?_
        intro T69 h69 X69 e69 W69 Aq
        have F1 := F1.other W69 (Or.inl n_a)
        have F2 := F2.other W69 (Or.inl n_a)
        have At := At.other W69 n_ta
        have Aw := Aw.other W69 n_aw
        have Z69 : n0 ≤ h69.size := by rw [W69.size]; exact Z62
        have N69 := Fr.snoc X69 N62 z_b
        have P69 := P62.wr W69 (Or.inl (List.mem_of_getElem? (i := 0) rfl))
        have Ad : Arv Z h69 b kd .double (4 : Int32) [(.double d0), (.double (FP.dadd d1 w0)), (.double (FP.dadd d2 w2)), (.double (FP.dadd d3 w1))] (.double (0 : UInt64)) := Aq
        refine g_iinc C X69 (pc' := 31) d4_28 rfl (z := (3 : Int32)) (by decide) (l' := #[.val (.ref a), .val (.ref b), .val (.int (3 : Int32))]) rfl rfl ?_
        refine g_goto C X69 d4_31 (pc' := 2) (by decide) (by decide) ?_
        refine g_iloadN C X69 (pc' := 3) d4_2 rfl rfl ?_
        refine g_aloadN C X69 (pc' := 4) d4_3 rfl rfl rfl ?_
        refine g_getF C X69 (host := "") (Or.inl (hw _ (List.mem_of_getElem? (i := 16) rfl))) Via.refl e69 F1 d4_4 rfl ?_
        intro T70 X70 e70
        refine g_len C X70 (pc' := 8) e70 At d4_7 rfl ?_
        refine g_icmpY C X70 d4_8 (pc' := 34) (by decide) (by decide) (by decide) ?_
        have q0 := own_c0
        have q1 := own_c1
        have q2 := own_c2
        have q3 := own_c3
        have P0 : own_p 3 (1 : Int32) (3 : Int32) (2 : Int32) t3 i0 i1 i2 i3 0 0 := by unfold own_p; refine ⟨fun _ _ => ?_, fun _ _ => ?_, fun _ _ => ?_, fun _ _ => ?_, fun _ _ _ _ => ?_⟩ <;> omega
        have P1 : own_p 3 (1 : Int32) (3 : Int32) (2 : Int32) t3 i0 i1 i2 i3 1 i0 := by unfold own_p; refine ⟨fun _ _ => ?_, fun _ _ => ?_, fun _ _ => ?_, fun _ _ => ?_, fun _ _ _ _ => ?_⟩ <;> omega
        have P2 : own_p 3 (1 : Int32) (3 : Int32) (2 : Int32) t3 i0 i1 i2 i3 2 i2 := by unfold own_p; refine ⟨fun _ _ => ?_, fun _ _ => ?_, fun _ _ => ?_, fun _ _ => ?_, fun _ _ _ _ => ?_⟩ <;> omega
        have P3 : own_p 3 (1 : Int32) (3 : Int32) (2 : Int32) t3 i0 i1 i2 i3 3 i1 := by unfold own_p; refine ⟨fun _ _ => ?_, fun _ _ => ?_, fun _ _ => ?_, fun _ _ => ?_, fun _ _ _ _ => ?_⟩ <;> omega
        exact g_return C X70 d4_34 ⟨rfl, N69, by rw [e70]; exact P69, d0, FP.dadd d1 w0, FP.dadd d2 w2, FP.dadd d3 w1, 0, i0, i2, i1, (by rw [Int.add_zero]; exact D0), D111, D120, D118, P0, P1, P2, P3, by rw [e70]; exact Ad⟩ (by decide) (by decide)
      · exact absurd rfl hT.2.2.2.2.2.2.2.1
  · show Go p.tables e below _ T2 (mkF m 18 #[.val (.ref a), .val (.ref b), .val (.int (0 : Int32))] [(.int (2 : Int32)), (.ref b)])
    refine g_dup2 C X2 (pc' := 19) d4_18 rfl rfl rfl ?_
    refine g_daload C X2 (pc' := 20) e2 Ad (by decide) (by decide) 2 (by decide) rfl d4_19 rfl ?_
    refine g_aloadN C X2 (pc' := 21) d4_20 rfl rfl rfl ?_
    refine g_getF C X2 (host := "") (Or.inl (hw _ (List.mem_of_getElem? (i := 18) rfl))) Via.refl e2 F2 d4_21 rfl ?_
    intro T71 X71 e71
    refine g_iloadN C X71 (pc' := 25) d4_24 rfl rfl ?_
    refine g_daload C X71 (pc' := 26) e71 Aw (by decide) (by decide) 0 (by decide) rfl d4_25 rfl ?_
    have D121 : FP.Core.DInt (k2 + i0) (FP.dadd d2 w0) := dadd_D D2 W0 (by show _ ≤ 9007199254740992; omega)
    refine g_dadd C X71 (pc' := 27) d4_26 (nn_of_int D121) rfl ?_
    refine g_dastore C X71 (pc' := 28) e71 Ad (by decide) (by decide) 2 0 (by decide) (of_decide_eq_true rfl) d4_27 rfl ?_
    intro T72 h72 X72 e72 W72 Aq
    have F1 := F1.other W72 (Or.inl n_a)
    have F2 := F2.other W72 (Or.inl n_a)
    have At := At.other W72 n_ta
    have Aw := Aw.other W72 n_aw
    have Z72 : n0 ≤ h72.size := by rw [W72.size]; exact Z0
    have N72 := Fr.snoc X72 (Fr.nil n0) z_b
    have P72 := (Keep.refl h [b]).wr W72 (Or.inl (List.mem_of_getElem? (i := 0) rfl))
    have Ad : Arv Z h72 b kd .double (4 : Int32) [(.double d0), (.double d1), (.double (FP.dadd d2 w0)), (.double d3)] (.double (0 : UInt64)) := Aq
    refine g_iinc C X72 (pc' := 31) d4_28 rfl (z := (1 : Int32)) (by decide) (l' := #[.val (.ref a), .val (.ref b), .val (.int (1 : Int32))]) rfl rfl ?_
    refine g_goto C X72 d4_31 (pc' := 2) (by decide) (by decide) ?_
    refine g_iloadN C X72 (pc' := 3) d4_2 rfl rfl ?_
    refine g_aloadN C X72 (pc' := 4) d4_3 rfl rfl rfl ?_
    refine g_getF C X72 (host := "") (Or.inl (hw _ (List.mem_of_getElem? (i := 16) rfl))) Via.refl e72 F1 d4_4 rfl ?_
    intro T73 X73 e73
    refine g_len C X73 (pc' := 8) e73 At d4_7 rfl ?_
    refine g_icmpN C X73 d4_8 (by decide) rfl ?_
    refine g_aloadN C X73 (pc' := 12) d4_11 rfl rfl rfl ?_
    refine g_aloadN C X73 (pc' := 13) d4_12 rfl rfl rfl ?_
    refine g_getF C X73 (host := "") (Or.inl (hw _ (List.mem_of_getElem? (i := 16) rfl))) Via.refl e73 F1 d4_13 rfl ?_
    intro T74 X74 e74
    refine g_iloadN C X74 (pc' := 17) d4_16 rfl rfl ?_
    refine g_iaload C X74 (pc' := 18) e74 At (by decide) (by decide) 1 (by decide) rfl d4_17 rfl ?_
    rcases own_one hT.2.1 with rfl | rfl | rfl | rfl
    · show Go p.tables e below _ T74 (mkF m 18 #[.val (.ref a), .val (.ref b), .val (.int (1 : Int32))] [(.int (0 : Int32)), (.ref b)])
      refine g_dup2 C X74 (pc' := 19) d4_18 rfl rfl rfl ?_
      refine g_daload C X74 (pc' := 20) e74 Ad (by decide) (by decide) 0 (by decide) rfl d4_19 rfl ?_
      refine g_aloadN C X74 (pc' := 21) d4_20 rfl rfl rfl ?_
      refine g_getF C X74 (host := "") (Or.inl (hw _ (List.mem_of_getElem? (i := 18) rfl))) Via.refl e74 F2 d4_21 rfl ?_
      intro T75 X75 e75
      refine g_iloadN C X75 (pc' := 25) d4_24 rfl rfl ?_
      refine g_daload C X75 (pc' := 26) e75 Aw (by decide) (by decide) 1 (by decide) rfl d4_25 rfl ?_
      have D122 : FP.Core.DInt (k0 + i1) (FP.dadd d0 w1) := dadd_D D0 W1 (by show _ ≤ 9007199254740992; omega)
      refine g_dadd C X75 (pc' := 27) d4_26 (nn_of_int D122) rfl ?_
      refine g_dastore C X75 (pc' := 28) e75 Ad (by decide) (by decide) 0 0 (by decide) (of_decide_eq_true rfl) d4_27 rfl ?_
      intro T76 h76 X76 e76 W76 Aq
      have F1 := F1.other W76 (Or.inl n_a)
      have F2 := F2.other W76 (Or.inl n_a)
      have At := At.other W76 n_ta
      have Aw := Aw.other W76 n_aw
      have Z76 : n0 ≤ h76.size := by rw [W76.size]; exact Z72
      have N76 := Fr.snoc X76 N72 z_b
      have P76 := P72.wr W76 (Or.inl (List.mem_of_getElem? (i := 0) rfl))
      have Ad : Arv Z h76 b kd .double (4 : Int32) [(.double (FP.dadd d0 w1)), (.double d1), (.double (FP.dadd d2 w0)), (.double d3)] (.double (0 : UInt64)) := Aq
      refine g_iinc C X76 (pc' := 31) d4_28 rfl (z := (2 : Int32)) (by decide) (l' := #[.val (.ref a), .val (.ref b), .val (.int (2 : Int32))]) rfl rfl ?_
      refine g_goto C X76 d4_31 (pc' := 2) (by decide) (by decide) ?_
      refine g_iloadN C X76 (pc' := 3) d4_2 rfl rfl ?_
      refine g_aloadN C X76 (pc' := 4) d4_3 rfl rfl rfl ?_
      refine g_getF C X76 (host := "") (Or.inl (hw _ (List.mem_of_getElem? (i := 16) rfl))) Via.refl e76 F1 d4_4 rfl ?_
      intro T77 X77 e77
      refine g_len C X77 (pc' := 8) e77 At d4_7 rfl ?_
      refine g_icmpN C X77 d4_8 (by decide) rfl ?_
      refine g_aloadN C X77 (pc' := 12) d4_11 rfl rfl rfl ?_
      refine g_aloadN C X77 (pc' := 13) d4_12 rfl rfl rfl ?_
      refine g_getF C X77 (host := "") (Or.inl (hw _ (List.mem_of_getElem? (i := 16) rfl))) Via.refl e77 F1 d4_13 rfl ?_
      intro T78 X78 e78
      refine g_iloadN C X78 (pc' := 17) d4_16 rfl rfl ?_
      refine g_iaload C X78 (pc' := 18) e78 At (by decide) (by decide) 2 (by decide) rfl d4_17 rfl ?_
      rcases own_one hT.2.2.1 with rfl | rfl | rfl | rfl
      · exact absurd rfl hT.2.2.2.2.2.2.2.1
      · show Go p.tables e below _ T78 (mkF m 18 #[.val (.ref a), .val (.ref b), .val (.int (2 : Int32))] [(.int (1 : Int32)), (.ref b)])
        refine g_dup2 C X78 (pc' := 19) d4_18 rfl rfl rfl ?_
        refine g_daload C X78 (pc' := 20) e78 Ad (by decide) (by decide) 1 (by decide) rfl d4_19 rfl ?_
        refine g_aloadN C X78 (pc' := 21) d4_20 rfl rfl rfl ?_
        refine g_getF C X78 (host := "") (Or.inl (hw _ (List.mem_of_getElem? (i := 18) rfl))) Via.refl e78 F2 d4_21 rfl ?_
        intro T79 X79 e79
        refine g_iloadN C X79 (pc' := 25) d4_24 rfl rfl ?_
        refine g_daload C X79 (pc' := 26) e79 Aw (by decide) (by decide) 2 (by decide) rfl d4_25 rfl ?_
        have D123 : FP.Core.DInt (k1 + i2) (FP.dadd d1 w2) := dadd_D D1 W2 (by show _ ≤ 9007199254740992; omega)
        refine g_dadd C X79 (pc' := 27) d4_26 (nn_of_int D123) rfl ?_
        refine g_dastore C X79 (pc' := 28) e79 Ad (by decide) (by decide) 1 0 (by decide) (of_decide_eq_true rfl) d4_27 rfl ?_
        intro T80 h80 X80 e80 W80 Aq
        have F1 := F1.other W80 (Or.inl n_a)
        have F2 := F2.other W80 (Or.inl n_a)
        have At := At.other W80 n_ta
        have Aw := Aw.other W80 n_aw
        have Z80 : n0 ≤ h80.size := by rw [W80.size]; exact Z76
        have N80 := Fr.snoc X80 N76 z_b
        have P80 := P76.wr W80 (Or.inl (List.mem_of_getElem? (i := 0) rfl))
        have Ad : Arv Z h80 b kd .double (4 : Int32) [(.double (FP.dadd d0 w1)), (.double (FP.dadd d1 w2)), (.double (FP.dadd d2 w0)), (.double d3)] (.double (0 : UInt64)) := Aq
        refine g_iinc C X80 (pc' := 31) d4_28 rfl (z := (3 : Int32)) (by decide) (l' := #[.val (.ref a), .val (.ref b), .val (.int (3 : Int32))]) rfl rfl ?_
        refine g_goto C X80 d4_31 (pc' := 2) (by decide) (by decide) ?_
        refine g_iloadN C X80 (pc' := 3) d4_2 rfl rfl ?_
        refine g_aloadN C X80 (pc' := 4) d4_3 rfl rfl rfl ?_
        refine g_getF C X80 (host := "") (Or.inl (hw _ (List.mem_of_getElem? (i := 16) rfl))) Via.refl e80 F1 d4_4 rfl ?_
        intro T81 X81 e81
        refine g_len C X81 (pc' := 8) e81 At d4_7 rfl ?_
        refine g_icmpY C X81 d4_8 (pc' := 34) (by decide) (by decide) (by decide) ?_
        have q0 := own_c0
        have q1 := own_c1
        have q2 := own_c2
        have q3 := own_c3
        have P0 : own_p 3 (2 : Int32) (0 : Int32) (1 : Int32) t3 i0 i1 i2 i3 0 i1 := by unfold own_p; refine ⟨fun _ _ => ?_, fun _ _ => ?_, fun _ _ => ?_, fun _ _ => ?_, fun _ _ _ _ => ?_⟩ <;> omega
        have P1 : own_p 3 (2 : Int32) (0 : Int32) (1 : Int32) t3 i0 i1 i2 i3 1 i2 := by unfold own_p; refine ⟨fun _ _ => ?_, fun _ _ => ?_, fun _ _ => ?_, fun _ _ => ?_, fun _ _ _ _ => ?_⟩ <;> omega
        have P2 : own_p 3 (2 : Int32) (0 : Int32) (1 : Int32) t3 i0 i1 i2 i3 2 i0 := by unfold own_p; refine ⟨fun _ _ => ?_, fun _ _ => ?_, fun _ _ => ?_, fun _ _ => ?_, fun _ _ _ _ => ?_⟩ <;> omega
        have P3 : own_p 3 (2 : Int32) (0 : Int32) (1 : Int32) t3 i0 i1 i2 i3 3 0 := by unfold own_p; refine ⟨fun _ _ => ?_, fun _ _ => ?_, fun _ _ => ?_, fun _ _ => ?_, fun _ _ _ _ => ?_⟩ <;> omega
        exact g_return C X81 d4_34 ⟨rfl, N80, by rw [e81]; exact P80, FP.dadd d0 w1, FP.dadd d1 w2, FP.dadd d2 w0, d3, i1, i2, i0, 0, D122, D123, D121, (by rw [Int.add_zero]; exact D3), P0, P1, P2, P3, by rw [e81]; exact Ad⟩ (by decide) (by decide)
      · exact absurd rfl hT.2.2.2.2.2.1
      · show Go p.tables e below _ T78 (mkF m 18 #[.val (.ref a), .val (.ref b), .val (.int (2 : Int32))] [(.int (3 : Int32)), (.ref b)])
        refine g_dup2 C X78 (pc' := 19) d4_18 rfl rfl rfl ?_
        refine g_daload C X78 (pc' := 20) e78 Ad (by decide) (by decide) 3 (by decide) rfl d4_19 rfl ?_
        refine g_aloadN C X78 (pc' := 21) d4_20 rfl rfl rfl ?_
        refine g_getF C X78 (host := "") (Or.inl (hw _ (List.mem_of_getElem? (i := 18) rfl))) Via.refl e78 F2 d4_21 rfl ?_
        intro T82 X82 e82
        refine g_iloadN C X82 (pc' := 25) d4_24 rfl rfl ?_
        refine g_daload C X82 (pc' := 26) e82 Aw (by decide) (by decide) 2 (by decide) rfl d4_25 rfl ?_
        have D124 : FP.Core.DInt (k3 + i2) (FP.dadd d3 w2) := dadd_D D3 W2 (by show _ ≤ 9007199254740992; omega)
        refine g_dadd C X82 (pc' := 27) d4_26 (nn_of_int D124) rfl ?_
        refine g_dastore C X82 (pc' := 28) e82 Ad (by decide) (by decide) 3 0 (by decide) (of_decide_eq_true rfl) d4_27 rfl ?_
        intro T83 h83 X83 e83 W83 Aq
        have F1 := F1.other W83 (Or.inl n_a)
        have F2 := F2.other W83 (Or.inl n_a)
        have At := At.other W83 n_ta
        have Aw := Aw.other W83 n_aw
        have Z83 : n0 ≤ h83.size := by rw [W83.size]; exact Z76
        have N83 := Fr.snoc X83 N76 z_b
        have P83 := P76.wr W83 (Or.inl (List.mem_of_getElem? (i := 0) rfl))
        have Ad : Arv Z h83 b kd .double (4 : Int32) [(.double (FP.dadd d0 w1)), (.double d1), (.double (FP.dadd d2 w0)), (.double (FP.dadd d3 w2))] (.double (0 : UInt64)) := Aq
        refine g_iinc C X83 (pc' := 31) d4_28 rfl (z := (3 : Int32)) (by decide) (l' := #[.val (.ref a), .val (.ref b), .val (.int (3 : Int32))]) rfl rfl ?_
        refine g_goto C X83 d4_31 (pc' := 2) (by decide) (by decide) ?_
        refine g_iloadN C X83 (pc' := 3) d4_2 rfl rfl ?_
        refine g_aloadN C X83 (pc' := 4) d4_3 rfl rfl rfl ?_
        refine g_getF C X83 (host := "") (Or.inl (hw _ (List.mem_of_getElem? (i := 16) rfl))) Via.refl e83 F1 d4_4 rfl ?_
        intro T84 X84 e84
        refine g_len C X84 (pc' := 8) e84 At d4_7 rfl ?_
        refine g_icmpY C X84 d4_8 (pc' := 34) (by decide) (by decide) (by decide) ?_
        have q0 := own_c0
        have q1 := own_c1
        have q2 := own_c2
        have q3 := own_c3
        have P0 : own_p 3 (2 : Int32) (0 : Int32) (3 : Int32) t3 i0 i1 i2 i3 0 i1 := by unfold own_p; refine ⟨fun _ _ => ?_, fun _ _ => ?_, fun _ _ => ?_, fun _ _ => ?_, fun _ _ _ _ => ?_⟩ <;> omega
        have P1 : own_p 3 (2 : Int32) (0 : Int32) (3 : Int32) t3 i0 i1 i2 i3 1 0 := by unfold own_p; refine ⟨fun _ _ => ?_, fun _ _ => ?_, fun _ _ => ?_, fun _ _ => ?_, fun _ _ _ _ => ?_⟩ <;> omega
        have P2 : own_p 3 (2 : Int32) (0 : Int32) (3 : Int32) t3 i0 i1 i2 i3 2 i0 := by unfold own_p; refine ⟨fun _ _ => ?_, fun _ _ => ?_, fun _ _ => ?_, fun _ _ => ?_, fun _ _ _ _ => ?_⟩ <;> omega
        have P3 : own_p 3 (2 : Int32) (0 : Int32) (3 : Int32) t3 i0 i1 i2 i3 3 i2 := by unfold own_p; refine ⟨fun _ _ => ?_, fun _ _ => ?_, fun _ _ => ?_, fun _ _ => ?_, fun _ _ _ _ => ?_⟩ <;> omega
        exact g_return C X84 d4_34 ⟨rfl, N83, by rw [e84]; exact P83, FP.dadd d0 w1, d1, FP.dadd d2 w0, FP.dadd d3 w2, i1, 0, i0, i2, D122, (by rw [Int.add_zero]; exact D1), D121, D124, P0, P1, P2, P3, by rw [e84]; exact Ad⟩ (by decide) (by decide)
    · show Go p.tables e below _ T74 (mkF m 18 #[.val (.ref a), .val (.ref b), .val (.int (1 : Int32))] [(.int (1 : Int32)), (.ref b)])
      refine g_dup2 C X74 (pc' := 19) d4_18 rfl rfl rfl ?_
      refine g_daload C X74 (pc' := 20) e74 Ad (by decide) (by decide) 1 (by decide) rfl d4_19 rfl ?_
      refine g_aloadN C X74 (pc' := 21) d4_20 rfl rfl rfl ?_
      refine g_getF C X74 (host := "") (Or.inl (hw _ (List.mem_of_getElem? (i := 18) rfl))) Via.refl e74 F2 d4_21 rfl ?_
      intro T85 X85 e85
      refine g_iloadN C X85 (pc' := 25) d4_24 rfl rfl ?_
      refine g_daload C X85 (pc' := 26) e85 Aw (by decide) (by decide) 1 (by decide) rfl d4_25 rfl ?_
      have D125 : FP.Core.DInt (k1 + i1) (FP.dadd d1 w1) := dadd_D D1 W1 (by show _ ≤ 9007199254740992; omega)
      refine g_dadd C X85 (pc' := 27) d4_26 (nn_of_int D125) rfl ?_
      refine g_dastore C X85 (pc' := 28) e85 Ad (by decide) (by decide) 1 0 (by decide) (of_decide_eq_true rfl) d4_27 rfl ?_
      intro T86 h86 X86 e86 W86 Aq
      have F1 := F1.other W86 (Or.inl n_a)
      have F2 := F2.other W86 (Or.inl n_a)
      have At := At.other W86 n_ta
      have Aw := Aw.other W86 n_aw
      have Z86 : n0 ≤ h86.size := by rw [W86.size]; exact Z72
      have N86 := Fr.snoc X86 N72 z_b
      have P86 := P72.wr W86 (Or.inl (List.mem_of_getElem? (i := 0) rfl))
      have Ad : Arv Z h86 b kd .double (4 : Int32) [(.double d0), (.double (FP.dadd d1 w1)), (.double (FP.dadd d2 w0)), (.double d3)] (.double (0 : UInt64)) := Aq
      refine g_iinc C X86 (pc' := 31) d4_28 rfl (z := (2 : Int32)) (by decide) (l' := #[.val (.ref a), .val (.ref b), .val (.int (2 : Int32))]) rfl rfl ?_
      refine g_goto C X86 d4_31 (pc' := 2) (by decide) (by decide) ?_
      refine g_iloadN C X86 (pc' := 3) d4_2 rfl rfl ?_
      refine g_aloadN C X86 (pc' := 4) d4_3 rfl rfl rfl ?_
      refine g_getF C X86 (host := "") (Or.inl (hw _ (List.mem_of_getElem? (i := 16) rfl))) Via.refl e86 F1 d4_4 rfl ?_
      intro T87 X87 e87
      refine g_len C X87 (pc' := 8) e87 At d4_7 rfl ?_
      refine g_icmpN C X87 d4_8 (by decide) rfl ?_
      refine g_aloadN C X87 (pc' := 12) d4_11 rfl rfl rfl ?_
      refine g_aloadN C X87 (pc' := 13) d4_12 rfl rfl rfl ?_
      refine g_getF C X87 (host := "") (Or.inl (hw _ (List.mem_of_getElem? (i := 16) rfl))) Via.refl e87 F1 d4_13 rfl ?_
      intro T88 X88 e88
      refine g_iloadN C X88 (pc' := 17) d4_16 rfl rfl ?_
      refine g_iaload C X88 (pc' := 18) e88 At (by decide) (by decide) 2 (by decide) rfl d4_17 rfl ?_
      rcases own_one hT.2.2.1 with rfl | rfl | rfl | rfl
      · show Go p.tables e below _ T88 (mkF m 18 #[.val (.ref a), .val (.ref b), .val (.int (2 : Int32))] [(.int (0 : Int32)), (.ref b)])
        refine g_dup2 C X88 (pc' := 19) d4_18 rfl rfl rfl ?_
        refine g_daload C X88 (pc' := 20) e88 Ad (by decide) (by decide) 0 (by decide) rfl d4_19 rfl ?_
        refine g_aloadN C X88 (pc' := 21) d4_20 rfl rfl rfl ?_
        refine g_getF C X88 (host := "") (Or.inl (hw _ (List.mem_of_getElem? (i := 18) rfl))) Via.refl e88 F2 d4_21 rfl ?_
        intro T89 X89 e89
        refine g_iloadN C X89 (pc' := 25) d4_24 rfl rfl ?_
        refine g_daload C X89 (pc' := 26) e89 Aw (by decide) (by decide) 2 (by decide) rfl d4_25 rfl ?_
        have D126 : FP.Core.DInt (k0 + i2) (FP.dadd d0 w2) := dadd_D D0 W2 (by show _ ≤ 9007199254740992; omega)
        refine g_dadd C X89 (pc' := 27) d4_26 (nn_of_int D126) rfl ?_
        refine g_dastore C X89 (pc' := 28) e89 Ad (by decide) (by decide) 0 0 (by decide) (of_decide_eq_true rfl) d4_27 rfl ?_
        intro T90 h90 X90 e90 W90 Aq
        have F1 := F1.other W90 (Or.inl n_a)
        have F2 := F2.other W90 (Or.inl n_a)
        have At := At.other W90 n_ta
        have Aw := Aw.other W90 n_aw
        have Z90 : n0 ≤ h90.size := by rw [W90.size]; exact Z86
        have N90 := Fr.snoc X90 N86 z_b
        have P90 := P86.wr W90 (Or.inl (List.mem_of_getElem? (i := 0) rfl))
        have Ad : Arv Z h90 b kd .double (4 : Int32) [(.double (FP.dadd d0 w2)), (.double (FP.dadd d1 w1)), (.double (FP.dadd d2 w0)), (.double d3)] (.double (0 : UInt64)) := Aq
        refine g_iinc C X90 (pc' := 31) d4_28 rfl (z := (3 : Int32)) (by decide) (l' := #[.val (.ref a), .val (.ref b), .val (.int (3 : Int32))]) rfl rfl ?_
        refine g_goto C X90 d4_31 (pc' := 2) (by decide) (by decide) ?_
        refine g_iloadN C X90 (pc' := 3) d4_2 rfl rfl ?_
        refine g_aloadN C X90 (pc' := 4) d4_3 rfl rfl rfl ?_
        refine g_getF C X90 (host := "") (Or.inl (hw _ (List.mem_of_getElem? (i := 16) rfl))) Via.refl e90 F1 d4_4 rfl ?_
        intro T91 X91 e91
        refine g_len C X91 (pc' := 8) e91 At d4_7 rfl ?_
        refine g_icmpY C X91 d4_8 (pc' := 34) (by decide) (by decide) (by decide) ?_
        have q0 := own_c0
        have q1 := own_c1
        have q2 := own_c2
        have q3 := own_c3
        have P0 : own_p 3 (2 : Int32) (1 : Int32) (0 : Int32) t3 i0 i1 i2 i3 0 i2 := by unfold own_p; refine ⟨fun _ _ => ?_, fun _ _ => ?_, fun _ _ => ?_, fun _ _ => ?_, fun _ _ _ _ => ?_⟩ <;> omega
        have P1 : own_p 3 (2 : Int32) (1 : Int32) (0 : Int32) t3 i0 i1 i2 i3 1 i1 := by unfold own_p; refine ⟨fun _ _ => ?_, fun _ _ => ?_, fun _ _ => ?_, fun _ _ => ?_, fun _ _ _ _ => ?_⟩ <;> omega
        have P2 : own_p 3 (2 : Int32) (1 : Int32) (0 : Int32) t3 i0 i1 i2 i3 2 i0 := by unfold own_p; refine ⟨fun _ _ => ?_, fun _ _ => ?_, fun _ _ => ?_, fun _ _ => ?_, fun _ _ _ _ => ?_⟩ <;> omega
        have P3 : own_p 3 (2 : Int32) (1 : Int32) (0 : Int32) t3 i0 i1 i2 i3 3 0 := by unfold own_p; refine ⟨fun _ _ => ?_, fun _ _ => ?_, fun _ _ => ?_, fun _ _ => ?_, fun _ _ _ _ => ?_⟩ <;> omega
        exact g_return C X91 d4_34 ⟨rfl, N90, by rw [e91]; exact P90, FP.dadd d0 w2, FP.dadd d1 w1, FP.dadd d2 w0, d3, i2, i1, i0, 0, D126, D125, D121, (by rw [Int.add_zero]; exact D3), P0, P1, P2, P3, by rw [e91]; exact Ad⟩ (by decide) (by decide)
      · exact absurd rfl hT.2.2.2.2.2.2.2.1
      · exact absurd rfl hT.2.2.2.2.2.1
      · show Go p.tables e below _ T88 (mkF m 18 #[.val (.ref a), .val (.ref b), .val (.int (2 : Int32))] [(.int (3 : Int32)), (.ref b)])
        refine g_dup2 C X88 (pc' := 19) d4_18 rfl rfl rfl ?_
        refine g_daload C X88 (pc' := 20) e88 Ad (by decide) (by decide) 3 (by decide) rfl d4_19 rfl ?_
        refine g_aloadN C X88 (pc' := 21) d4_20 rfl rfl rfl ?_
        refine g_getF C X88 (host := "") (Or.inl (hw _ (List.mem_of_getElem? (i := 18) rfl))) Via.refl e88 F2 d4_21 rfl ?_
        intro T92 X92 e92
        refine g_iloadN C X92 (pc' := 25) d4_24 rfl rfl ?_
        refine g_daload C X92 (pc' := 26) e92 Aw (by decide) (by decide) 2 (by decide) rfl d4_25 rfl ?_
        have D127 : FP.Core.DInt (k3 + i2) (FP.dadd d3 w2) := dadd_D D3 W2 (by show _ ≤ 9007199254740992; omega)
        refine g_dadd C X92 (pc' := 27) d4_26 (nn_of_int D127) rfl ?_
        refine g_dastore C X92 (pc' := 28) e92 Ad (by decide) (by decide) 3 0 (by decide) (of_decide_eq_true rfl) d4_27 rfl ?_
        intro T93 h93 X93 e93 W93 Aq
        have F1 := F1.other W93 (Or.inl n_a)
        have F2 := F2.other W93 (Or.inl n_a)
        have At := At.other W93 n_ta
        have Aw := Aw.other W93 n_aw
        have Z93 : n0 ≤ h93.size := by rw [W93.size]; exact Z86
        have N93 := Fr.snoc X93 N86 z_b
        have P93 := P86.wr W93 (Or.inl (List.mem_of_getElem? (i := 0) rfl))
        have Ad : Arv Z h93 b kd .double (4 : Int32) [(.double d0), (.double (FP.dadd d1 w1)), (.double (FP.dadd d2 w0)), (.double (FP.dadd d3 w2))] (.double (0 : UInt64)) := Aq
        refine g_iinc C X93 (pc' := 31) d4_28 rfl (z := (3 : Int32)) (by decide) (l' := #[.val (.ref a), .val (.ref b), .val (.int (3 : Int32))]) rfl rfl ?_
        refine g_goto C X93 d4_31 (pc' := 2) (by decide) (by decide) ?_
        refine g_iloadN C X93 (pc' := 3) d4_2 rfl rfl ?_
        refine g_aloadN C X93 (pc' := 4) d4_3 rfl rfl rfl ?_
        refine g_getF C X93 (host := "") (Or.inl (hw _ (List.mem_of_getElem? (i := 16) rfl))) Via.refl e93 F1 d4_4 rfl ?_
        intro T94 X94 e94
        refine g_len C X94 (pc' := 8) e94 At d4_7 rfl ?_
        refine g_icmpY C X94 d4_8 (pc' := 34) (by decide) (by decide) (by decide) ?_
        have q0 := own_c0
        have q1 := own_c1
        have q2 := own_c2
        have q3 := own_c3
        have P0 : own_p 3 (2 : Int32) (1 : Int32) (3 : Int32) t3 i0 i1 i2 i3 0 0 := by unfold own_p; refine ⟨fun _ _ => ?_, fun _ _ => ?_, fun _ _ => ?_, fun _ _ => ?_, fun _ _ _ _ => ?_⟩ <;> omega
        have P1 : own_p 3 (2 : Int32) (1 : Int32) (3 : Int32) t3 i0 i1 i2 i3 1 i1 := by unfold own_p; refine ⟨fun _ _ => ?_, fun _ _ => ?_, fun _ _ => ?_, fun _ _ => ?_, fun _ _ _ _ => ?_⟩ <;> omega
        have P2 : own_p 3 (2 : Int32) (1 : Int32) (3 : Int32) t3 i0 i1 i2 i3 2 i0 := by unfold own_p; refine ⟨fun _ _ => ?_, fun _ _ => ?_, fun _ _ => ?_, fun _ _ => ?_, fun _ _ _ _ => ?_⟩ <;> omega
        have P3 : own_p 3 (2 : Int32) (1 : Int32) (3 : Int32) t3 i0 i1 i2 i3 3 i2 := by unfold own_p; refine ⟨fun _ _ => ?_, fun _ _ => ?_, fun _ _ => ?_, fun _ _ => ?_, fun _ _ _ _ => ?_⟩ <;> omega
        exact g_return C X94 d4_34 ⟨rfl, N93, by rw [e94]; exact P93, d0, FP.dadd d1 w1, FP.dadd d2 w0, FP.dadd d3 w2, 0, i1, i0, i2, (by rw [Int.add_zero]; exact D0), D125, D121, D127, P0, P1, P2, P3, by rw [e94]; exact Ad⟩ (by decide) (by decide)
    · exact absurd rfl hT.2.2.2.2.1
    · show Go p.tables e below _ T74 (mkF m 18 #[.val (.ref a), .val (.ref b), .val (.int (1 : Int32))] [(.int (3 : Int32)), (.ref b)])
      refine g_dup2 C X74 (pc' := 19) d4_18 rfl rfl rfl ?_
      refine g_daload C X74 (pc' := 20) e74 Ad (by decide) (by decide) 3 (by decide) rfl d4_19 rfl ?_
      refine g_aloadN C X74 (pc' := 21) d4_20 rfl rfl rfl ?_
      refine g_getF C X74 (host := "") (Or.inl (hw _ (List.mem_of_getElem? (i := 18) rfl))) Via.refl e74 F2 d4_21 rfl ?_
      intro T95 X95 e95
      refine g_iloadN C X95 (pc' := 25) d4_24 rfl rfl ?_
      refine g_daload C X95 (pc' := 26) e95 Aw (by decide) (by decide) 1 (by decide) rfl d4_25 rfl ?_
      have D128 : FP.Core.DInt (k3 + i1) (FP.dadd d3 w1) := dadd_D D3 W1 (by show _ ≤ 9007199254740992; omega)
      refine g_dadd C X95 (pc' := 27) d4_26 (nn_of_int D128) rfl ?_
      refine g_dastore C X95 (pc' := 28) e95 Ad (by decide) (by decide) 3 0 (by decide) (of_decide_eq_true rfl) d4_27 rfl ?_
      intro T96 h96 X96 e96 W96 Aq
      have F1 := F1.other W96 (Or.inl n_a)
      have F2 := F2.other W96 (Or.inl n_a)
      have At := At.other W96 n_ta
      have Aw := Aw.other W96 n_aw
      have Z96 : n0 ≤ h96.size := by rw [W96.size]; exact Z72
      have N96 := Fr.snoc X96 N72 z_b
      have P96 := P72.wr W96 (Or.inl (List.mem_of_getElem? (i := 0) rfl))
      have Ad : Arv Z h96 b kd .double (4 : Int32) [(.double d0), (.double d1), (.double (FP.dadd d2 w0)), (.double (FP.dadd d3 w1))] (.double (0 : UInt64)) := Aq
      refine g_iinc C X96 (pc' := 31) d4_28 rfl (z := (2 : Int32)) (by decide) (l' := #[.val (.ref a), .val (.ref b), .val (.int (2 : Int32))]) rfl rfl ?_
      refine g_goto C X96 d4_31 (pc' := 2) (by decide) (by decide) ?_
      refine g_iloadN C X96 (pc' := 3) d4_2 rfl rfl ?_
      refine g_aloadN C X96 (pc' := 4) d4_3 rfl rfl rfl ?_
      refine g_getF C X96 (host := "") (Or.inl (hw _ (List.mem_of_getElem? (i := 16) rfl))) Via.refl e96 F1 d4_4 rfl ?_
      intro T97 X97 e97
      refine g_len C X97 (pc' := 8) e97 At d4_7 rfl ?_
      refine g_icmpN C X97 d4_8 (by decide) rfl ?_
      refine g_aloadN C X97 (pc' := 12) d4_11 rfl rfl rfl ?_
      refine g_aloadN C X97 (pc' := 13) d4_12 rfl rfl rfl ?_
      refine g_getF C X97 (host := "") (Or.inl (hw _ (List.mem_of_getElem? (i := 16) rfl))) Via.refl e97 F1 d4_13 rfl ?_
      intro T98 X98 e98
      refine g_iloadN C X98 (pc' := 17) d4_16 rfl rfl ?_
      refine g_iaload C X98 (pc' := 18) e98 At (by decide) (by decide) 2 (by decide) rfl d4_17 rfl ?_
      rcases own_one hT.2.2.1 with rfl | rfl | rfl | rfl
      · show Go p.tables e below _ T98 (mkF m 18 #[.val (.ref a), .val (.ref b), .val (.int (2 : Int32))] [(.int (0 : Int32)), (.ref b)])
        refine g_dup2 C X98 (pc' := 19) d4_18 rfl rfl rfl ?_
        refine g_daload C X98 (pc' := 20) e98 Ad (by decide) (by decide) 0 (by decide) rfl d4_19 rfl ?_
        refine g_aloadN C X98 (pc' := 21) d4_20 rfl rfl rfl ?_
        refine g_getF C X98 (host := "") (Or.inl (hw _ (List.mem_of_getElem? (i := 18) rfl))) Via.refl e98 F2 d4_21 rfl ?_
        intro T99 X99 e99
        refine g_iloadN C X99 (pc' := 25) d4_24 rfl rfl ?_
        refine g_daload C X99 (pc' := 26) e99 Aw (by decide) (by decide) 2 (by decide) rfl d4_25 rfl ?_
        have D129 : FP.Core.DInt (k0 + i2) (FP.dadd d0 w2) := dadd_D D0 W2 (by show _ ≤ 9007199254740992; omega)
        refine g_dadd C X99 (pc' := 27) d4_26 (nn_of_int D129) rfl ?_
        refine g_dastore C X99 (pc' := 28) e99 Ad (by decide) (by decide) 0 0 (by decide) (of_decide_eq_true rfl) d4_27 rfl ?_
        intro T100 h100 X100 e100 W100 Aq
        have F1 := F1.other W100 (Or.inl n_a)
        have F2 := F2.other W100 (Or.inl n_a)
        have At := At.other W100 n_ta
        have Aw := Aw.other W100 n_aw
        have Z100 : n0 ≤ h100.size := by rw [W100.size]; exact Z96
        have N100 := Fr.snoc X100 N96 z_b
        have P100 := P96.wr W100 (Or.inl (List.mem_of_getElem? (i := 0) rfl))
        have Ad : Arv Z h100 b kd .double (4 : Int32) [(.double (FP.dadd d0 w2)), (.double d1), (.double (FP.dadd d2 w0)), (.double (FP.dadd d3 w1))] (.double (0 : UInt64)) := Aq
        refine g_iinc C X100 (pc' := 31) d4_28 rfl (z := (3 : Int32)) (by decide) (l' := #[.val (.ref a), .val (.ref b), .val (.int (3 : Int32))]) rfl rfl ?_
        refine g_goto C X100 d4_31 (pc' := 2) (by decide) (by decide) ?_
        refine g_iloadN C X100 (pc' := 3) d4_2 rfl rfl ?_
        refine g_aloadN C X100 (pc' := 4) d4_3 rfl rfl rfl ?_
        refine g_getF C X100 (host := "") (Or.inl (hw _ (List.mem_of_getElem? (i := 16) rfl))) Via.refl e100 F1 d4_4 rfl ?_
        intro T101 X101 e101
        refine g_len C X101 (pc' := 8) e101 At d4_7 rfl ?_
        refine g_icmpY C X101 d4_8 (pc' := 34) (by decide) (by decide) (by decide) ?_
        have q0 := own_c0
        have q1 := own_c1
        have q2 := own_c2
        have q3 := own_c3
        have P0 : own_p 3 (2 : Int32) (3 : Int32) (0 : Int32) t3 i0 i1 i2 i3 0 i2 := by unfold own_p; refine ⟨fun _ _ => ?_, fun _ _ => ?_, fun _ _ => ?_, fun _ _ => ?_, fun _ _ _ _ => ?_⟩ <;> omega
        have P1 : own_p 3 (2 : Int32) (3 : Int32) (0 : Int32) t3 i0 i1 i2 i3 1 0 := by unfold own_p; refine ⟨fun _ _ => ?_, fun _ _ => ?_, fun _ _ => ?_, fun _ _ => ?_, fun _ _ _ _ => ?_⟩ <;> omega
        have P2 : own_p 3 (2 : Int32) (3 : Int32) (0 : Int32) t3 i0 i1 i2 i3 2 i0 := by unfold own_p; refine ⟨fun _ _ => ?_, fun _ _ => ?_, fun _ _ => ?_, fun _ _ => ?_, fun _ _ _ _ => ?_⟩ <;> omega
        have P3 : own_p 3 (2 : Int32) (3 : Int32) (0 : Int32) t3 i0 i1 i2 i3 3 i1 := by unfold own_p; refine ⟨fun _ _ => ?_, fun _ _ => ?_, fun _ _ => ?_, fun _ _ => ?_, fun _ _ _ _ => ?_⟩ <;> omega
        exact g_return C X101 d4_34 ⟨rfl, N100, by rw [e101]; exact P100, FP.dadd d0 w2, d1, FP.dadd d2 w0, FP.dadd d3 w1, i2, 0, i0, i1, D129, (by rw [Int.add_zero]; exact D1), D121, D128, P0, P1, P2, P3, by rw [e101]; exact Ad⟩ (by decide) (by decide)
      · show Go p.tables e below _ T98 (mkF m 18 #[.val (.ref a), .val (.ref b), .val (.int (2 : Int32))] [(.int (1 : Int32)), (.ref b)])
        refine g_dup2 C X98 (pc' := 19) d4_18 rfl rfl rfl ?_
        refine g_daload C X98 (pc' := 20) e98 Ad (by decide) (by decide) 1 (by decide) rfl d4_19 rfl ?_
        refine g_aloadN C X98 (pc' := 21) d4_20 rfl rfl rfl ?_
        refine g_getF C X98 (host := "") (Or.inl (hw _ (List.mem_of_getElem? (i := 18) rfl))) Via.refl e98 F2 d4_21 rfl ?_
        intro T102 X102 e102
        refine g_iloadN C X102 (pc' := 25) d4_24 rfl rfl ?_
        refine g_daload C X102 (pc' := 26) e102 Aw (by decide) (by decide) 2 (by decide) rfl d4_25 rfl ?_
        have D130 : FP.Core.DInt (k1 + i2) (FP.dadd d1 w2) := dadd_D D1 W2 (by show _ ≤ 9007199254740992; omega)
        refine g_dadd C X102 (pc' := 27) d4_26 (nn_of_int D130) rfl ?_
        refine g_dastore C X102 (pc' := 28) e102 Ad (by decide) (by decide) 1 0 (by decide) (of_decide_eq_true rfl) d4_27 rfl ?_
        intro T103 h103 X103 e103 W103 Aq
        have F1 := F1.other W103 (Or.inl n_a)
        have F2 := F2.other W103 (Or.inl n_a)
        have At := At.other W103 n_ta
        have Aw := Aw.other W103 n_aw
        have Z103 : n0 ≤ h103.size := by rw [W103.size]; exact Z96
        have N103 := Fr.snoc X103 N96 z_b
        have P103 := P96.wr W103 (Or.inl (List.mem_of_getElem? (i := 0) rfl))
        have Ad : Arv Z h103 b kd .double (4 : Int32) [(.double d0), (.double (FP.dadd d1 w2)), (.double (FP.dadd d2 w0)), (.double (FP.dadd d3 w1))] (.double (0 : UInt64)) := Aq
        refine g_iinc C X103 (pc' := 31) d4_28 rfl (z := (3 : Int32)) (by decide) (l' := #[.val (.ref a), .val (.ref b), .val (.int (3 : Int32))]) rfl rfl ?_
        refine g_goto C X103 d4_31 (pc' := 2) (by decide) (by decide) ?_
        refine g_iloadN C X103 (pc' := 3) d4_2 rfl rfl ?_
        refine g_aloadN C X103 (pc' := 4) d4_3 rfl rfl rfl ?_
        refine g_getF C X103 (host := "") (Or.inl (hw _ (List.mem_of_getElem? (i := 16) rfl))) Via.refl e103 F1 d4_4 rfl ?_
        intro T104 X104 e104
        refine g_len C X104 (pc' := 8) e104 At d4_7 rfl ?_
        refine g_icmpY C X104 d4_8 (pc' := 34) (by decide) (by decide) (by decide) ?_
        have q0 := own_c0
        have q1 := own_c1
        have q2 := own_c2
        have q3 := own_c3
        have P0 : own_p 3 (2 : Int32) (3 : Int32) (1 : Int32) t3 i0 i1 i2 i3 0 0 := by unfold own_p; refine ⟨fun _ _ => ?_, fun _ _ => ?_, fun _ _ => ?_, fun _ _ => ?_, fun _ _ _ _ => ?_⟩ <;> omega
        have P1 : own_p 3 (2 : Int32) (3 : Int32) (1 : Int32) t3 i0 i1 i2 i3 1 i2 := by unfold own_p; refine ⟨fun _ _ => ?_, fun _ _ => ?_, fun _ _ => ?_, fun _ _ => ?_, fun _ _ _ _ => ?_⟩ <;> omega
        have P2 : own_p 3 (2 : Int32) (3 : Int32) (1 : Int32) t3 i0 i1 i2 i3 2 i0 := by unfold own_p; refine ⟨fun _ _ => ?_, fun _ _ => ?_, fun _ _ => ?_, fun _ _ => ?_, fun _ _ _ _ => ?_⟩ <;> omega
        have P3 : own_p 3 (2 : Int32) (3 : Int32) (1 : Int32) t3 i0 i1 i2 i3 3 i1 := by unfold own_p; refine ⟨fun _ _ => ?_, fun _ _ => ?_, fun _ _ => ?_, fun _ _ => ?_, fun _ _ _ _ => ?_⟩ <;> omega
        exact g_return C X104 d4_34 ⟨rfl, N103, by rw [e104]; exact P103, d0, FP.dadd d1 w2, FP.dadd d2 w0, FP.dadd d3 w1, 0, i2, i0, i1, (by rw [Int.add_zero]; exact D0), D130, D121, D128, P0, P1, P2, P3, by rw [e104]; exact Ad⟩ (by decide) (by decide)
      · exact absurd rfl hT.2.2.2.2.2.1
      · exact absurd rfl hT.2.2.2.2.2.2.2.1
  · show Go p.tables e below _ T2 (mkF m 18 #[.val (.ref a), .val (.ref b), .val (.int (0 : Int32))] [(.int (3 : Int32)), (.ref b)])
    refine g_dup2 C X2 (pc' := 19) d4_18 rfl rfl rfl ?_
    refine g_daload C X2 (pc' := 20) e2 Ad (by decide) (by decide) 3 (by decide) rfl d4_19 rfl ?_
    refine g_aloadN C X2 (pc' := 21) d4_20 rfl rfl rfl ?_
    refine g_getF C X2 (host := "") (Or.inl (hw _ (List.mem_of_getElem? (i := 18) rfl))) Via.refl e2 F2 d4_21 rfl ?_
    intro T105 X105 e105
    refine g_iloadN C X105 (pc' := 25) d4_24 rfl rfl ?_
    refine g_daload C X105 (pc' := 26) e105 Aw (by decide) (by decide) 0 (by decide) rfl d4_25 rfl ?_
    have D131 : FP.Core.DInt (k3 + i0) (FP.dadd d3 w0) := dadd_D D3 W0 (by show _ ≤ 9007199254740992; omega)
    refine g_dadd C X105 (pc' := 27) d4_26 (nn_of_int D131) rfl ?_
    refine g_dastore C X105 (pc' := 28) e105 Ad (by decide) (by decide) 3 0 (by decide) (of_decide_eq_true rfl) d4_27 rfl ?_
    intro T106 h106 X106 e106 W106 Aq
    have F1 := F1.other W106 (Or.inl n_a)
    have F2 := F2.other W106 (Or.inl n_a)
    have At := At.other W106 n_ta
    have Aw := Aw.other W106 n_aw
    have Z106 : n0 ≤ h106.size := by rw [W106.size]; exact Z0
    have N106 := Fr.snoc X106 (Fr.nil n0) z_b
    have P106 := (Keep.refl h [b]).wr W106 (Or.inl (List.mem_of_getElem? (i := 0) rfl))
    have Ad : Arv Z h106 b kd .double (4 : Int32) [(.double d0), (.double d1), (.double d2), (.double (FP.dadd d3 w0))] (.double (0 : UInt64)) := Aq
    refine g_iinc C X106 (pc' := 31) d4_28 rfl (z := (1 : Int32)) (by decide) (l' := #[.val (.ref a), .val (.ref b), .val (.int (1 : Int32))]) rfl rfl ?_
    refine g_goto C X106 d4_31 (pc' := 2) (by decide) (by decide) ?_
    refine g_iloadN C X106 (pc' := 3) d4_2 rfl rfl ?_
    refine g_aloadN C X106 (pc' := 4) d4_3 rfl rfl rfl ?_
    refine g_getF C X106 (host := "") (Or.inl (hw _ (List.mem_of_getElem? (i := 16) rfl))) Via.refl e106 F1 d4_4 rfl ?_
    intro T107 X107 e107
    refine g_len C X107 (pc' := 8) e107 At d4_7 rfl ?_
    refine g_icmpN C X107 d4_8 (by decide) rfl ?_
    refine g_aloadN C X107 (pc' := 12) d4_11 rfl rfl rfl ?_
    refine g_aloadN C X107 (pc' := 13) d4_12 rfl rfl rfl ?_
    refine g_getF C X107 (host := "") (Or.inl (hw _ (List.mem_of_getElem? (i := 16) rfl))) Via.refl e107 F1 d4_13 rfl ?_
    intro T108 X108 e108
    refine g_iloadN C X108 (pc' := 17) d4_16 rfl rfl ?_
    refine g_iaload C X108 (pc' := 18) e108 At (by decide) (by decide) 1 (by decide) rfl d4_17 rfl ?_
    rcases own_one hT.2.1 with rfl | rfl | rfl | rfl
    · show Go p.tables e below _ T108 (mkF m 18 #[.val (.ref a), .val (.ref b), .val (.int (1 : Int32))] [(.int (0 : Int32)), (.ref b)])
      refine g_dup2 C X108 (pc' := 19) d4_18 rfl rfl rfl ?_
      refine g_daload C X108 (pc' := 20) e108 Ad (by decide) (by decide) 0 (by decide) rfl d4_19 rfl ?_
      refine g_aloadN C X108 (pc' := 21) d4_20 rfl rfl rfl ?_
      refine g_getF C X108 (host := "") (Or.inl (hw _ (List.mem_of_getElem? (i := 18) rfl))) Via.refl e108 F2 d4_21 rfl ?_
      intro T109 X109 e109
      refine g_iloadN C X109 (pc' := 25) d4_24 rfl rfl ?_
      refine g_daload C X109 (pc' := 26) e109 Aw (by decide) (by decide) 1 (by decide) rfl d4_25 rfl ?_
      have D132 : FP.Core.DInt (k0 + i1) (FP.dadd d0 w1) := dadd_D D0 W1 (by show _ ≤ 9007199254740992; omega)
      refine g_dadd C X109 (pc' := 27) d4_26 (nn_of_int D132) rfl ?_
      refine g_dastore C X109 (pc' := 28) e109 Ad (by decide) (by decide) 0 0 (by decide) (of_decide_eq_true rfl) d4_27 rfl ?_
      intro T110 h110 X110 e110 W110 Aq
      have F1 := F1.other W110 (Or.inl n_a)
      have F2 := F2.other W110 (Or.inl n_a)
      have At := At.other W110 n_ta
      have Aw := Aw.other W110 n_aw
      have Z110 : n0 ≤ h110.size := by rw [W110.size]; exact Z106
      have N110 := Fr.snoc X110 N106 z_b
      have P110 := P106.wr W110 (Or.inl (List.mem_of_getElem? (i := 0) rfl))
      have Ad : Arv Z h110 b kd .double (4 : Int32) [(.double (FP.dadd d0 w1)), (.double d1), (.double d2), (.double (FP.dadd d3 w0))] (.double (0 : UInt64)) := Aq
      refine g_iinc C X110 (pc' := 31) d4_28 rfl (z := (2 : Int32)) (by decide) (l' := #[.val (.ref a), .val (.ref b), .val (.int (2 : Int32))]) rfl rfl ?_
      refine g_goto C X110 d4_31 (pc' := 2) (by decide) (by decide) ?_
      refine g_iloadN C X110 (pc' := 3) d4_2 rfl rfl ?_
      refine g_aloadN C X110 (pc' := 4) d4_3 rfl rfl rfl ?_
      refine g_getF C X110 (host := "") (Or.inl (hw _ (List.mem_of_getElem? (i := 16) rfl))) Via.refl e110 F1 d4_4 rfl ?_
      intro T111 X111 e111
      refine g_len C X111 (pc' := 8) e111 At d4_7 rfl ?_
      refine g_icmpN C X111 d4_8 (by decide) rfl ?_
      refine g_aloadN C X111 (pc' := 12) d4_11 rfl rfl rfl ?_
      refine g_aloadN C X111 (pc' := 13) d4_12 rfl rfl rfl ?_
      refine g_getF C X111 (host := "") (Or.inl (hw _ (List.mem_of_getElem? (i := 16) rfl))) Via.refl e111 F1 d4_13 rfl ?_
      intro T112 X112 e112
      refine g_iloadN C X112 (pc' := 17) d4_16 rfl rfl ?_
      refine g_iaload C X112 (pc' := 18) e112 At (by decide) (by decide) 2 (by decide) rfl d4_17 rfl ?_
      rcases own_one hT.2.2.1 with rfl | rfl | rfl | rfl
      · exact absurd rfl hT.2.2.2.2.2.2.2.1
      · show Go p.tables e below _ T112 (mkF m 18 #[.val (.ref a), .val (.ref b), .val (.int (2 : Int32))] [(.int (1 : Int32)), (.ref b)])
        refine g_dup2 C X112 (pc' := 19) d4_18 rfl rfl rfl ?_
        refine g_daload C X112 (pc' := 20) e112 Ad (by decide) (by decide) 1 (by decide) rfl d4_19 rfl ?_
        refine g_aloadN C X112 (pc' := 21) d4_20 rfl rfl rfl ?_
        refine g_getF C X112 (host := "") (Or.inl (hw _ (List.mem_of_getElem? (i := 18) rfl))) Via.refl e112 F2 d4_21 rfl ?_
        intro T113 X113 e113
        refine g_iloadN C X113 (pc' := 25) d4_24 rfl rfl ?_
        refine g_daload C X113 (pc' := 26) e113 Aw (by decide) (by decide) 2 (by decide) rfl d4_25 rfl ?_
        have D133 : FP.Core.DInt (k1 + i2) (FP.dadd d1 w2) := dadd_D D1 W2 (by show _ ≤ 9007199254740992; omega)
        refine g_dadd C X113 (pc' := 27) d4_26 (nn_of_int D133) rfl ?_
        refine g_dastore C X113 (pc' := 28) e113 Ad (by decide) (by decide) 1 0 (by decide) (of_decide_eq_true rfl) d4_27 rfl ?_
        intro T114 h114 X114 e114 W114 Aq
        have F1 := F1.other W114 (Or.inl n_a)
        have F2 := F2.other W114 (Or.inl n_a)
        have At := At.other W114 n_ta
        have Aw := Aw.other W114 n_aw
        have Z114 : n0 ≤ h114.size := by rw [W114.size]; exact Z110
        have N114 := Fr.snoc X114 N110 z_b
        have P114 := P110.wr W114 (Or.inl (List.mem_of_getElem? (i := 0) rfl))
        have Ad : Arv Z h114 b kd .double (4 : Int32) [(.double (FP.dadd d0 w1)), (.double (FP.dadd d1 w2)), (.double d2), (.double (FP.dadd d3 w0))] (.double (0 : UInt64)) := Aq
        refine g_iinc C X114 (pc' := 31) d4_28 rfl (z := (3 : Int32)) (by decide) (l' := #[.val (.ref a), .val (.ref b), .val (.int (3 : Int32))]) rfl rfl ?_
        refine g_goto C X114 d4_31 (pc' := 2) (by decide) (by decide) ?_
        refine g_iloadN C X114 (pc' := 3) d4_2 rfl rfl ?_
        refine g_aloadN C X114 (pc' := 4) d4_3 rfl rfl rfl ?_
        refine g_getF C X114 (host := "") (Or.inl (hw _ (List.mem_of_getElem? (i := 16) rfl))) Via.refl e114 F1 d4_4 rfl ?_
        intro T115 X115 e115
        refine g_len C X115 (pc' := 8) e115 At d4_7 rfl ?_
        refine g_icmpY C X115 d4_8 (pc' := 34) (by decide) (by decide) (by decide) ?_
        have q0 := own_c0
        have q1 := own_c1
        have q2 := own_c2
        have q3 := own_c3
        have P0 : own_p 3 (3 : Int32) (0 : Int32) (1 : Int32) t3 i0 i1 i2 i3 0 i1 := by unfold own_p; refine ⟨fun _ _ => ?_, fun _ _ => ?_, fun _ _ => ?_, fun _ _ => ?_, fun _ _ _ _ => ?_⟩ <;> omega
        have P1 : own_p 3 (3 : Int32) (0 : Int32) (1 : Int32) t3 i0 i1 i2 i3 1 i2 := by unfold own_p; refine ⟨fun _ _ => ?_, fun _ _ => ?_, fun _ _ => ?_, fun _ _ => ?_, fun _ _ _ _ => ?_⟩ <;> omega
        have P2 : own_p 3 (3 : Int32) (0 : Int32) (1 : Int32) t3 i0 i1 i2 i3 2 0 := by unfold own_p; refine ⟨fun _ _ => ?_, fun _ _ => ?_, fun _ _ => ?_, fun _ _ => ?_, fun _ _ _ _ => ?_⟩ <;> omega
        have P3 : own_p 3 (3 : Int32) (0 : Int32) (1 : Int32) t3 i0 i1 i2 i3 3 i0 := by unfold own_p; refine ⟨fun _ _ => ?_, fun _ _ => ?_, fun _ _ => ?_, fun _ _ => ?_, fun _ _ _ _ => ?_⟩ <;> omega
        exact g_return C X115 d4_34 ⟨rfl, N114, by rw [e115]; exact P114, FP.dadd d0 w1, FP.dadd d1 w2, d2, FP.dadd d3 w0, i1, i2, 0, i0, D132, D133, (by rw [Int.add_zero]; exact D2), D131, P0, P1, P2, P3, by rw [e115]; exact Ad⟩ (by decide) (by decide)
      · show Go p.tables e below _ T112 (mkF m 18 #[.val (.ref a), .val (.ref b), .val (.int (2 : Int32))] [(.int (2 : Int32)), (.ref b)])
        refine g_dup2 C X112 (pc' := 19) d4_18 rfl rfl rfl ?_
        refine g_daload C X112 (pc' := 20) e112 Ad (by decide) (by decide) 2 (by decide) rfl d4_19 rfl ?_
        refine g_aloadN C X112 (pc' := 21) d4_20 rfl rfl rfl ?_
        refine g_getF C X112 (host := "") (Or.inl (hw _ (List.mem_of_getElem? (i := 18) rfl))) Via.refl e112 F2 d4_21 rfl ?_
        intro T116 X116 e116
        refine g_iloadN C X116 (pc' := 25) d4_24 rfl rfl ?_
        refine g_daload C X116 (pc' := 26) e116 Aw (by decide) (by decide) 2 (by decide) rfl d4_25 rfl ?_
        have D134 : FP.Core.DInt (k2 + i2) (FP.dadd d2 w2) := dadd_D D2 W2 (by show _ ≤ 9007199254740992; omega)
        refine g_dadd C X116 (pc' := 27) d4_26 (nn_of_int D134) rfl ?_
        refine g_dastore C X116 (pc' := 28) e116 Ad (by decide) (by decide) 2 0 (by decide) (of_decide_eq_true rfl) d4_27 rfl ?_
        intro T117 h117 X117 e117 W117 Aq
        have F1 := F1.other W117 (Or.inl n_a)
        have F2 := F2.other W117 (Or.inl n_a)
        have At := At.other W117 n_ta
        have Aw := Aw.other W117 n_aw
        have Z117 : n0 ≤ h117.size := by rw [W117.size]; exact Z110
        have N117 := Fr.snoc X117 N110 z_b
        have P117 := P110.wr W117 (Or.inl (List.mem_of_getElem? (i := 0) rfl))
        have Ad : Arv Z h117 b kd .double (4 : Int32) [(.double (FP.dadd d0 w1)), (.double d1), (.double (FP.dadd d2 w2)), (.double (FP.dadd d3 w0))] (.double (0 : UInt64)) := Aq
        refine g_iinc C X117 (pc' := 31) d4_28 rfl (z := (3 : Int32)) (by decide) (l' := #[.val (.ref a), .val (.ref b), .val (.int (3 : Int32))]) rfl rfl ?_
        refine g_goto C X117 d4_31 (pc' := 2) (by decide) (by decide) ?_
        refine g_iloadN C X117 (pc' := 3) d4_2 rfl rfl ?_
        refine g_aloadN C X117 (pc' := 4) d4_3 rfl rfl rfl ?_
        refine g_getF C X117 (host := "") (Or.inl (hw _ (List.mem_of_getElem? (i := 16) rfl))) Via.refl e117 F1 d4_4 rfl ?_
        intro T118 X118 e118
        refine g_len C X118 (pc' := 8) e118 At d4_7 rfl ?_
        refine g_icmpY C X118 d4_8 (pc' := 34) (by decide) (by decide) (by decide) ?_
        have q0 := own_c0
        have q1 := own_c1
        have q2 := own_c2
        have q3 := own_c3
        have P0 : own_p 3 (3 : Int32) (0 : Int32) (2 : Int32) t3 i0 i1 i2 i3 0 i1 := by unfold own_p; refine ⟨fun _ _ => ?_, fun _ _ => ?_, fun _ _ => ?_, fun _ _ => ?_, fun _ _ _ _ => ?_⟩ <;> omega
        have P1 : own_p 3 (3 : Int32) (0 : Int32) (2 : Int32) t3 i0 i1 i2 i3 1 0 := by unfold own_p; refine ⟨fun _ _ => ?_, fun _ _ => ?_, fun _ _ => ?_, fun _ _ => ?_, fun _ _ _ _ => ?_⟩ <;> omega
        have P2 : own_p 3 (3 : Int32) (0 : Int32) (2 : Int32) t3 i0 i1 i2 i3 2 i2 := by unfold own_p; refine ⟨fun _ _ => ?_, fun _ _ => ?_, fun _ _ => ?_, fun _ _ => ?_, fun _ _ _ _ => ?_⟩ <;> omega
        have P3 : own_p 3 (3 : Int32) (0 : Int32) (2 : Int32) t3 i0 i1 i2 i3 3 i0 := by unfold own_p; refine ⟨fun _ _ => ?_, fun _ _ => ?_, fun _ _ => ?_, fun _ _ => ?_, fun _ _ _ _ => ?_⟩ <;> omega
        exact g_return C X118 d4_34 ⟨rfl, N117, by rw [e118]; exact P117, FP.dadd d0 w1, d1, FP.dadd d2 w2, FP.dadd d3 w0, i1, 0, i2, i0, D132, (by rw [Int.add_zero]; exact D1), D134, D131, P0, P1, P2, P3, by rw [e118]; exact Ad⟩ (by decide) (by decide)
      · exact absurd rfl hT.2.2.2.2.2.1
    · show Go p.tables e below _ T108 (mkF m 18 #[.val (.ref a), .val (.ref b), .val (.int (1 : Int32))] [(.int (1 : Int32)), (.ref b)])
      refine g_dup2 C X108 (pc' := 19) d4_18 rfl rfl rfl ?_
      refine g_daload C X108 (pc' := 20) e108 Ad (by decide) (by decide) 1 (by decide) rfl d4_19 rfl ?_
      refine g_aloadN C X108 (pc' := 21) d4_20 rfl rfl rfl ?_
      refine g_getF C X108 (host := "") (Or.inl (hw _ (List.mem_of_getElem? (i := 18) rfl))) Via.refl e108 F2 d4_21 rfl ?_
      intro T119 X119 e119
      refine g_iloadN C X119 (pc' := 25) d4_24 rfl rfl ?_
      refine g_daload C X119 (pc' := 26) e119 Aw (by decide) (by decide) 1 (by decide) rfl d4_25 rfl ?_
      have D135 : FP.Core.DInt (k1 + i1) (FP.dadd d1 w1) := dadd_D D1 W1 (by show _ ≤ 9007199254740992; omega)
      refine g_dadd C X119 (pc' := 27) d4_26 (nn_of_int D135) rfl ?_
      refine g_dastore C X119 (pc' := 28) e119 Ad (by decide) (by decide) 1 0 (by decide) (of_decide_eq_true rfl) d4_27 rfl ?_
      intro T120 h120 X120 e120 W120 Aq
      have F1 := F1.other W120 (Or.inl n_a)
      have F2 := F2.other W120 (Or.inl n_a)
      have At := At.other W120 n_ta
      have Aw := Aw.other W120 n_aw
      have Z120 : n0 ≤ h120.size := by rw [W120.size]; exact Z106
      have N120 := Fr.snoc X120 N106 z_b
      have P120 := P106.wr W120 (Or.inl (List.mem_of_getElem? (i := 0) rfl))
      have Ad : Arv Z h120 b kd .double (4 : Int32) [(.double d0), (.double (FP.dadd d1 w1)), (.double d2), (.double (FP.dadd d3 w0))] (.double (0 : UInt64)) := Aq
      refine g_iinc C X120 (pc' := 31) d4_28 rfl (z := (2 : Int32)) (by decide) (l' := #[.val (.ref a), .val (.ref b), .val (.int (2 : Int32))]) rfl rfl ?_
      refine g_goto C X120 d4_31 (pc' := 2) (by decide) (by decide) ?_
      refine g_iloadN C X120 (pc' := 3) d4_2 rfl rfl ?_
      refine g_aloadN C X120 (pc' := 4) d4_3 rfl rfl rfl ?_
      refine g_getF C X120 (host := "") (Or.inl (hw _ (List.mem_of_getElem? (i := 16) rfl))) Via.refl e120 F1 d4_4 rfl ?_
      intro T121 X121 e121
      refine g_len C X121 (pc' := 8) e121 At d4_7 rfl ?_
      refine g_icmpN C X121 d4_8 (by decide) rfl ?_
      refine g_aloadN C X121 (pc' := 12) d4_11 rfl rfl rfl ?_
      refine g_aloadN C X121 (pc' := 13) d4_12 rfl rfl rfl ?_
      refine g_getF C X121 (host := "") (Or.inl (hw _ (List.mem_of_getElem? (i := 16) rfl))) Via.refl e121 F1 d4_13 rfl ?_
      intro T122 X122 e122
      refine g_iloadN C X122 (pc' := 17) d4_16 rfl rfl ?_
      refine g_iaload C X122 (pc' := 18) e122 At (by decide) (by decide) 2 (by decide) rfl d4_17 rfl ?_
      rcases own_one hT.2.2.1 with rfl | rfl | rfl | rfl
      · show Go p.tables e below _ T122 (mkF m 18 #[.val (.ref a), .val (.ref b), .val (.int (2 : Int32))] [(.int (0 : Int32)), (.ref b)])
        refine g_dup2 C X122 (pc' := 19) d4_18 rfl rfl rfl ?_
        refine g_daload C X122 (pc' := 20) e122 Ad (by decide) (by decide) 0 (by decide) rfl d4_19 rfl ?_
        refine g_aloadN C X122 (pc' := 21) d4_20 rfl rfl rfl ?_
        refine g_getF C X122 (host := "") (Or.inl (hw _ (List.mem_of_getElem? (i := 18) rfl))) Via.refl e122 F2 d4_21 rfl ?_
        intro T123 X123 e123
        refine g_iloadN C X123 (pc' := 25) d4_24 rfl rfl ?_
        refine g_daload C X123 (pc' := 26) e123 Aw (by decide) (by decide) 2 (by decide) rfl d4_25 rfl ?_
        have D136 : FP.Core.DInt (k0 + i2) (FP.dadd d0 w2) := dadd_D D0 W2 (by show _ ≤ 9007199254740992; omega)
        refine g_dadd C X123 (pc' := 27) d4_26 (nn_of_int D136) rfl ?_
        refine g_dastore C X123 (pc' := 28) e123 Ad (by decide) (by decide) 0 0 (by decide) (of_decide_eq_true rfl) d4_27 rfl ?_
        intro T124 h124 X124 e124 W124 Aq
        have F1 := F1.other W124 (Or.inl n_a)
        have F2 := F2.other W124 (Or.inl n_a)
        have At := At.other W124 n_ta
        have Aw := Aw.other W124 n_aw
        have Z124 : n0 ≤ h124.size := by rw [W124.size]; exact Z120
        have N124 := Fr.snoc X124 N120 z_b
        have P124 := P120.wr W124 (Or.inl (List.mem_of_getElem? (i := 0) rfl))
        have Ad : Arv Z h124 b kd .double (4 : Int32) [(.double (FP.dadd d0 w2)), (.double (FP.dadd d1 w1)), (.double d2), (.double (FP.dadd d3 w0))] (.double (0 : UInt64)) := Aq
        refine g_iinc C X124 (pc' := 31) d4_28 rfl (z := (3 : Int32)) (by decide) (l' := #[.val (.ref a), .val (.ref b), .val (.int (3 : Int32))]) rfl rfl ?_
        refine g_goto C X124 d4_31 (pc' := 2) (by decide) (by decide) ?_
        refine g_iloadN C X124 (pc' := 3) d4_2 rfl rfl ?_
        refine g_aloadN C X124 (pc' := 4) d4_3 rfl rfl rfl ?_
        refine g_getF C X124 (host := "") (Or.inl (hw _ (List.mem_of_getElem? (i := 16) rfl))) Via.refl e124 F1 d4_4 rfl ?_
        intro T125 X125 e125
        refine g_len C X125 (pc' := 8) e125 At d4_7 rfl ?_
        refine g_icmpY C X125 d4_8 (pc' := 34) (by decide) (by decide) (by decide) ?_
        have q0 := own_c0
        have q1 := own_c1
        have q2 := own_c2
        have q3 := own_c3
        have P0 : own_p 3 (3 : Int32) (1 : Int32) (0 : Int32) t3 i0 i1 i2 i3 0 i2 := by unfold own_p; refine ⟨fun _ _ => ?_, fun _ _ => ?_, fun _ _ => ?_, fun _ _ => ?_, fun _ _ _ _ => ?_⟩ <;> omega
        have P1 : own_p 3 (3 : Int32) (1 : Int32) (0 : Int32) t3 i0 i1 i2 i3 1 i1 := by unfold own_p; refine ⟨fun _ _ => ?_, fun _ _ => ?_, fun _ _ => ?_, fun _ _ => ?_, fun _ _ _ _ => ?_⟩ <;> omega
        have P2 : own_p 3 (3 : Int32) (1 : Int32) (0 : Int32) t3 i0 i1 i2 i3 2 0 := by unfold own_p; refine ⟨fun _ _ => ?_, fun _ _ => ?_, fun _ _ => ?_, fun _ _ => ?_, fun _ _ _ _ => ?_⟩ <;> omega
        have P3 : own_p 3 (3 : Int32) (1 : Int32) (0 : Int32) t3 i0 i1 i2 i3 3 i0 := by unfold own_p; refine ⟨fun _ _ => ?_, fun _ _ => ?_, fun _ _ => ?_, fun _ _ => ?_, fun _ _ _ _ => ?_⟩ <;> omega
        exact g_return C X125 d4_34 ⟨rfl, N124, by rw [e125]; exact P124, FP.dadd d0 w2, FP.dadd d1 w1, d2, FP.dadd d3 w0, i2, i1, 0, i0, D136, D135, (by rw [Int.add_zero]; exact D2), D131, P0, P1, P2, P3, by rw [e125]; exact Ad⟩ (by decide) (by decide)
      · exact absurd rfl hT.2.2.2.2.2.2.2.1
      · show Go p.tables e below _ T122 (mkF m 18 #[.val (.ref a), .val (.ref b), .val (.int (2 : Int32))] [(.int (2 : Int32)), (.ref b)])
        refine g_dup2 C X122 (pc' := 19) d4_18 rfl rfl rfl ?_
        refine g_daload C X122 (pc' := 20) e122 Ad (by decide) (by decide) 2 (by decide) rfl d4_19 rfl ?_
        refine g_aloadN C X122 (pc' := 21) d4_20 rfl rfl rfl ?_
        refine g_getF C X122 (host := "") (Or.inl (hw _ (List.mem_of_getElem? (i := 18) rfl))) Via.refl e122 F2 d4_21 rfl ?_
        intro T126 X126 e126
        refine g_iloadN C X126 (pc' := 25) d4_24 rfl rfl ?_
        refine g_daload C X126 (pc' := 26) e126 Aw (by decide) (by decide) 2 (by decide) rfl d4_25 rfl ?_
        have D137 : FP.Core.DInt (k2 + i2) (FP.dadd d2 w2) := dadd_D D2 W2 (by show _ ≤ 9007199254740992; omega)
        refine g_dadd C X126 (pc' := 27) d4_26 (nn_of_int D137) rfl ?_
        refine g_dastore C X126 (pc' := 28) e126 Ad (by decide) (by decide) 2 0 (by decide) (of_decide_eq_true rfl) d4_27 rfl ?_
        intro T127 h127 X127 e127 W127 Aq
        have F1 := F1.other W127 (Or.inl n_a)
        have F2 := F2.other W127 (Or.inl n_a)
        have At := At.other W127 n_ta
        have Aw := Aw.other W127 n_aw
        have Z127 : n0 ≤ h127.size := by rw [W127.size]; exact Z120
        have N127 := Fr.snoc X127 N120 z_b
        have P127 := P120.wr W127 (Or.inl (List.mem_of_getElem? (i := 0) rfl))
        have Ad : Arv Z h127 b kd .double (4 : Int32) [(.double d0), (.double (FP.dadd d1 w1)), (.double (FP.dadd d2 w2)), (.double (FP.dadd d3 w0))] (.double (0 : UInt64)) := Aq
        refine g_iinc C X127 (pc' := 31) d4_28 rfl (z := (3 : Int32)) (by decide) (l' := #[.val (.ref a), .val (.ref b), .val (.int (3 : Int32))]) rfl rfl ?_
        refine g_goto C X127 d4_31 (pc' := 2) (by decide) (by decide) ?_
        refine g_iloadN C X127 (pc' := 3) d4_2 rfl rfl ?_
        refine g_aloadN C X127 (pc' := 4) d4_3 rfl rfl rfl ?_
        refine g_getF C X127 (host := "") (Or.inl (hw _ (List.mem_of_getElem? (i := 16) rfl))) Via.refl e127 F1 d4_4 rfl ?_
        intro T128 X128 e128
        refine g_len C X128 (pc' := 8) e128 At d4_7 rfl ?_
        refine g_icmpY C X128 d4_8 (pc' := 34) (by decide) (by decide) (by decide) ?_
        have q0 := own_c0
        have q1 := own_c1
        have q2 := own_c2
        have q3 := own_c3
        have P0 : own_p 3 (3 : Int32) (1 : Int32) (2 : Int32) t3 i0 i1 i2 i3 0 0 := by unfold own_p; refine ⟨fun _ _ => ?_, fun _ _ => ?_, fun _ _ => ?_, fun _ _ => ?_, fun _ _ _ _ => ?_⟩ <;> omega
        have P1 : own_p 3 (3 : Int32) (1 : Int32) (2 : Int32) t3 i0 i1 i2 i3 1 i1 := by unfold own_p; refine ⟨fun _ _ => ?_, fun _ _ => ?_, fun _ _ => ?_, fun _ _ => ?_, fun _ _ _ _ => ?_⟩ <;> omega
        have P2 : own_p 3 (3 : Int32) (1 : Int32) (2 : Int32) t3 i0 i1 i2 i3 2 i2 := by unfold own_p; refine ⟨fun _ _ => ?_, fun _ _ => ?_, fun _ _ => ?_, fun _ _ => ?_, fun _ _ _ _ => ?_⟩ <;> omega
        have P3 : own_p 3 (3 : Int32) (1 : Int32) (2 : Int32) t3 i0 i1 i2 i3 3 i0 := by unfold own_p; refine ⟨fun _ _ => ?_, fun _ _ => ?_, fun _ _ => ?_, fun _ _ => ?_, fun _ _ _ _ => ?_⟩ <;> omega
        exact g_return C X128 d4_34 ⟨rfl, N127, by rw [e128]; exact P127, d0, FP.dadd d1 w1, FP.dadd d2 w2, FP.dadd d3 w0, 0, i1, i2, i0, (by rw [Int.add_zero]; exact D0), D135, D137, D131, P0, P1, P2, P3, by rw [e128]; exact Ad⟩ (by decide) (by decide)
      · exact absurd rfl hT.2.2.2.2.2.1
    · show Go p.tables e below _ T108 (mkF m 18 #[.val (.ref a), .val (.ref b), .val (.int (1 : Int32))] [(.int (2 : Int32)), (.ref b)])
      refine g_dup2 C X108 (pc' := 19) d4_18 rfl rfl rfl ?_
      refine g_daload C X108 (pc' := 20) e108 Ad (by decide) (by decide) 2 (by decide) rfl d4_19 rfl ?_
      refine g_aloadN C X108 (pc' := 21) d4_20 rfl rfl rfl ?_
      refine g_getF C X108 (host := "") (Or.inl (hw _ (List.mem_of_getElem? (i := 18) rfl))) Via.refl e108 F2 d4_21 rfl ?_
      intro T129 X129 e129
      refine g_iloadN C X129 (pc' := 25) d4_24 rfl rfl ?_
      refine g_daload C X129 (pc' := 26) e129 Aw (by decide) (by decide) 1 (by decide) rfl d4_25 rfl ?_
      have D138 : FP.Core.DInt (k2 + i1) (FP.dadd d2 w1) := dadd_D D2 W1 (by show _ ≤ 9007199254740992; omega)
      refine g_dadd C X129 (pc' := 27) d4_26 (nn_of_int D138) rfl ?_
      refine g_dastore C X129 (pc' := 28) e129 Ad (by decide) (by decide) 2 0 (by decide) (of_decide_eq_true rfl) d4_27 rfl ?_
      intro T130 h130 X130 e130 W130 Aq
      have F1 := F1.other W130 (Or.inl n_a)
      have F2 := F2.other W130 (Or.inl n_a)
      have At := At.other W130 n_ta
      have Aw := Aw.other W130 n_aw
      have Z130 : n0 ≤ h130.size := by rw [W130.size]; exact Z106
      have N130 := Fr.snoc X130 N106 z_b
      have P130 := P106.wr W130 (Or.inl (List.mem_of_getElem? (i := 0) rfl))
      have Ad : Arv Z h130 b kd .double (4 : Int32) [(.double d0), (.double d1), (.double (FP.dadd d2 w1)), (.double (FP.dadd d3 w0))] (.double (0 : UInt64)) := Aq
      refine g_iinc C X130 (pc' := 31) d4_28 rfl (z := (2 : Int32)) (by decide) (l' := #[.val (.ref a), .val (.ref b), .val (.int (2 : Int32))]) rfl rfl ?_
      refine g_goto C X130 d4_31 (pc' := 2) (by decide) (by decide) ?_
      refine g_iloadN C X130 (pc' := 3) d4_2 rfl rfl ?_
      refine g_aloadN C X130 (pc' := 4) d4_3 rfl rfl rfl ?_
      refine g_getF C X130 (host := "") (Or.inl (hw _ (List.mem_of_getElem? (i := 16) rfl))) Via.refl e130 F1 d4_4 rfl ?_
      intro T131 X131 e131
      refine g_len C X131 (pc' := 8) e131 At d4_7 rfl ?_
      refine g_icmpN C X131 d4_8 (by decide) rfl ?_
      refine g_aloadN C X131 (pc' := 12) d4_11 rfl rfl rfl ?_
      refine g_aloadN C X131 (pc' := 13) d4_12 rfl rfl rfl ?_
      refine g_getF C X131 (host := "") (Or.inl (hw _ (List.mem_of_getElem? (i := 16) rfl))) Via.refl e131 F1 d4_13 rfl ?_
      intro T132 X132 e132
      refine g_iloadN C X132 (pc' := 17) d4_16 rfl rfl ?_
      refine g_iaload C X132 (pc' := 18) e132 At (by decide) (by decide) 2 (by decide) rfl d4_17 rfl ?_
      rcases own_one hT.2.2.1 with rfl | rfl | rfl | rfl
      · show Go p.tables e below _ T132 (mkF m 18 #[.val (.ref a), .val (.ref b), .val (.int (2 : Int32))] [(.int (0 : Int32)), (.ref b)])
        refine g_dup2 C X132 (pc' := 19) d4_18 rfl rfl rfl ?_
        refine g_daload C X132 (pc' := 20) e132 Ad (by decide) (by decide) 0 (by decide) rfl d4_19 rfl ?_
        refine g_aloadN C X132 (pc' := 21) d4_20 rfl rfl rfl ?_
        refine g_getF C X132 (host := "") (Or.inl (hw _ (List.mem_of_getElem? (i := 18) rfl))) Via.refl e132 F2 d4_21 rfl ?_
        intro T133 X133 e133
        refine g_iloadN C X133 (pc' := 25) d4_24 rfl rfl ?_
        refine g_daload C X133 (pc' := 26) e133 Aw (by decide) (by decide) 2 (by decide) rfl d4_25 rfl ?_
        have D139 : FP.Core.DInt (k0 + i2) (FP.dadd d0 w2) := dadd_D D0 W2 (by show _ ≤ 9007199254740992; omega)
        refine g_dadd C X133 (pc' := 27) d4_26 (nn_of_int D139) rfl ?_
        refine g_dastore C X133 (pc' := 28) e133 Ad (by decide) (by decide) 0 0 (by decide) (of_decide_eq_true rfl) d4_27 rfl ?_
        intro T134 h134 X134 e134 W134 Aq
        have F1 := F1.other W134 (Or.inl n_a)
        have F2 := F2.other W134 (Or.inl n_a)
        have At := At.other W134 n_ta
        have Aw := Aw.other W134 n_aw
        have Z134 : n0 ≤ h134.size := by rw [W134.size]; exact Z130
        have N134 := Fr.snoc X134 N130 z_b
        have P134 := P130.wr W134 (Or.inl (List.mem_of_getElem? (i := 0) rfl))
        have Ad : Arv Z h134 b kd .double (4 : Int32) [(.double (FP.dadd d0 w2)), (.double d1), (.double (FP.dadd d2 w1)), (.double (FP.dadd d3 w0))] (.double (0 : UInt64)) := Aq
        refine g_iinc C X134 (pc' := 31) d4_28 rfl (z := (3 : Int32)) (by decide) (l' := #[.val (.ref a), .val (.ref b), .val (.int (3 : Int32))]) rfl rfl ?_
        refine g_goto C X134 d4_31 (pc' := 2) (by decide) (by decide) ?_
        refine g_iloadN C X134 (pc' := 3) d4_2 rfl rfl ?_
        refine g_aloadN C X134 (pc' := 4) d4_3 rfl rfl rfl ?_
        refine g_getF C X134 (host := "") (Or.inl (hw _ (List.mem_of_getElem? (i := 16) rfl))) Via.refl e134 F1 d4_4 rfl ?_
        intro T135 X135 e135
        refine g_len C X135 (pc' := 8) e135 At d4_7 rfl ?_
        refine g_icmpY C X135 d4_8 (pc' := 34) (by decide) (by decide) (by decide) ?_
        have q0 := own_c0
        have q1 := own_c1
        have q2 := own_c2
        have q3 := own_c3
        have P0 : own_p 3 (3 : Int32) (2 : Int32) (0 : Int32) t3 i0 i1 i2 i3 0 i2 := by unfold own_p; refine ⟨fun _ _ => ?_, fun _ _ => ?_, fun _ _ => ?_, fun _ _ => ?_, fun _ _ _ _ => ?_⟩ <;> omega
        have P1 : own_p 3 (3 : Int32) (2 : Int32) (0 : Int32) t3 i0 i1 i2 i3 1 0 := by unfold own_p; refine ⟨fun _ _ => ?_, fun _ _ => ?_, fun _ _ => ?_, fun _ _ => ?_, fun _ _ _ _ => ?_⟩ <;> omega
        have P2 : own_p 3 (3 : Int32) (2 : Int32) (0 : Int32) t3 i0 i1 i2 i3 2 i1 := by unfold own_p; refine ⟨fun _ _ => ?_, fun _ _ => ?_, fun _ _ => ?_, fun _ _ => ?_, fun _ _ _ _ => ?_⟩ <;> omega
        have P3 : own_p 3 (3 : Int32) (2 : Int32) (0 : Int32) t3 i0 i1 i2 i3 3 i0 := by unfold own_p; refine ⟨fun _ _ => ?_, fun _ _ => ?_, fun _ _ => ?_, fun _ _ => ?_, fun _ _ _ _ => ?_⟩ <;> omega
        exact g_return C X135 d4_34 ⟨rfl, N134, by rw [e135]; exact P134, FP.dadd d0 w2, d1, FP.dadd d2 w1, FP.dadd d3 w0, i2, 0, i1, i0, D139, (by rw [Int.add_zero]; exact D1), D138, D131, P0, P1, P2, P3, by rw [e135]; exact Ad⟩ (by decide) (by decide)
      · show Go p.tables e below _ T132 (mkF m 18 #[.val (.ref a), .val (.ref b), .val (.int (2 : Int32))] [(.int (1 : Int32)), (.ref b)])
        refine g_dup2 C X132 (pc' := 19) d4_18 rfl rfl rfl ?_
        refine g_daload C X132 (pc' := 20) e132 Ad (by decide) (by decide) 1 (by decide) rfl d4_19 rfl ?_
        refine g_aloadN C X132 (pc' := 21) d4_20 rfl rfl rfl ?_
        refine g_getF C X132 (host := "") (Or.inl (hw _ (List.mem_of_getElem? (i := 18) rfl))) Via.refl e132 F2 d4_21 rfl ?_
        intro T136 X136 e136
        refine g_iloadN C X136 (pc' := 25) d4_24 rfl rfl ?_
        refine g_daload C X136 (pc' := 26) e136 Aw (by decide) (by decide) 2 (by decide) rfl d4_25 rfl ?_
        have D140 : FP.Core.DInt (k1 + i2) (FP.dadd d1 w2) := dadd_D D1 W2 (by show _ ≤ 9007199254740992; omega)
        refine g_dadd C X136 (pc' := 27) d4_26 (nn_of_int D140) rfl ?_
        refine g_dastore C X136 (pc' := 28) e136 Ad (by decide) (by decide) 1 0 (by decide) (of_decide_eq_true rfl) d4_27 rfl ?_
        intro T137 h137 X137 e137 W137 Aq
        have F1 := F1.other W137 (Or.inl n_a)
        have F2 := F2.other W137 (Or.inl n_a)
        have At := At.other W137 n_ta
        have Aw := Aw.other W137 n_aw
        have Z137 : n0 ≤ h137.size := by rw [W137.size]; exact Z130
        have N137 := Fr.snoc X137 N130 z_b
        have P137 := P130.wr W137 (Or.inl (List.mem_of_getElem? (i := 0) rfl))
        have Ad : Arv Z h137 b kd .double (4 : Int32) [(.double d0), (.double (FP.dadd d1 w2)), (.double (FP.dadd d2 w1)), (.double (FP.dadd d3 w0))] (.double (0 : UInt64)) := Aq
        refine g_iinc C X137 (pc' := 31) d4_28 rfl (z := (3 : Int32)) (by decide) (l' := #[.val (.ref a), .val (.ref b), .val (.int (3 : Int32))]) rfl rfl ?_
        refine g_goto C X137 d4_31 (pc' := 2) (by decide) (by decide) ?_
        refine g_iloadN C X137 (pc' := 3) d4_2 rfl rfl ?_
        refine g_aloadN C X137 (pc' := 4) d4_3 rfl rfl rfl ?_
        refine g_getF C X137 (host := "") (Or.inl (hw _ (List.mem_of_getElem? (i := 16) rfl))) Via.refl e137 F1 d4_4 rfl ?_
        intro T138 X138 e138
        refine g_len C X138 (pc' := 8) e138 At d4_7 rfl ?_
        refine g_icmpY C X138 d4_8 (pc' := 34) (by decide) (by decide) (by decide) ?_
        have q0 := own_c0
        have q1 := own_c1
        have q2 := own_c2
        have q3 := own_c3
        have P0 : own_p 3 (3 : Int32) (2 : Int32) (1 : Int32) t3 i0 i1 i2 i3 0 0 := by unfold own_p; refine ⟨fun _ _ => ?_, fun _ _ => ?_, fun _ _ => ?_, fun _ _ => ?_, fun _ _ _ _ => ?_⟩ <;> omega
        have P1 : own_p 3 (3 : Int32) (2 : Int32) (1 : Int32) t3 i0 i1 i2 i3 1 i2 := by unfold own_p; refine ⟨fun _ _ => ?_, fun _ _ => ?_, fun _ _ => ?_, fun _ _ => ?_, fun _ _ _ _ => ?_⟩ <;> omega
        have P2 : own_p 3 (3 : Int32) (2 : Int32) (1 : Int32) t3 i0 i1 i2 i3 2 i1 := by unfold own_p; refine ⟨fun _ _ => ?_, fun _ _ => ?_, fun _ _ => ?_, fun _ _ => ?_, fun _ _ _ _ => ?_⟩ <;> omega
        have P3 : own_p 3 (3 : Int32) (2 : Int32) (1 : Int32) t3 i0 i1 i2 i3 3 i0 := by unfold own_p; refine ⟨fun _ _ => ?_, fun _ _ => ?_, fun _ _ => ?_, fun _ _ => ?_, fun _ _ _ _ => ?_⟩ <;> omega
        exact g_return C X138 d4_34 ⟨rfl, N137, by rw [e138]; exact P137, d0, FP.dadd d1 w2, FP.dadd d2 w1, FP.dadd d3 w0, 0, i2, i1, i0, (by rw [Int.add_zero]; exact D0), D140, D138, D131, P0, P1, P2, P3, by rw [e138]; exact Ad⟩ (by decide) (by decide)
      · exact absurd rfl hT.2.2.2.2.2.2.2.1
      · exact absurd rfl hT.2.2.2.2.2.1
    · exact absurd rfl hT.2.2.2.2.1
set_option maxRecDepth 65536 in
set_option maxHeartbeats 40000000 in
theorem c_exp3 (l : Launch) (Z : State) (a0 : Array Value) (hw : ∀ d ∈ tables_1, d.before a0 Z = true) (h : Heap) (ta aw b : Addr) (kt kw kd : ClassId) (t0 t1 t2 t3 : Int32) (i0 i1 i2 i3 : Int) (hT : own_four t0 t1 t2 t3) (w0 : UInt64) (W0 : FP.Core.DInt i0 w0) (R0 : -2147483648 ≤ i0 ∧ i0 < 2147483648) (w1 : UInt64) (W1 : FP.Core.DInt i1 w1) (R1 : -2147483648 ≤ i1 ∧ i1 < 2147483648) (w2 : UInt64) (W2 : FP.Core.DInt i2 w2) (R2 : -2147483648 ≤ i2 ∧ i2 < 2147483648) (w3 : UInt64) (W3 : FP.Core.DInt i3 w3) (R3 : -2147483648 ≤ i3 ∧ i3 < 2147483648) (d0 d1 d2 d3 : UInt64) (j : Int32) (hj : 0 ≤ j.toInt ∧ j.toInt < 4) (y : UInt64) (k : Int) (Dy : FP.Core.DInt k y) (S : -2147483648 ≤ k ∧ k < 2147483648) (hg : [Value.double d0, .double d1, .double d2, .double d3].getD j.toNatClampNeg (Value.double (0 : UInt64)) = Value.double y) (At : Arv Z h ta kt .int (4 : Int32) [.int t0, .int t1, .int t2, .int t3] (.int (0 : Int32))) (Aw : Arv Z h aw kw .double (4 : Int32) [.double w0, .double w1, .double w2, .double w3] (.double (0 : UInt64))) (Ad : Arv Z h b kd .double (4 : Int32) [.double d0, .double d1, .double d2, .double d3] (.double (0 : UInt64))) :
    Con l Z (⟨"com/example/kenning/kenning/retrieval/VectorAddToPinLaw", "expected", "(II[I[D[D)D"⟩ : MethodName) method_3_code 7 (some .double) ⟨0, 0, 0, 0⟩ #[.int j, .int (3 : Int32), .ref ta, .ref aw, .ref b] h (fun v h' L => ∃ r A, v = some (.double r) ∧ FP.Core.DInt (k + A) r ∧ own_p 3 t0 t1 t2 t3 i0 i1 i2 i3 j.toInt A ∧ L = [] ∧ h' = h) := by
  refine con_of_go pnE (fun m => efE m j _ ta aw b) ?_
  intro p e s m below meth c T0 C X0 e0
  refine g_dconst0 C X0 (pc' := 1) d5_0 rfl rfl ?_
  refine g_dstore C X0 (pc' := 3) d5_1 (x := FP.dconst0) rfl (l' := #[.val (.int j), .val (.int (3 : Int32)), .val (.ref ta), .val (.ref aw), .val (.ref b), .val (.double FP.dconst0), .second]) rfl rfl ?_
  refine g_iloadN C X0 (pc' := 4) d5_3 rfl rfl ?_
  refine g_ifN C X0 d5_4 (by decide) rfl ?_
  refine g_aloadN C X0 (pc' := 8) d5_7 rfl rfl rfl ?_
  refine g_iconst C X0 (pc' := 9) d5_8 (v := (0 : Int32)) (by decide) rfl ?_
  refine g_iaload C X0 (pc' := 10) e0 At (by decide) (by decide) 0 (by decide) rfl d5_9 rfl ?_
  refine g_iloadN C X0 (pc' := 11) d5_10 rfl rfl ?_
  refine g_icmp C X0 d5_11 (pc' := 19) (pc'' := 14) (by decide) (by decide) rfl (fun c11 => ?_) (fun c11 => ?_)
  · have c11 : ¬ (t0.toInt = j.toInt) := c11
    refine g_iloadN C X0 (pc' := 20) d5_19 rfl rfl ?_
    refine g_iconst C X0 (pc' := 21) d5_20 (v := (1 : Int32)) (by decide) rfl ?_
    refine g_icmpN C X0 d5_21 (by decide) rfl ?_
    refine g_aloadN C X0 (pc' := 25) d5_24 rfl rfl rfl ?_
    refine g_iconst C X0 (pc' := 26) d5_25 (v := (1 : Int32)) (by decide) rfl ?_
    refine g_iaload C X0 (pc' := 27) e0 At (by decide) (by decide) 1 (by decide) rfl d5_26 rfl ?_
    refine g_iloadN C X0 (pc' := 28) d5_27 rfl rfl ?_
    refine g_icmp C X0 d5_28 (pc' := 36) (pc'' := 31) (by decide) (by decide) rfl (fun c28 => ?_) (fun c28 => ?_)
    · have c28 : ¬ (t1.toInt = j.toInt) := c28
      refine g_iloadN C X0 (pc' := 37) d5_36 rfl rfl ?_
      refine g_iconst C X0 (pc' := 38) d5_37 (v := (2 : Int32)) (by decide) rfl ?_
      refine g_icmpN C X0 d5_38 (by decide) rfl ?_
      refine g_aloadN C X0 (pc' := 42) d5_41 rfl rfl rfl ?_
      refine g_iconst C X0 (pc' := 43) d5_42 (v := (2 : Int32)) (by decide) rfl ?_
      refine g_iaload C X0 (pc' := 44) e0 At (by decide) (by decide) 2 (by decide) rfl d5_43 rfl ?_
      refine g_iloadN C X0 (pc' := 45) d5_44 rfl rfl ?_
      refine g_icmp C X0 d5_45 (pc' := 53) (pc'' := 48) (by decide) (by decide) rfl (fun c45 => ?_) (fun c45 => ?_)
      · have c45 : ¬ (t2.toInt = j.toInt) := c45
        refine g_iloadN C X0 (pc' := 54) d5_53 rfl rfl ?_
        refine g_iconst C X0 (pc' := 55) d5_54 (v := (3 : Int32)) (by decide) rfl ?_
        refine g_icmpY C X0 d5_55 (pc' := 70) (by decide) (by decide) (by decide) ?_
        refine g_aload C X0 (pc' := 72) d5_70 rfl rfl rfl ?_
        refine g_iloadN C X0 (pc' := 73) d5_72 rfl rfl ?_
        refine g_daload C X0 (pc' := 74) e0 Ad hj.1 hj.2 j.toNatClampNeg rfl hg d5_73 rfl ?_
        refine g_dload C X0 (pc' := 76) d5_74 rfl rfl ?_
        have D101 : FP.Core.DInt (k + 0) (FP.dadd y FP.dconst0) := dadd_D Dy dint_zero (by show _ ≤ 9007199254740992; omega)
        refine g_dadd C X0 (pc' := 77) d5_76 (nn_of_int D101) rfl ?_
        have P : own_p 3 t0 t1 t2 t3 i0 i1 i2 i3 j.toInt 0 := by unfold own_p; unfold own_four at hT; refine ⟨fun _ _ => ?_, fun _ _ => ?_, fun _ _ => ?_, fun _ _ => ?_, fun _ _ _ _ => ?_⟩ <;> omega
        exact g_dreturn C X0 d5_77 ⟨_, 0, rfl, D101, P, rfl, e0⟩ (by decide) (by decide)
      · have c45 : t2.toInt = j.toInt := Decidable.not_not.mp c45
        refine g_aloadN C X0 (pc' := 49) d5_48 rfl rfl rfl ?_
        refine g_iconst C X0 (pc' := 50) d5_49 (v := (2 : Int32)) (by decide) rfl ?_
        refine g_daload C X0 (pc' := 51) e0 Aw (by decide) (by decide) 2 (by decide) rfl d5_50 rfl ?_
        refine g_dstore C X0 (pc' := 53) d5_51 (x := w2) rfl (l' := #[.val (.int j), .val (.int (3 : Int32)), .val (.ref ta), .val (.ref aw), .val (.ref b), .val (.double w2), .second]) rfl rfl ?_
        refine g_iloadN C X0 (pc' := 54) d5_53 rfl rfl ?_
        refine g_iconst C X0 (pc' := 55) d5_54 (v := (3 : Int32)) (by decide) rfl ?_
        refine g_icmpY C X0 d5_55 (pc' := 70) (by decide) (by decide) (by decide) ?_
        refine g_aload C X0 (pc' := 72) d5_70 rfl rfl rfl ?_
        refine g_iloadN C X0 (pc' := 73) d5_72 rfl rfl ?_
        refine g_daload C X0 (pc' := 74) e0 Ad hj.1 hj.2 j.toNatClampNeg rfl hg d5_73 rfl ?_
        refine g_dload C X0 (pc' := 76) d5_74 rfl rfl ?_
        have D102 : FP.Core.DInt (k + i2) (FP.dadd y w2) := dadd_D Dy W2 (by show _ ≤ 9007199254740992; omega)
        refine g_dadd C X0 (pc' := 77) d5_76 (nn_of_int D102) rfl ?_
        have P : own_p 3 t0 t1 t2 t3 i0 i1 i2 i3 j.toInt i2 := by unfold own_p; unfold own_four at hT; refine ⟨fun _ _ => ?_, fun _ _ => ?_, fun _ _ => ?_, fun _ _ => ?_, fun _ _ _ _ => ?_⟩ <;> omega
        exact g_dreturn C X0 d5_77 ⟨_, i2, rfl, D102, P, rfl, e0⟩ (by decide) (by decide)
    · have c28 : t1.toInt = j.toInt := Decidable.not_not.mp c28
      refine g_aloadN C X0 (pc' := 32) d5_31 rfl rfl rfl ?_
      refine g_iconst C X0 (pc' := 33) d5_32 (v := (1 : Int32)) (by decide) rfl ?_
      refine g_daload C X0 (pc' := 34) e0 Aw (by decide) (by decide) 1 (by decide) rfl d5_33 rfl ?_
      refine g_dstore C X0 (pc' := 36) d5_34 (x := w1) rfl (l' := #[.val (.int j), .val (.int (3 : Int32)), .val (.ref ta), .val (.ref aw), .val (.ref b), .val (.double w1), .second]) rfl rfl ?_
      refine g_iloadN C X0 (pc' := 37) d5_36 rfl rfl ?_
      refine g_iconst C X0 (pc' := 38) d5_37 (v := (2 : Int32)) (by decide) rfl ?_
      refine g_icmpN C X0 d5_38 (by decide) rfl ?_
      refine g_aloadN C X0 (pc' := 42) d5_41 rfl rfl rfl ?_
      refine g_iconst C X0 (pc' := 43) d5_42 (v := (2 : Int32)) (by decide) rfl ?_
      refine g_iaload C X0 (pc' := 44) e0 At (by decide) (by decide) 2 (by decide) rfl d5_43 rfl ?_
      refine g_iloadN C X0 (pc' := 45) d5_44 rfl rfl ?_
      refine g_icmp C X0 d5_45 (pc' := 53) (pc'' := 48) (by decide) (by decide) rfl (fun c45 => ?_) (fun c45 => ?_)
      · have c45 : ¬ (t2.toInt = j.toInt) := c45
        refine g_iloadN C X0 (pc' := 54) d5_53 rfl rfl ?_
        refine g_iconst C X0 (pc' := 55) d5_54 (v := (3 : Int32)) (by decide) rfl ?_
        refine g_icmpY C X0 d5_55 (pc' := 70) (by decide) (by decide) (by decide) ?_
        refine g_aload C X0 (pc' := 72) d5_70 rfl rfl rfl ?_
        refine g_iloadN C X0 (pc' := 73) d5_72 rfl rfl ?_
        refine g_daload C X0 (pc' := 74) e0 Ad hj.1 hj.2 j.toNatClampNeg rfl hg d5_73 rfl ?_
        refine g_dload C X0 (pc' := 76) d5_74 rfl rfl ?_
        have D103 : FP.Core.DInt (k + i1) (FP.dadd y w1) := dadd_D Dy W1 (by show _ ≤ 9007199254740992; omega)
        refine g_dadd C X0 (pc' := 77) d5_76 (nn_of_int D103) rfl ?_
        have P : own_p 3 t0 t1 t2 t3 i0 i1 i2 i3 j.toInt i1 := by unfold own_p; unfold own_four at hT; refine ⟨fun _ _ => ?_, fun _ _ => ?_, fun _ _ => ?_, fun _ _ => ?_, fun _ _ _ _ => ?_⟩ <;> omega
        exact g_dreturn C X0 d5_77 ⟨_, i1, rfl, D103, P, rfl, e0⟩ (by decide) (by decide)
      · have c45 : t2.toInt = j.toInt := Decidable.not_not.mp c45
        refine g_aloadN C X0 (pc' := 49) d5_48 rfl rfl rfl ?_
        refine g_iconst C X0 (pc' := 50) d5_49 (v := (2 : Int32)) (by decide) rfl ?_
        refine g_daload C X0 (pc' := 51) e0 Aw (by decide) (by decide) 2 (by decide) rfl d5_50 rfl ?_
        refine g_dstore C X0 (pc' := 53) d5_51 (x := w2) rfl (l' := #[.val (.int j), .val (.int (3 : Int32)), .val (.ref ta), .val (.ref aw), .val (.ref b), .val (.double w2), .second]) rfl rfl ?_
        refine g_iloadN C X0 (pc' := 54) d5_53 rfl rfl ?_
        refine g_iconst C X0 (pc' := 55) d5_54 (v := (3 : Int32)) (by decide) rfl ?_
        refine g_icmpY C X0 d5_55 (pc' := 70) (by decide) (by decide) (by decide) ?_
        refine g_aload C X0 (pc' := 72) d5_70 rfl rfl rfl ?_
        refine g_iloadN C X0 (pc' := 73) d5_72 rfl rfl ?_
        refine g_daload C X0 (pc' := 74) e0 Ad hj.1 hj.2 j.toNatClampNeg rfl hg d5_73 rfl ?_
        refine g_dload C X0 (pc' := 76) d5_74 rfl rfl ?_
        have D104 : FP.Core.DInt (k + i2) (FP.dadd y w2) := dadd_D Dy W2 (by show _ ≤ 9007199254740992; omega)
        refine g_dadd C X0 (pc' := 77) d5_76 (nn_of_int D104) rfl ?_
        have P : own_p 3 t0 t1 t2 t3 i0 i1 i2 i3 j.toInt i2 := by unfold own_p; unfold own_four at hT; refine ⟨fun _ _ => ?_, fun _ _ => ?_, fun _ _ => ?_, fun _ _ => ?_, fun _ _ _ _ => ?_⟩ <;> omega
        exact g_dreturn C X0 d5_77 ⟨_, i2, rfl, D104, P, rfl, e0⟩ (by decide) (by decide)
  · have c11 : t0.toInt = j.toInt := Decidable.not_not.mp c11
    refine g_aloadN C X0 (pc' := 15) d5_14 rfl rfl rfl ?_
    refine g_iconst C X0 (pc' := 16) d5_15 (v := (0 : Int32)) (by decide) rfl ?_
    refine g_daload C X0 (pc' := 17) e0 Aw (by decide) (by decide) 0 (by decide) rfl d5_16 rfl ?_
    refine g_dstore C X0 (pc' := 19) d5_17 (x := w0) rfl (l' := #[.val (.int j), .val (.int (3 : Int32)), .val (.ref ta), .val (.ref aw), .val (.ref b), .val (.double w0), .second]) rfl rfl ?_
    refine g_iloadN C X0 (pc' := 20) d5_19 rfl rfl ?_
    refine g_iconst C X0 (pc' := 21) d5_20 (v := (1 : Int32)) (by decide) rfl ?_
    refine g_icmpN C X0 d5_21 (by decide) rfl ?_
    refine g_aloadN C X0 (pc' := 25) d5_24 rfl rfl rfl ?_
    refine g_iconst C X0 (pc' := 26) d5_25 (v := (1 : Int32)) (by decide) rfl ?_
    refine g_iaload C X0 (pc' := 27) e0 At (by decide) (by decide) 1 (by decide) rfl d5_26 rfl ?_
    refine g_iloadN C X0 (pc' := 28) d5_27 rfl rfl ?_
    refine g_icmp C X0 d5_28 (pc' := 36) (pc'' := 31) (by decide) (by decide) rfl (fun c28 => ?_) (fun c28 => ?_)
    · have c28 : ¬ (t1.toInt = j.toInt) := c28
      refine g_iloadN C X0 (pc' := 37) d5_36 rfl rfl ?_
      refine g_iconst C X0 (pc' := 38) d5_37 (v := (2 : Int32)) (by decide) rfl ?_
      refine g_icmpN C X0 d5_38 (by decide) rfl ?_
      refine g_aloadN C X0 (pc' := 42) d5_41 rfl rfl rfl ?_
      refine g_iconst C X0 (pc' := 43) d5_42 (v := (2 : Int32)) (by decide) rfl ?_
      refine g_iaload C X0 (pc' := 44) e0 At (by decide) (by decide) 2 (by decide) rfl d5_43 rfl ?_
      refine g_iloadN C X0 (pc' := 45) d5_44 rfl rfl ?_
      refine g_icmp C X0 d5_45 (pc' := 53) (pc'' := 48) (by decide) (by decide) rfl (fun c45 => ?_) (fun c45 => ?_)
      · have c45 : ¬ (t2.toInt = j.toInt) := c45
        refine g_iloadN C X0 (pc' := 54) d5_53 rfl rfl ?_
        refine g_iconst C X0 (pc' := 55) d5_54 (v := (3 : Int32)) (by decide) rfl ?_
        refine g_icmpY C X0 d5_55 (pc' := 70) (by decide) (by decide) (by decide) ?_
        refine g_aload C X0 (pc' := 72) d5_70 rfl rfl rfl ?_
        refine g_iloadN C X0 (pc' := 73) d5_72 rfl rfl ?_
        refine g_daload C X0 (pc' := 74) e0 Ad hj.1 hj.2 j.toNatClampNeg rfl hg d5_73 rfl ?_
        refine g_dload C X0 (pc' := 76) d5_74 rfl rfl ?_
        have D105 : FP.Core.DInt (k + i0) (FP.dadd y w0) := dadd_D Dy W0 (by show _ ≤ 9007199254740992; omega)
        refine g_dadd C X0 (pc' := 77) d5_76 (nn_of_int D105) rfl ?_
        have P : own_p 3 t0 t1 t2 t3 i0 i1 i2 i3 j.toInt i0 := by unfold own_p; unfold own_four at hT; refine ⟨fun _ _ => ?_, fun _ _ => ?_, fun _ _ => ?_, fun _ _ => ?_, fun _ _ _ _ => ?_⟩ <;> omega
        exact g_dreturn C X0 d5_77 ⟨_, i0, rfl, D105, P, rfl, e0⟩ (by decide) (by decide)
      · have c45 : t2.toInt = j.toInt := Decidable.not_not.mp c45
        refine g_aloadN C X0 (pc' := 49) d5_48 rfl rfl rfl ?_
        refine g_iconst C X0 (pc' := 50) d5_49 (v := (2 : Int32)) (by decide) rfl ?_
        refine g_daload C X0 (pc' := 51) e0 Aw (by decide) (by decide) 2 (by decide) rfl d5_50 rfl ?_
        refine g_dstore C X0 (pc' := 53) d5_51 (x := w2) rfl (l' := #[.val (.int j), .val (.int (3 : Int32)), .val (.ref ta), .val (.ref aw), .val (.ref b), .val (.double w2), .second]) rfl rfl ?_
        refine g_iloadN C X0 (pc' := 54) d5_53 rfl rfl ?_
        refine g_iconst C X0 (pc' := 55) d5_54 (v := (3 : Int32)) (by decide) rfl ?_
        refine g_icmpY C X0 d5_55 (pc' := 70) (by decide) (by decide) (by decide) ?_
        refine g_aload C X0 (pc' := 72) d5_70 rfl rfl rfl ?_
        refine g_iloadN C X0 (pc' := 73) d5_72 rfl rfl ?_
        refine g_daload C X0 (pc' := 74) e0 Ad hj.1 hj.2 j.toNatClampNeg rfl hg d5_73 rfl ?_
        refine g_dload C X0 (pc' := 76) d5_74 rfl rfl ?_
        have D106 : FP.Core.DInt (k + i2) (FP.dadd y w2) := dadd_D Dy W2 (by show _ ≤ 9007199254740992; omega)
        refine g_dadd C X0 (pc' := 77) d5_76 (nn_of_int D106) rfl ?_
        have P : own_p 3 t0 t1 t2 t3 i0 i1 i2 i3 j.toInt i2 := by unfold own_p; unfold own_four at hT; refine ⟨fun _ _ => ?_, fun _ _ => ?_, fun _ _ => ?_, fun _ _ => ?_, fun _ _ _ _ => ?_⟩ <;> omega
        exact g_dreturn C X0 d5_77 ⟨_, i2, rfl, D106, P, rfl, e0⟩ (by decide) (by decide)
    · have c28 : t1.toInt = j.toInt := Decidable.not_not.mp c28
      refine g_aloadN C X0 (pc' := 32) d5_31 rfl rfl rfl ?_
      refine g_iconst C X0 (pc' := 33) d5_32 (v := (1 : Int32)) (by decide) rfl ?_
      refine g_daload C X0 (pc' := 34) e0 Aw (by decide) (by decide) 1 (by decide) rfl d5_33 rfl ?_
      refine g_dstore C X0 (pc' := 36) d5_34 (x := w1) rfl (l' := #[.val (.int j), .val (.int (3 : Int32)), .val (.ref ta), .val (.ref aw), .val (.ref b), .val (.double w1), .second]) rfl rfl ?_
      refine g_iloadN C X0 (pc' := 37) d5_36 rfl rfl ?_
      refine g_iconst C X0 (pc' := 38) d5_37 (v := (2 : Int32)) (by decide) rfl ?_
      refine g_icmpN C X0 d5_38 (by decide) rfl ?_
      refine g_aloadN C X0 (pc' := 42) d5_41 rfl rfl rfl ?_
      refine g_iconst C X0 (pc' := 43) d5_42 (v := (2 : Int32)) (by decide) rfl ?_
      refine g_iaload C X0 (pc' := 44) e0 At (by decide) (by decide) 2 (by decide) rfl d5_43 rfl ?_
      refine g_iloadN C X0 (pc' := 45) d5_44 rfl rfl ?_
      refine g_icmp C X0 d5_45 (pc' := 53) (pc'' := 48) (by decide) (by decide) rfl (fun c45 => ?_) (fun c45 => ?_)
      · have c45 : ¬ (t2.toInt = j.toInt) := c45
        refine g_iloadN C X0 (pc' := 54) d5_53 rfl rfl ?_
        refine g_iconst C X0 (pc' := 55) d5_54 (v := (3 : Int32)) (by decide) rfl ?_
        refine g_icmpY C X0 d5_55 (pc' := 70) (by decide) (by decide) (by decide) ?_
        refine g_aload C X0 (pc' := 72) d5_70 rfl rfl rfl ?_
        refine g_iloadN C X0 (pc' := 73) d5_72 rfl rfl ?_
        refine g_daload C X0 (pc' := 74) e0 Ad hj.1 hj.2 j.toNatClampNeg rfl hg d5_73 rfl ?_
        refine g_dload C X0 (pc' := 76) d5_74 rfl rfl ?_
        have D107 : FP.Core.DInt (k + i1) (FP.dadd y w1) := dadd_D Dy W1 (by show _ ≤ 9007199254740992; omega)
        refine g_dadd C X0 (pc' := 77) d5_76 (nn_of_int D107) rfl ?_
        have P : own_p 3 t0 t1 t2 t3 i0 i1 i2 i3 j.toInt i1 := by unfold own_p; unfold own_four at hT; refine ⟨fun _ _ => ?_, fun _ _ => ?_, fun _ _ => ?_, fun _ _ => ?_, fun _ _ _ _ => ?_⟩ <;> omega
        exact g_dreturn C X0 d5_77 ⟨_, i1, rfl, D107, P, rfl, e0⟩ (by decide) (by decide)
      · have c45 : t2.toInt = j.toInt := Decidable.not_not.mp c45
        refine g_aloadN C X0 (pc' := 49) d5_48 rfl rfl rfl ?_
        refine g_iconst C X0 (pc' := 50) d5_49 (v := (2 : Int32)) (by decide) rfl ?_
        refine g_daload C X0 (pc' := 51) e0 Aw (by decide) (by decide) 2 (by decide) rfl d5_50 rfl ?_
        refine g_dstore C X0 (pc' := 53) d5_51 (x := w2) rfl (l' := #[.val (.int j), .val (.int (3 : Int32)), .val (.ref ta), .val (.ref aw), .val (.ref b), .val (.double w2), .second]) rfl rfl ?_
        refine g_iloadN C X0 (pc' := 54) d5_53 rfl rfl ?_
        refine g_iconst C X0 (pc' := 55) d5_54 (v := (3 : Int32)) (by decide) rfl ?_
        refine g_icmpY C X0 d5_55 (pc' := 70) (by decide) (by decide) (by decide) ?_
        refine g_aload C X0 (pc' := 72) d5_70 rfl rfl rfl ?_
        refine g_iloadN C X0 (pc' := 73) d5_72 rfl rfl ?_
        refine g_daload C X0 (pc' := 74) e0 Ad hj.1 hj.2 j.toNatClampNeg rfl hg d5_73 rfl ?_
        refine g_dload C X0 (pc' := 76) d5_74 rfl rfl ?_
        have D108 : FP.Core.DInt (k + i2) (FP.dadd y w2) := dadd_D Dy W2 (by show _ ≤ 9007199254740992; omega)
        refine g_dadd C X0 (pc' := 77) d5_76 (nn_of_int D108) rfl ?_
        have P : own_p 3 t0 t1 t2 t3 i0 i1 i2 i3 j.toInt i2 := by unfold own_p; unfold own_four at hT; refine ⟨fun _ _ => ?_, fun _ _ => ?_, fun _ _ => ?_, fun _ _ => ?_, fun _ _ _ _ => ?_⟩ <;> omega
        exact g_dreturn C X0 d5_77 ⟨_, i2, rfl, D108, P, rfl, e0⟩ (by decide) (by decide)
set_option maxRecDepth 65536 in
set_option maxHeartbeats 40000000 in
theorem c_add4 (l : Launch) (Z : State) (a0 : Array Value) (hw : ∀ d ∈ tables_1, d.before a0 Z = true) (h : Heap) (n0 : Nat) (Z0 : n0 ≤ h.size) (a b ta aw : Addr) (z_b : n0 ≤ b) (n_a : a ≠ b) (n_ta : ta ≠ b) (n_aw : aw ≠ b) (kt kw kd : ClassId) (t0 t1 t2 t3 : Int32) (i0 i1 i2 i3 : Int) (hT : own_four t0 t1 t2 t3) (w0 : UInt64) (W0 : FP.Core.DInt i0 w0) (R0 : -2147483648 ≤ i0 ∧ i0 < 2147483648) (w1 : UInt64) (W1 : FP.Core.DInt i1 w1) (R1 : -2147483648 ≤ i1 ∧ i1 < 2147483648) (w2 : UInt64) (W2 : FP.Core.DInt i2 w2) (R2 : -2147483648 ≤ i2 ∧ i2 < 2147483648) (w3 : UInt64) (W3 : FP.Core.DInt i3 w3) (R3 : -2147483648 ≤ i3 ∧ i3 < 2147483648) (d0 : UInt64) (k0 : Int) (D0 : FP.Core.DInt k0 d0) (S0 : -2147483648 ≤ k0 ∧ k0 < 2147483648) (d1 : UInt64) (k1 : Int) (D1 : FP.Core.DInt k1 d1) (S1 : -2147483648 ≤ k1 ∧ k1 < 2147483648) (d2 : UInt64) (k2 : Int) (D2 : FP.Core.DInt k2 d2) (S2 : -2147483648 ≤ k2 ∧ k2 < 2147483648) (d3 : UInt64) (k3 : Int) (D3 : FP.Core.DInt k3 d3) (S3 : -2147483648 ≤ k3 ∧ k3 < 2147483648) (F1 : Fld Z h a "com/example/kenning/kenning/retrieval/KMeans$Vector" "terms" "[I" (.ref ta)) (F2 : Fld Z h a "com/example/kenning/kenning/retrieval/KMeans$Vector" "weights" "[D" (.ref aw)) (At : Arv Z h ta kt .int (4 : Int32) [.int t0, .int t1, .int t2, .int t3] (.int (0 : Int32))) (Aw : Arv Z h aw kw .double (4 : Int32) [.double w0, .double w1, .double w2, .double w3] (.double (0 : UInt64))) (Ad : Arv Z h b kd .double (4 : Int32) [.double d0, .double d1, .double d2, .double d3] (.double (0 : UInt64))) :
    Con l Z (⟨"com/example/kenning/kenning/retrieval/KMeans$Vector", "addTo", "([D)V"⟩ : MethodName) prog_50_method_4_code 3 none ⟨0, 0, 0, 0⟩ #[.ref a, .ref b] h (fun v h' L => v = none ∧ Fr n0 L ∧ Keep h h' [b] ∧ ∃ (z0 z1 z2 z3 : UInt64) (b0 b1 b2 b3 : Int), FP.Core.DInt (k0 + b0) z0 ∧ FP.Core.DInt (k1 + b1) z1 ∧ FP.Core.DInt (k2 + b2) z2 ∧ FP.Core.DInt (k3 + b3) z3 ∧ own_p 4 t0 t1 t2 t3 i0 i1 i2 i3 0 b0 ∧ own_p 4 t0 t1 t2 t3 i0 i1 i2 i3 1 b1 ∧ own_p 4 t0 t1 t2 t3 i0 i1 i2 i3 2 b2 ∧ own_p 4 t0 t1 t2 t3 i0 i1 i2 i3 3 b3 ∧ Arv Z h' b kd .double (4 : Int32) [.double z0, .double z1, .double z2, .double z3] (.double (0 : UInt64))) := by
  refine con_of_go pnV (fun m => efD m a b) ?_
  intro p e s m below meth c T0 C X0 e0
  refine g_iconst C X0 (pc' := 1) d4_0 (v := (0 : Int32)) (by decide) rfl ?_
  refine g_istoreN C X0 (pc' := 2) d4_1 (x := (0 : Int32)) rfl (l' := #[.val (.ref a), .val (.ref b), .val (.int (0 : Int32))]) rfl rfl ?_
  refine g_iloadN C X0 (pc' := 3) d4_2 rfl rfl ?_
  refine g_aloadN C X0 (pc' := 4) d4_3 rfl rfl rfl ?_
  refine g_getF C X0 (host := "") (Or.inl (hw _ (List.mem_of_getElem? (i := 16) rfl))) Via.refl e0 F1 d4_4 rfl ?_
  intro T1 X1 e1
  refine g_len C X1 (pc' := 8) e1 At d4_7 rfl ?_
  refine g_icmpN C X1 d4_8 (by decide) rfl ?_
  refine g_aloadN C X1 (pc' := 12) d4_11 rfl rfl rfl ?_
  refine g_aloadN C X1 (pc' := 13) d4_12 rfl rfl rfl ?_
  refine g_getF C X1 (host := "") (Or.inl (hw _ (List.mem_of_getElem? (i := 16) rfl))) Via.refl e1 F1 d4_13 rfl ?_
  intro T2 X2 e2
  refine g_iloadN C X2 (pc' := 17) d4_16 rfl rfl ?_
  refine g_iaload C X2 (pc' := 18) e2 At (by decide) (by decide) 0 (by decide) rfl d4_17 rfl ?_
  rcases own_one hT.1 with rfl | rfl | rfl | rfl
  · show Go p.tables e below _ T2 (mkF m 18 #[.val (.ref a), .val (.ref b), .val (.int (0 : Int32))] [(.int (0 : Int32)), (.ref b)])
    refine g_dup2 C X2 (pc' := 19) d4_18 rfl rfl rfl ?_
    refine g_daload C X2 (pc' := 20) e2 Ad (by decide) (by decide) 0 (by decide) rfl d4_19 rfl ?_
    refine g_aloadN C X2 (pc' := 21) d4_20 rfl rfl rfl ?_
    refine g_getF C X2 (host := "") (Or.inl (hw _ (List.mem_of_getElem? (i := 18) rfl))) Via.refl e2 F2 d4_21 rfl ?_
    intro T3 X3 e3
    refine g_iloadN C X3 (pc' := 25) d4_24 rfl rfl ?_
    refine g_daload C X3 (pc' := 26) e3 Aw (by decide) (by decide) 0 (by decide) rfl d4_25 rfl ?_
    have D101 : FP.Core.DInt (k0 + i0) (FP.dadd d0 w0) := dadd_D D0 W0 (by show _ ≤ 9007199254740992; omega)
    refine g_dadd C X3 (pc' := 27) d4_26 (nn_of_int D101) rfl ?_
    refine g_dastore C X3 (pc' := 28) e3 Ad (by decide) (by decide) 0 0 (by decide) (of_decide_eq_true rfl) d4_27 rfl ?_
    intro T4 h4 X4 e4 W4 Aq
    have F1 := F1.other W4 (Or.inl n_a)
    have F2 := F2.other W4 (Or.inl n_a)
    have At := At.other W4 n_ta
    have Aw := Aw.other W4 n_aw
    have Z4 : n0 ≤ h4.size := by rw [W4.size]; exact Z0
    have N4 := Fr.snoc X4 (Fr.nil n0) z_b
    have P4 := (Keep.refl h [b]).wr W4 (Or.inl (List.mem_of_getElem? (i := 0) rfl))
    have Ad : Arv Z h4 b kd .double (4 : Int32) [(.double (FP.dadd d0 w0)), (.double d1), (.double d2), (.double d3)] (.double (0 : UInt64)) := Aq
    refine g_iinc C X4 (pc' := 31) d4_28 rfl (z := (1 : Int32)) (by decide) (l' := #[.val (.ref a), .val (.ref b), .val (.int (1 : Int32))]) rfl rfl ?_
    refine g_goto C X4 d4_31 (pc' := 2) (by decide) (by decide) ?_
    refine g_iloadN C X4 (pc' := 3) d4_2 rfl rfl ?_
    refine g_aloadN C X4 (pc' := 4) d4_3 rfl rfl rfl ?_
    refine g_getF C X4 (host := "") (Or.inl (hw _ (List.mem_of_getElem? (i := 16) rfl))) Via.refl e4 F1 d4_4 rfl ?_
    intro T5 X5 e5
    refine g_len C X5 (pc' := 8) e5 At d4_7 rfl ?_
    refine g_icmpN C X5 d4_8 (by decide) rfl ?_
    refine g_aloadN C X5 (pc' := 12) d4_11 rfl rfl rfl ?_
    refine g_aloadN C X5 (pc' := 13) d4_12 rfl rfl rfl ?_
    refine g_getF C X5 (host := "") (Or.inl (hw _ (List.mem_of_getElem? (i := 16) rfl))) Via.refl e5 F1 d4_13 rfl ?_
    intro T6 X6 e6
    refine g_iloadN C X6 (pc' := 17) d4_16 rfl rfl ?_
    refine g_iaload C X6 (pc' := 18) e6 At (by decide) (by decide) 1 (by decide) rfl d4_17 rfl ?_
    rcases own_one hT.2.1 with rfl | rfl | rfl | rfl
    · exact absurd rfl hT.2.2.2.2.1
    · show Go p.tables e below _ T6 (mkF m 18 #[.val (.ref a), .val (.ref b), .val (.int (1 : Int32))] [(.int (1 : Int32)), (.ref b)])
      refine g_dup2 C X6 (pc' := 19) d4_18 rfl rfl rfl ?_
      refine g_daload C X6 (pc' := 20) e6 Ad (by decide) (by decide) 1 (by decide) rfl d4_19 rfl ?_
      refine g_aloadN C X6 (pc' := 21) d4_20 rfl rfl rfl ?_
      refine g_getF C X6 (host := "") (Or.inl (hw _ (List.mem_of_getElem? (i := 18) rfl))) Via.refl e6 F2 d4_21 rfl ?_
      intro T7 X7 e7
      refine g_iloadN C X7 (pc' := 25) d4_24 rfl rfl ?_
      refine g_daload C X7 (pc' := 26) e7 Aw (by decide) (by decide) 1 (by decide) rfl d4_25 rfl ?_
      have D102 : FP.Core.DInt (k1 + i1) (FP.dadd d1 w1) := dadd_D D1 W1 (by show _ ≤ 9007199254740992; omega)
      refine g_dadd C X7 (pc' := 27) d4_26 (nn_of_int D102) rfl ?_
      refine g_dastore C X7 (pc' := 28) e7 Ad (by decide) (by decide) 1 0 (by decide) (of_decide_eq_true rfl) d4_27 rfl ?_
      intro T8 h8 X8 e8 W8 Aq
      have F1 := F1.other W8 (Or.inl n_a)
      have F2 := F2.other W8 (Or.inl n_a)
      have At := At.other W8 n_ta
      have Aw := Aw.other W8 n_aw
      have Z8 : n0 ≤ h8.size := by rw [W8.size]; exact Z4
      have N8 := Fr.snoc X8 N4 z_b
      have P8 := P4.wr W8 (Or.inl (List.mem_of_getElem? (i := 0) rfl))
      have Ad : Arv Z h8 b kd .double (4 : Int32) [(.double (FP.dadd d0 w0)), (.double (FP.dadd d1 w1)), (.double d2), (.double d3)] (.double (0 : UInt64)) := Aq
      refine g_iinc C X8 (pc' := 31) d4_28 rfl (z := (2 : Int32)) (by decide) (l' := #[.val (.ref a), .val (.ref b), .val (.int (2 : Int32))]) rfl rfl ?_
      refine g_goto C X8 d4_31 (pc' := 2) (by decide) (by decide) ?_
      refine g_iloadN C X8 (pc' := 3) d4_2 rfl rfl ?_
      refine g_aloadN C X8 (pc' := 4) d4_3 rfl rfl rfl ?_
      refine g_getF C X8 (host := "") (Or.inl (hw _ (List.mem_of_getElem? (i := 16) rfl))) Via.refl e8 F1 d4_4 rfl ?_
      intro T9 X9 e9
      refine g_len C X9 (pc' := 8) e9 At d4_7 rfl ?_
      refine g_icmpN C X9 d4_8 (by decide) rfl ?_
      refine g_aloadN C X9 (pc' := 12) d4_11 rfl rfl rfl ?_
      refine g_aloadN C X9 (pc' := 13) d4_12 rfl rfl rfl ?_
      refine g_getF C X9 (host := "") (Or.inl (hw _ (List.mem_of_getElem? (i := 16) rfl))) Via.refl e9 F1 d4_13 rfl ?_
      intro T10 X10 e10
      refine g_iloadN C X10 (pc' := 17) d4_16 rfl rfl ?_
      refine g_iaload C X10 (pc' := 18) e10 At (by decide) (by decide) 2 (by decide) rfl d4_17 rfl ?_
      rcases own_one hT.2.2.1 with rfl | rfl | rfl | rfl
      · exact absurd rfl hT.2.2.2.2.2.1
      · exact absurd rfl hT.2.2.2.2.2.2.2.1
      · show Go p.tables e below _ T10 (mkF m 18 #[.val (.ref a), .val (.ref b), .val (.int (2 : Int32))] [(.int (2 : Int32)), (.ref b)])
        refine g_dup2 C X10 (pc' := 19) d4_18 rfl rfl rfl ?_
        refine g_daload C X10 (pc' := 20) e10 Ad (by decide) (by decide) 2 (by decide) rfl d4_19 rfl ?_
        refine g_aloadN C X10 (pc' := 21) d4_20 rfl rfl rfl ?_
        refine g_getF C X10 (host := "") (Or.inl (hw _ (List.mem_of_getElem? (i := 18) rfl))) Via.refl e10 F2 d4_21 rfl ?_
        intro T11 X11 e11
        refine g_iloadN C X11 (pc' := 25) d4_24 rfl rfl ?_
        refine g_daload C X11 (pc' := 26) e11 Aw (by decide) (by decide) 2 (by decide) rfl d4_25 rfl ?_
        have D103 : FP.Core.DInt (k2 + i2) (FP.dadd d2 w2) := dadd_D D2 W2 (by show _ ≤ 9007199254740992; omega)
        refine g_dadd C X11 (pc' := 27) d4_26 (nn_of_int D103) rfl ?_
        refine g_dastore C X11 (pc' := 28) e11 Ad (by decide) (by decide) 2 0 (by decide) (of_decide_eq_true rfl) d4_27 rfl ?_
        intro T12 h12 X12 e12 W12 Aq
        have F1 := F1.other W12 (Or.inl n_a)
        have F2 := F2.other W12 (Or.inl n_a)
        have At := At.other W12 n_ta
        have Aw := Aw.other W12 n_aw
        have Z12 : n0 ≤ h12.size := by rw [W12.size]; exact Z8
        have N12 := Fr.snoc X12 N8 z_b
        have P12 := P8.wr W12 (Or.inl (List.mem_of_getElem? (i := 0) rfl))
        have Ad : Arv Z h12 b kd .double (4 : Int32) [(.double (FP.dadd d0 w0)), (.double (FP.dadd d1 w1)), (.double (FP.dadd d2 w2)), (.double d3)] (.double (0 : UInt64)) := Aq
        refine g_iinc C X12 (pc' := 31) d4_28 rfl (z := (3 : Int32)) (by decide) (l' := #[.val (.ref a), .val (.ref b), .val (.int (3 : Int32))]) rfl rfl ?_
        refine g_goto C X12 d4_31 (pc' := 2) (by decide) (by decide) ?_
        refine g_iloadN C X12 (pc' := 3) d4_2 rfl rfl ?_
        refine g_aloadN C X12 (pc' := 4) d4_3 rfl rfl rfl ?_
        refine g_getF C X12 (host := "") (Or.inl (hw _ (List.mem_of_getElem? (i := 16) rfl))) Via.refl e12 F1 d4_4 rfl ?_
        intro T13 X13 e13
        refine g_len C X13 (pc' := 8) e13 At d4_7 rfl ?_
        refine g_icmpN C X13 d4_8 (by decide) rfl ?_
        refine g_aloadN C X13 (pc' := 12) d4_11 rfl rfl rfl ?_
        refine g_aloadN C X13 (pc' := 13) d4_12 rfl rfl rfl ?_
        refine g_getF C X13 (host := "") (Or.inl (hw _ (List.mem_of_getElem? (i := 16) rfl))) Via.refl e13 F1 d4_13 rfl ?_
        intro T14 X14 e14
        refine g_iloadN C X14 (pc' := 17) d4_16 rfl rfl ?_
        refine g_iaload C X14 (pc' := 18) e14 At (by decide) (by decide) 3 (by decide) rfl d4_17 rfl ?_
        rcases own_one hT.2.2.2.1 with rfl | rfl | rfl | rfl
        · exact absurd rfl hT.2.2.2.2.2.2.1
        · exact absurd rfl hT.2.2.2.2.2.2.2.2.1
        · exact absurd rfl hT.2.2.2.2.2.2.2.2.2
        · show Go p.tables e below _ T14 (mkF m 18 #[.val (.ref a), .val (.ref b), .val (.int (3 : Int32))] [(.int (3 : Int32)), (.ref b)])
          refine g_dup2 C X14 (pc' := 19) d4_18 rfl rfl rfl ?_
          refine g_daload C X14 (pc' := 20) e14 Ad (by decide) (by decide) 3 (by decide) rfl d4_19 rfl ?_
          refine g_aloadN C X14 (pc' := 21) d4_20 rfl rfl rfl ?_
          refine g_getF C X14 (host := "") (Or.inl (hw _ (List.mem_of_getElem? (i := 18) rfl))) Via.refl e14 F2 d4_21 rfl ?_
          intro T15 X15 e15
          refine g_iloadN C X15 (pc' := 25) d4_24 rfl rfl ?_
          refine g_daload C X15 (pc' := 26) e15 Aw (by decide) (by decide) 3 (by decide) rfl d4_25 rfl ?_
          have D104 : FP.Core.DInt (k3 + i3) (FP.dadd d3 w3) := dadd_D D3 W3 (by show _ ≤ 9007199254740992; omega)
          refine g_dadd C X15 (pc' := 27) d4_26 (nn_of_int D104) rfl ?_
          refine g_dastore C X15 (pc' := 28) e15 Ad (by decide) (by decide) 3 0 (by decide) (of_decide_eq_true rfl) d4_27 rfl ?_
          intro T16 h16 X16 e16 W16 Aq
          have F1 := F1.other W16 (Or.inl n_a)
          have F2 := F2.other W16 (Or.inl n_a)
          have At := At.other W16 n_ta
          have Aw := Aw.other W16 n_aw
          have Z16 : n0 ≤ h16.size := by rw [W16.size]; exact Z12
          have N16 := Fr.snoc X16 N12 z_b
          have P16 := P12.wr W16 (Or.inl (List.mem_of_getElem? (i := 0) rfl))
          have Ad : Arv Z h16 b kd .double (4 : Int32) [(.double (FP.dadd d0 w0)), (.double (FP.dadd d1 w1)), (.double (FP.dadd d2 w2)), (.double (FP.dadd d3 w3))] (.double (0 : UInt64)) := Aq
          refine g_iinc C X16 (pc' := 31) d4_28 rfl (z := (4 : Int32)) (by decide) (l' := #[.val (.ref a), .val (.ref b), .val (.int (4 : Int32))]) rfl rfl ?_
          refine g_goto C X16 d4_31 (pc' := 2) (by decide) (by decide) ?_
          refine g_iloadN C X16 (pc' := 3) d4_2 rfl rfl ?_
          refine g_aloadN C X16 (pc' := 4) d4_3 rfl rfl rfl ?_
          refine g_getF C X16 (host := "") (Or.inl (hw _ (List.mem_of_getElem? (i := 16) rfl))) Via.refl e16 F1 d4_4 rfl ?_
          intro T17 X17 e17
          refine g_len C X17 (pc' := 8) e17 At d4_7 rfl ?_
          refine g_icmpY C X17 d4_8 (pc' := 34) (by decide) (by decide) (by decide) ?_
          have q0 := own_c0
          have q1 := own_c1
          have q2 := own_c2
          have q3 := own_c3
          have P0 : own_p 4 (0 : Int32) (1 : Int32) (2 : Int32) (3 : Int32) i0 i1 i2 i3 0 i0 := by unfold own_p; refine ⟨fun _ _ => ?_, fun _ _ => ?_, fun _ _ => ?_, fun _ _ => ?_, fun _ _ _ _ => ?_⟩ <;> omega
          have P1 : own_p 4 (0 : Int32) (1 : Int32) (2 : Int32) (3 : Int32) i0 i1 i2 i3 1 i1 := by unfold own_p; refine ⟨fun _ _ => ?_, fun _ _ => ?_, fun _ _ => ?_, fun _ _ => ?_, fun _ _ _ _ => ?_⟩ <;> omega
          have P2 : own_p 4 (0 : Int32) (1 : Int32) (2 : Int32) (3 : Int32) i0 i1 i2 i3 2 i2 := by unfold own_p; refine ⟨fun _ _ => ?_, fun _ _ => ?_, fun _ _ => ?_, fun _ _ => ?_, fun _ _ _ _ => ?_⟩ <;> omega
          have P3 : own_p 4 (0 : Int32) (1 : Int32) (2 : Int32) (3 : Int32) i0 i1 i2 i3 3 i3 := by unfold own_p; refine ⟨fun _ _ => ?_, fun _ _ => ?_, fun _ _ => ?_, fun _ _ => ?_, fun _ _ _ _ => ?_⟩ <;> omega
          exact g_return C X17 d4_34 ⟨rfl, N16, by rw [e17]; exact P16, FP.dadd d0 w0, FP.dadd d1 w1, FP.dadd d2 w2, FP.dadd d3 w3, i0, i1, i2, i3, D101, D102, D103, D104, P0, P1, P2, P3, by rw [e17]; exact Ad⟩ (by decide) (by decide)
      · show Go p.tables e below _ T10 (mkF m 18 #[.val (.ref a), .val (.ref b), .val (.int (2 : Int32))] [(.int (3 : Int32)), (.ref b)])
        refine g_dup2 C X10 (pc' := 19) d4_18 rfl rfl rfl ?_
        refine g_daload C X10 (pc' := 20) e10 Ad (by decide) (by decide) 3 (by decide) rfl d4_19 rfl ?_
        refine g_aloadN C X10 (pc' := 21) d4_20 rfl rfl rfl ?_
        refine g_getF C X10 (host := "") (Or.inl (hw _ (List.mem_of_getElem? (i := 18) rfl))) Via.refl e10 F2 d4_21 rfl ?_
        intro T18 X18 e18
        refine g_iloadN C X18 (pc' := 25) d4_24 rfl rfl ?_
        refine g_daload C X18 (pc' := 26) e18 Aw (by decide) (by decide) 2 (by decide) rfl d4_25 rfl ?_
        have D105 : FP.Core.DInt (k3 + i2) (FP.dadd d3 w2) := dadd_D D3 W2 (by show _ ≤ 9007199254740992; omega)
        refine g_dadd C X18 (pc' := 27) d4_26 (nn_of_int D105) rfl ?_
        refine g_dastore C X18 (pc' := 28) e18 Ad (by decide) (by decide) 3 0 (by decide) (of_decide_eq_true rfl) d4_27 rfl ?_
        intro T19 h19 X19 e19 W19 Aq
        have F1 := F1.other W19 (Or.inl n_a)
        have F2 := F2.other W19 (Or.inl n_a)
        have At := At.other W19 n_ta
        have Aw := Aw.other W19 n_aw
        have Z19 : n0 ≤ h19.size := by rw [W19.size]; exact Z8
        have N19 := Fr.snoc X19 N8 z_b
        have P19 := P8.wr W19 (Or.inl (List.mem_of_getElem? (i := 0) rfl))
        have Ad : Arv Z h19 b kd .double (4 : Int32) [(.double (FP.dadd d0 w0)), (.double (FP.dadd d1 w1)), (.double d2), (.double (FP.dadd d3 w2))] (.double (0 : UInt64)) := Aq
        refine g_iinc C X19 (pc' := 31) d4_28 rfl (z := (3 : Int32)) (by decide) (l' := #[.val (.ref a), .val (.ref b), .val (.int (3 : Int32))]) rfl rfl ?_
        refine g_goto C X19 d4_31 (pc' := 2) (by decide) (by decide) ?_
        refine g_iloadN C X19 (pc' := 3) d4_2 rfl rfl ?_
        refine g_aloadN C X19 (pc' := 4) d4_3 rfl rfl rfl ?_
        refine g_getF C X19 (host := "") (Or.inl (hw _ (List.mem_of_getElem? (i := 16) rfl))) Via.refl e19 F1 d4_4 rfl ?_
        intro T20 X20 e20
        refine g_len C X20 (pc' := 8) e20 At d4_7 rfl ?_
        refine g_icmpN C X20 d4_8 (by decide) rfl ?_
        refine g_aloadN C X20 (pc' := 12) d4_11 rfl rfl rfl ?_
        refine g_aloadN C X20 (pc' := 13) d4_12 rfl rfl rfl ?_
        refine g_getF C X20 (host := "") (Or.inl (hw _ (List.mem_of_getElem? (i := 16) rfl))) Via.refl e20 F1 d4_13 rfl ?_
        intro T21 X21 e21
        refine g_iloadN C X21 (pc' := 17) d4_16 rfl rfl ?_
        refine g_iaload C X21 (pc' := 18) e21 At (by decide) (by decide) 3 (by decide) rfl d4_17 rfl ?_
        rcases own_one hT.2.2.2.1 with rfl | rfl | rfl | rfl
        · exact absurd rfl hT.2.2.2.2.2.2.1
        · exact absurd rfl hT.2.2.2.2.2.2.2.2.1
        · show Go p.tables e below _ T21 (mkF m 18 #[.val (.ref a), .val (.ref b), .val (.int (3 : Int32))] [(.int (2 : Int32)), (.ref b)])
          refine g_dup2 C X21 (pc' := 19) d4_18 rfl rfl rfl ?_
          refine g_daload C X21 (pc' := 20) e21 Ad (by decide) (by decide) 2 (by decide) rfl d4_19 rfl ?_
          refine g_aloadN C X21 (pc' := 21) d4_20 rfl rfl rfl ?_
          refine g_getF C X21 (host := "") (Or.inl (hw _ (List.mem_of_getElem? (i := 18) rfl))) Via.refl e21 F2 d4_21 rfl ?_
          intro T22 X22 e22
          refine g_iloadN C X22 (pc' := 25) d4_24 rfl rfl ?_
          refine g_daload C X22 (pc' := 26) e22 Aw (by decide) (by decide) 3 (by decide) rfl d4_25 rfl ?_
          have D106 : FP.Core.DInt (k2 + i3) (FP.dadd d2 w3) := dadd_D D2 W3 (by show _ ≤ 9007199254740992; omega)
          refine g_dadd C X22 (pc' := 27) d4_26 (nn_of_int D106) rfl ?_
          refine g_dastore C X22 (pc' := 28) e22 Ad (by decide) (by decide) 2 0 (by decide) (of_decide_eq_true rfl) d4_27 rfl ?_
          intro T23 h23 X23 e23 W23 Aq
          have F1 := F1.other W23 (Or.inl n_a)
          have F2 := F2.other W23 (Or.inl n_a)
          have At := At.other W23 n_ta
          have Aw := Aw.other W23 n_aw
          have Z23 : n0 ≤ h23.size := by rw [W23.size]; exact Z19
          have N23 := Fr.snoc X23 N19 z_b
          have P23 := P19.wr W23 (Or.inl (List.mem_of_getElem? (i := 0) rfl))
          have Ad : Arv Z h23 b kd .double (4 : Int32) [(.double (FP.dadd d0 w0)), (.double (FP.dadd d1 w1)), (.double (FP.dadd d2 w3)), (.double (FP.dadd d3 w2))] (.double (0 : UInt64)) := Aq
          refine g_iinc C X23 (pc' := 31) d4_28 rfl (z := (4 : Int32)) (by decide) (l' := #[.val (.ref a), .val (.ref b), .val (.int (4 : Int32))]) rfl rfl ?_
          refine g_goto C X23 d4_31 (pc' := 2) (by decide) (by decide) ?_
          refine g_iloadN C X23 (pc' := 3) d4_2 rfl rfl ?_
          refine g_aloadN C X23 (pc' := 4) d4_3 rfl rfl rfl ?_
          refine g_getF C X23 (host := "") (Or.inl (hw _ (List.mem_of_getElem? (i := 16) rfl))) Via.refl e23 F1 d4_4 rfl ?_
          intro T24 X24 e24
          refine g_len C X24 (pc' := 8) e24 At d4_7 rfl ?_
          refine g_icmpY C X24 d4_8 (pc' := 34) (by decide) (by decide) (by decide) ?_
          have q0 := own_c0
          have q1 := own_c1
          have q2 := own_c2
          have q3 := own_c3
          have P0 : own_p 4 (0 : Int32) (1 : Int32) (3 : Int32) (2 : Int32) i0 i1 i2 i3 0 i0 := by unfold own_p; refine ⟨fun _ _ => ?_, fun _ _ => ?_, fun _ _ => ?_, fun _ _ => ?_, fun _ _ _ _ => ?_⟩ <;> omega
          have P1 : own_p 4 (0 : Int32) (1 : Int32) (3 : Int32) (2 : Int32) i0 i1 i2 i3 1 i1 := by unfold own_p; refine ⟨fun _ _ => ?_, fun _ _ => ?_, fun _ _ => ?_, fun _ _ => ?_, fun _ _ _ _ => ?_⟩ <;> omega
          have P2 : own_p 4 (0 : Int32) (1 : Int32) (3 : Int32) (2 : Int32) i0 i1 i2 i3 2 i3 := by unfold own_p; refine ⟨fun _ _ => ?_, fun _ _ => ?_, fun _ _ => ?_, fun _ _ => ?_, fun _ _ _ _ => ?_⟩ <;> omega
          have P3 : own_p 4 (0 : Int32) (1 : Int32) (3 : Int32) (2 : Int32) i0 i1 i2 i3 3 i2 := by unfold own_p; refine ⟨fun _ _ => ?_, fun _ _ => ?_, fun _ _ => ?_, fun _ _ => ?_, fun _ _ _ _ => ?_⟩ <;> omega
          exact g_return C X24 d4_34 ⟨rfl, N23, by rw [e24]; exact P23, FP.dadd d0 w0, FP.dadd d1 w1, FP.dadd d2 w3, FP.dadd d3 w2, i0, i1, i3, i2, D101, D102, D106, D105, P0, P1, P2, P3, by rw [e24]; exact Ad⟩ (by decide) (by decide)
        · exact absurd rfl hT.2.2.2.2.2.2.2.2.2
    · show Go p.tables e below _ T6 (mkF m 18 #[.val (.ref a), .val (.ref b), .val (.int (1 : Int32))] [(.int (2 : Int32)), (.ref b)])
      refine g_dup2 C X6 (pc' := 19) d4_18 rfl rfl rfl ?_
      refine g_daload C X6 (pc' := 20) e6 Ad (by decide) (by decide) 2 (by decide) rfl d4_19 rfl ?_
      refine g_aloadN C X6 (pc' := 21) d4_20 rfl rfl rfl ?_
      refine g_getF C X6 (host := "") (Or.inl (hw _ (List.mem_of_getElem? (i := 18) rfl))) Via.refl e6 F2 d4_21 rfl ?_
      intro T25 X25 e25
      refine g_iloadN C X25 (pc' := 25) d4_24 rfl rfl ?_
      refine g_daload C X25 (pc' := 26) e25 Aw (by decide) (by decide) 1 (by decide) rfl d4_25 rfl ?_
      have D107 : FP.Core.DInt (k2 + i1) (FP.dadd d2 w1) := dadd_D D2 W1 (by show _ ≤ 9007199254740992; omega)
      refine g_dadd C X25 (pc' := 27) d4_26 (nn_of_int D107) rfl ?_
      refine g_dastore C X25 (pc' := 28) e25 Ad (by decide) (by decide) 2 0 (by decide) (of_decide_eq_true rfl) d4_27 rfl ?_
      intro T26 h26 X26 e26 W26 Aq
      have F1 := F1.other W26 (Or.inl n_a)
      have F2 := F2.other W26 (Or.inl n_a)
      have At := At.other W26 n_ta
      have Aw := Aw.other W26 n_aw
      have Z26 : n0 ≤ h26.size := by rw [W26.size]; exact Z4
      have N26 := Fr.snoc X26 N4 z_b
      have P26 := P4.wr W26 (Or.inl (List.mem_of_getElem? (i := 0) rfl))
      have Ad : Arv Z h26 b kd .double (4 : Int32) [(.double (FP.dadd d0 w0)), (.double d1), (.double (FP.dadd d2 w1)), (.double d3)] (.double (0 : UInt64)) := Aq
      refine g_iinc C X26 (pc' := 31) d4_28 rfl (z := (2 : Int32)) (by decide) (l' := #[.val (.ref a), .val (.ref b), .val (.int (2 : Int32))]) rfl rfl ?_
      refine g_goto C X26 d4_31 (pc' := 2) (by decide) (by decide) ?_
      refine g_iloadN C X26 (pc' := 3) d4_2 rfl rfl ?_
      refine g_aloadN C X26 (pc' := 4) d4_3 rfl rfl rfl ?_
      refine g_getF C X26 (host := "") (Or.inl (hw _ (List.mem_of_getElem? (i := 16) rfl))) Via.refl e26 F1 d4_4 rfl ?_
      intro T27 X27 e27
      refine g_len C X27 (pc' := 8) e27 At d4_7 rfl ?_
      refine g_icmpN C X27 d4_8 (by decide) rfl ?_
      refine g_aloadN C X27 (pc' := 12) d4_11 rfl rfl rfl ?_
      refine g_aloadN C X27 (pc' := 13) d4_12 rfl rfl rfl ?_
      refine g_getF C X27 (host := "") (Or.inl (hw _ (List.mem_of_getElem? (i := 16) rfl))) Via.refl e27 F1 d4_13 rfl ?_
      intro T28 X28 e28
      refine g_iloadN C X28 (pc' := 17) d4_16 rfl rfl ?_
      refine g_iaload C X28 (pc' := 18) e28 At (by decide) (by decide) 2 (by decide) rfl d4_17 rfl ?_
      rcases own_one hT.2.2.1 with rfl | rfl | rfl | rfl
      · exact absurd rfl hT.2.2.2.2.2.1
      · show Go p.tables e below _ T28 (mkF m 18 #[.val (.ref a), .val (.ref b), .val (.int (2 : Int32))] [(.int (1 : Int32)), (.ref b)])
        refine g_dup2 C X28 (pc' := 19) d4_18 rfl rfl rfl ?_
        refine g_daload C X28 (pc' := 20) e28 Ad (by decide) (by decide) 1 (by decide) rfl d4_19 rfl ?_
        refine g_aloadN C X28 (pc' := 21) d4_20 rfl rfl rfl ?_
        refine g_getF C X28 (host := "") (Or.inl (hw _ (List.mem_of_getElem? (i := 18) rfl))) Via.refl e28 F2 d4_21 rfl ?_
        intro T29 X29 e29
        refine g_iloadN C X29 (pc' := 25) d4_24 rfl rfl ?_
        refine g_daload C X29 (pc' := 26) e29 Aw (by decide) (by decide) 2 (by decide) rfl d4_25 rfl ?_
        have D108 : FP.Core.DInt (k1 + i2) (FP.dadd d1 w2) := dadd_D D1 W2 (by show _ ≤ 9007199254740992; omega)
        refine g_dadd C X29 (pc' := 27) d4_26 (nn_of_int D108) rfl ?_
        refine g_dastore C X29 (pc' := 28) e29 Ad (by decide) (by decide) 1 0 (by decide) (of_decide_eq_true rfl) d4_27 rfl ?_
        intro T30 h30 X30 e30 W30 Aq
        have F1 := F1.other W30 (Or.inl n_a)
        have F2 := F2.other W30 (Or.inl n_a)
        have At := At.other W30 n_ta
        have Aw := Aw.other W30 n_aw
        have Z30 : n0 ≤ h30.size := by rw [W30.size]; exact Z26
        have N30 := Fr.snoc X30 N26 z_b
        have P30 := P26.wr W30 (Or.inl (List.mem_of_getElem? (i := 0) rfl))
        have Ad : Arv Z h30 b kd .double (4 : Int32) [(.double (FP.dadd d0 w0)), (.double (FP.dadd d1 w2)), (.double (FP.dadd d2 w1)), (.double d3)] (.double (0 : UInt64)) := Aq
        refine g_iinc C X30 (pc' := 31) d4_28 rfl (z := (3 : Int32)) (by decide) (l' := #[.val (.ref a), .val (.ref b), .val (.int (3 : Int32))]) rfl rfl ?_
        refine g_goto C X30 d4_31 (pc' := 2) (by decide) (by decide) ?_
        refine g_iloadN C X30 (pc' := 3) d4_2 rfl rfl ?_
        refine g_aloadN C X30 (pc' := 4) d4_3 rfl rfl rfl ?_
        refine g_getF C X30 (host := "") (Or.inl (hw _ (List.mem_of_getElem? (i := 16) rfl))) Via.refl e30 F1 d4_4 rfl ?_
        intro T31 X31 e31
        refine g_len C X31 (pc' := 8) e31 At d4_7 rfl ?_
        refine g_icmpN C X31 d4_8 (by decide) rfl ?_
        refine g_aloadN C X31 (pc' := 12) d4_11 rfl rfl rfl ?_
        refine g_aloadN C X31 (pc' := 13) d4_12 rfl rfl rfl ?_
        refine g_getF C X31 (host := "") (Or.inl (hw _ (List.mem_of_getElem? (i := 16) rfl))) Via.refl e31 F1 d4_13 rfl ?_
        intro T32 X32 e32
        refine g_iloadN C X32 (pc' := 17) d4_16 rfl rfl ?_
        refine g_iaload C X32 (pc' := 18) e32 At (by decide) (by decide) 3 (by decide) rfl d4_17 rfl ?_
        rcases own_one hT.2.2.2.1 with rfl | rfl | rfl | rfl
        · exact absurd rfl hT.2.2.2.2.2.2.1
        · exact absurd rfl hT.2.2.2.2.2.2.2.2.2
        · exact absurd rfl hT.2.2.2.2.2.2.2.2.1
        · show Go p.tables e below _ T32 (mkF m 18 #[.val (.ref a), .val (.ref b), .val (.int (3 : Int32))] [(.int (3 : Int32)), (.ref b)])
          refine g_dup2 C X32 (pc' := 19) d4_18 rfl rfl rfl ?_
          refine g_daload C X32 (pc' := 20) e32 Ad (by decide) (by decide) 3 (by decide) rfl d4_19 rfl ?_
          refine g_aloadN C X32 (pc' := 21) d4_20 rfl rfl rfl ?_
          refine g_getF C X32 (host := "") (Or.inl (hw _ (List.mem_of_getElem? (i := 18) rfl))) Via.refl e32 F2 d4_21 rfl ?_
          intro T33 X33 e33
          refine g_iloadN C X33 (pc' := 25) d4_24 rfl rfl ?_
          refine g_daload C X33 (pc' := 26) e33 Aw (by decide) (by decide) 3 (by decide) rfl d4_25 rfl ?_
          have D109 : FP.Core.DInt (k3 + i3) (FP.dadd d3 w3) := dadd_D D3 W3 (by show _ ≤ 9007199254740992; omega)
          refine g_dadd C X33 (pc' := 27) d4_26 (nn_of_int D109) rfl ?_
          refine g_dastore C X33 (pc' := 28) e33 Ad (by decide) (by decide) 3 0 (by decide) (of_decide_eq_true rfl) d4_27 rfl ?_
          intro T34 h34 X34 e34 W34 Aq
          have F1 := F1.other W34 (Or.inl n_a)
          have F2 := F2.other W34 (Or.inl n_a)
          have At := At.other W34 n_ta
          have Aw := Aw.other W34 n_aw
          have Z34 : n0 ≤ h34.size := by rw [W34.size]; exact Z30
          have N34 := Fr.snoc X34 N30 z_b
          have P34 := P30.wr W34 (Or.inl (List.mem_of_getElem? (i := 0) rfl))
          have Ad : Arv Z h34 b kd .double (4 : Int32) [(.double (FP.dadd d0 w0)), (.double (FP.dadd d1 w2)), (.double (FP.dadd d2 w1)), (.double (FP.dadd d3 w3))] (.double (0 : UInt64)) := Aq
          refine g_iinc C X34 (pc' := 31) d4_28 rfl (z := (4 : Int32)) (by decide) (l' := #[.val (.ref a), .val (.ref b), .val (.int (4 : Int32))]) rfl rfl ?_
          refine g_goto C X34 d4_31 (pc' := 2) (by decide) (by decide) ?_
          refine g_iloadN C X34 (pc' := 3) d4_2 rfl rfl ?_
          refine g_aloadN C X34 (pc' := 4) d4_3 rfl rfl rfl ?_
          refine g_getF C X34 (host := "") (Or.inl (hw _ (List.mem_of_getElem? (i := 16) rfl))) Via.refl e34 F1 d4_4 rfl ?_
          intro T35 X35 e35
          refine g_len C X35 (pc' := 8) e35 At d4_7 rfl ?_
          refine g_icmpY C X35 d4_8 (pc' := 34) (by decide) (by decide) (by decide) ?_
          have q0 := own_c0
          have q1 := own_c1
          have q2 := own_c2
          have q3 := own_c3
          have P0 : own_p 4 (0 : Int32) (2 : Int32) (1 : Int32) (3 : Int32) i0 i1 i2 i3 0 i0 := by unfold own_p; refine ⟨fun _ _ => ?_, fun _ _ => ?_, fun _ _ => ?_, fun _ _ => ?_, fun _ _ _ _ => ?_⟩ <;> omega
          have P1 : own_p 4 (0 : Int32) (2 : Int32) (1 : Int32) (3 : Int32) i0 i1 i2 i3 1 i2 := by unfold own_p; refine ⟨fun _ _ => ?_, fun _ _ => ?_, fun _ _ => ?_, fun _ _ => ?_, fun _ _ _ _ => ?_⟩ <;> omega
          have P2 : own_p 4 (0 : Int32) (2 : Int32) (1 : Int32) (3 : Int32) i0 i1 i2 i3 2 i1 := by unfold own_p; refine ⟨fun _ _ => ?_, fun _ _ => ?_, fun _ _ => ?_, fun _ _ => ?_, fun _ _ _ _ => ?_⟩ <;> omega
          have P3 : own_p 4 (0 : Int32) (2 : Int32) (1 : Int32) (3 : Int32) i0 i1 i2 i3 3 i3 := by unfold own_p; refine ⟨fun _ _ => ?_, fun _ _ => ?_, fun _ _ => ?_, fun _ _ => ?_, fun _ _ _ _ => ?_⟩ <;> omega
          exact g_return C X35 d4_34 ⟨rfl, N34, by rw [e35]; exact P34, FP.dadd d0 w0, FP.dadd d1 w2, FP.dadd d2 w1, FP.dadd d3 w3, i0, i2, i1, i3, D101, D108, D107, D109, P0, P1, P2, P3, by rw [e35]; exact Ad⟩ (by decide) (by decide)
      · exact absurd rfl hT.2.2.2.2.2.2.2.1
      · show Go p.tables e below _ T28 (mkF m 18 #[.val (.ref a), .val (.ref b), .val (.int (2 : Int32))] [(.int (3 : Int32)), (.ref b)])
        refine g_dup2 C X28 (pc' := 19) d4_18 rfl rfl rfl ?_
        refine g_daload C X28 (pc' := 20) e28 Ad (by decide) (by decide) 3 (by decide) rfl d4_19 rfl ?_
        refine g_aloadN C X28 (pc' := 21) d4_20 rfl rfl rfl ?_
        refine g_getF C X28 (host := "") (Or.inl (hw _ (List.mem_of_getElem? (i := 18) rfl))) Via.refl e28 F2 d4_21 rfl ?_
        intro T36 X36 e36
        refine g_iloadN C X36 (pc' := 25) d4_24 rfl rfl ?_
        refine g_daload C X36 (pc' := 26) e36 Aw (by decide) (by decide) 2 (by decide) rfl d4_25 rfl ?_
        have D110 : FP.Core.DInt (k3 + i2) (FP.dadd d3 w2) := dadd_D D3 W2 (by show _ ≤ 9007199254740992; omega)
        refine g_dadd C X36 (pc' := 27) d4_26 (nn_of_int D110) rfl ?_
        refine g_dastore C X36 (pc' := 28) e36 Ad (by decide) (by decide) 3 0 (by decide) (of_decide_eq_true rfl) d4_27 rfl ?_
        intro T37 h37 X37 e37 W37 Aq
        have F1 := F1.other W37 (Or.inl n_a)
        have F2 := F2.other W37 (Or.inl n_a)
        have At := At.other W37 n_ta
        have Aw := Aw.other W37 n_aw
        have Z37 : n0 ≤ h37.size := by rw [W37.size]; exact Z26
        have N37 := Fr.snoc X37 N26 z_b
        have P37 := P26.wr W37 (Or.inl (List.mem_of_getElem? (i := 0) rfl))
        have Ad : Arv Z h37 b kd .double (4 : Int32) [(.double (FP.dadd d0 w0)), (.double d1), (.double (FP.dadd d2 w1)), (.double (FP.dadd d3 w2))] (.double (0 : UInt64)) := Aq
        refine g_iinc C X37 (pc' := 31) d4_28 rfl (z := (3 : Int32)) (by decide) (l' := #[.val (.ref a), .val (.ref b), .val (.int (3 : Int32))]) rfl rfl ?_
        refine g_goto C X37 d4_31 (pc' := 2) (by decide) (by decide) ?_
        refine g_iloadN C X37 (pc' := 3) d4_2 rfl rfl ?_
        refine g_aloadN C X37 (pc' := 4) d4_3 rfl rfl rfl ?_
        refine g_getF C X37 (host := "") (Or.inl (hw _ (List.mem_of_getElem? (i := 16) rfl))) Via.refl e37 F1 d4_4 rfl ?_
        intro T38 X38 e38
        refine g_len C X38 (pc' := 8) e38 At d4_7 rfl ?_
        refine g_icmpN C X38 d4_8 (by decide) rfl ?_
        refine g_aloadN C X38 (pc' := 12) d4_11 rfl rfl rfl ?_
        refine g_aloadN C X38 (pc' := 13) d4_12 rfl rfl rfl ?_
        refine g_getF C X38 (host := "") (Or.inl (hw _ (List.mem_of_getElem? (i := 16) rfl))) Via.refl e38 F1 d4_13 rfl ?_
        intro T39 X39 e39
        refine g_iloadN C X39 (pc' := 17) d4_16 rfl rfl ?_
        refine g_iaload C X39 (pc' := 18) e39 At (by decide) (by decide) 3 (by decide) rfl d4_17 rfl ?_
        rcases own_one hT.2.2.2.1 with rfl | rfl | rfl | rfl
        · exact absurd rfl hT.2.2.2.2.2.2.1
        · show Go p.tables e below _ T39 (mkF m 18 #[.val (.ref a), .val (.ref b), .val (.int (3 : Int32))] [(.int (1 : Int32)), (.ref b)])
          refine g_dup2 C X39 (pc' := 19) d4_18 rfl rfl rfl ?_
          refine g_daload C X39 (pc' := 20) e39 Ad (by decide) (by decide) 1 (by decide) rfl d4_19 rfl ?_
          refine g_aloadN C X39 (pc' := 21) d4_20 rfl rfl rfl ?_
          refine g_getF C X39 (host := "") (Or.inl (hw _ (List.mem_of_getElem? (i := 18) rfl))) Via.refl e39 F2 d4_21 rfl ?_
          intro T40 X40 e40
          refine g_iloadN C X40 (pc' := 25) d4_24 rfl rfl ?_
          refine g_daload C X40 (pc' := 26) e40 Aw (by decide) (by decide) 3 (by decide) rfl d4_25 rfl ?_
          have D111 : FP.Core.DInt (k1 + i3) (FP.dadd d1 w3) := dadd_D D1 W3 (by show _ ≤ 9007199254740992; omega)
          refine g_dadd C X40 (pc' := 27) d4_26 (nn_of_int D111) rfl ?_
          refine g_dastore C X40 (pc' := 28) e40 Ad (by decide) (by decide) 1 0 (by decide) (of_decide_eq_true rfl) d4_27 rfl ?_
          intro T41 h41 X41 e41 W41 Aq
          have F1 := F1.other W41 (Or.inl n_a)
          have F2 := F2.other W41 (Or.inl n_a)
          have At := At.other W41 n_ta
          have Aw := Aw.other W41 n_aw
          have Z41 : n0 ≤ h41.size := by rw [W41.size]; exact Z37
          have N41 := Fr.snoc X41 N37 z_b
          have P41 := P37.wr W41 (Or.inl (List.mem_of_getElem? (i := 0) rfl))
          have Ad : Arv Z h41 b kd .double (4 : Int32) [(.double (FP.dadd d0 w0)), (.double (FP.dadd d1 w3)), (.double (FP.dadd d2 w1)), (.double (FP.dadd d3 w2))] (.double (0 : UInt64)) := Aq
          refine g_iinc C X41 (pc' := 31) d4_28 rfl (z := (4 : Int32)) (by decide) (l' := #[.val (.ref a), .val (.ref b), .val (.int (4 : Int32))]) rfl rfl ?_
          refine g_goto C X41 d4_31 (pc' := 2) (by decide) (by decide) ?_
          refine g_iloadN C X41 (pc' := 3) d4_2 rfl rfl ?_
          refine g_aloadN C X41 (pc' := 4) d4_3 rfl rfl rfl ?_
          refine g_getF C X41 (host := "") (Or.inl (hw _ (List.mem_of_getElem? (i := 16) rfl))) Via.refl e41 F1 d4_4 rfl ?_
          intro T42 X42 e42
          refine g_len C X42 (pc' := 8) e42 At d4_7 rfl ?_
          refine g_icmpY C X42 d4_8 (pc' := 34) (by decide) (by decide) (by decide) ?_
          have q0 := own_c0
          have q1 := own_c1
          have q2 := own_c2
          have q3 := own_c3
          have P0 : own_p 4 (0 : Int32) (2 : Int32) (3 : Int32) (1 : Int32) i0 i1 i2 i3 0 i0 := by unfold own_p; refine ⟨fun _ _ => ?_, fun _ _ => ?_, fun _ _ => ?_, fun _ _ => ?_, fun _ _ _ _ => ?_⟩ <;> omega
          have P1 : own_p 4 (0 : Int32) (2 : Int32) (3 : Int32) (1 : Int32) i0 i1 i2 i3 1 i3 := by unfold own_p; refine ⟨fun _ _ => ?_, fun _ _ => ?_, fun _ _ => ?_, fun _ _ => ?_, fun _ _ _ _ => ?_⟩ <;> omega
          have P2 : own_p 4 (0 : Int32) (2 : Int32) (3 : Int32) (1 : Int32) i0 i1 i2 i3 2 i1 := by unfold own_p; refine ⟨fun _ _ => ?_, fun _ _ => ?_, fun _ _ => ?_, fun _ _ => ?_, fun _ _ _ _ => ?_⟩ <;> omega
          have P3 : own_p 4 (0 : Int32) (2 : Int32) (3 : Int32) (1 : Int32) i0 i1 i2 i3 3 i2 := by unfold own_p; refine ⟨fun _ _ => ?_, fun _ _ => ?_, fun _ _ => ?_, fun _ _ => ?_, fun _ _ _ _ => ?_⟩ <;> omega
          exact g_return C X42 d4_34 ⟨rfl, N41, by rw [e42]; exact P41, FP.dadd d0 w0, FP.dadd d1 w3, FP.dadd d2 w1, FP.dadd d3 w2, i0, i3, i1, i2, D101, D111, D107, D110, P0, P1, P2, P3, by rw [e42]; exact Ad⟩ (by decide) (by decide)
        · exact absurd rfl hT.2.2.2.2.2.2.2.2.1
        · exact absurd rfl hT.2.2.2.2.2.2.2.2.2
    · show Go p.tables e below _ T6 (mkF m 18 #[.val (.ref a), .val (.ref b), .val (.int (1 : Int32))] [(.int (3 : Int32)), (.ref b)])
      refine g_dup2 C X6 (pc' := 19) d4_18 rfl rfl rfl ?_
      refine g_daload C X6 (pc' := 20) e6 Ad (by decide) (by decide) 3 (by decide) rfl d4_19 rfl ?_
      refine g_aloadN C X6 (pc' := 21) d4_20 rfl rfl rfl ?_
      refine g_getF C X6 (host := "") (Or.inl (hw _ (List.mem_of_getElem? (i := 18) rfl))) Via.refl e6 F2 d4_21 rfl ?_
      intro T43 X43 e43
      refine g_iloadN C X43 (pc' := 25) d4_24 rfl rfl ?_
      refine g_daload C X43 (pc' := 26) e43 Aw (by decide) (by decide) 1 (by decide) rfl d4_25 rfl ?_
      have D112 : FP.Core.DInt (k3 + i1) (FP.dadd d3 w1) := dadd_D D3 W1 (by show _ ≤ 9007199254740992; omega)
      refine g_dadd C X43 (pc' := 27) d4_26 (nn_of_int D112) rfl ?_
      refine g_dastore C X43 (pc' := 28) e43 Ad (by decide) (by decide) 3 0 (by decide) (of_decide_eq_true rfl) d4_27 rfl ?_
      intro T44 h44 X44 e44 W44 Aq
      have F1 := F1.other W44 (Or.inl n_a)
      have F2 := F2.other W44 (Or.inl n_a)
      have At := At.other W44 n_ta
      have Aw := Aw.other W44 n_aw
      have Z44 : n0 ≤ h44.size := by rw [W44.size]; exact Z4
      have N44 := Fr.snoc X44 N4 z_b
      have P44 := P4.wr W44 (Or.inl (List.mem_of_getElem? (i := 0) rfl))
      have Ad : Arv Z h44 b kd .double (4 : Int32) [(.double (FP.dadd d0 w0)), (.double d1), (.double d2), (.double (FP.dadd d3 w1))] (.double (0 : UInt64)) := Aq
      refine g_iinc C X44 (pc' := 31) d4_28 rfl (z := (2 : Int32)) (by decide) (l' := #[.val (.ref a), .val (.ref b), .val (.int (2 : Int32))]) rfl rfl ?_
      refine g_goto C X44 d4_31 (pc' := 2) (by decide) (by decide) ?_
      refine g_iloadN C X44 (pc' := 3) d4_2 rfl rfl ?_
      refine g_aloadN C X44 (pc' := 4) d4_3 rfl rfl rfl ?_
      refine g_getF C X44 (host := "") (Or.inl (hw _ (List.mem_of_getElem? (i := 16) rfl))) Via.refl e44 F1 d4_4 rfl ?_
      intro T45 X45 e45
      refine g_len C X45 (pc' := 8) e45 At d4_7 rfl ?_
      refine g_icmpN C X45 d4_8 (by decide) rfl ?_
      refine g_aloadN C X45 (pc' := 12) d4_11 rfl rfl rfl ?_
      refine g_aloadN C X45 (pc' := 13) d4_12 rfl rfl rfl ?_
      refine g_getF C X45 (host := "") (Or.inl (hw _ (List.mem_of_getElem? (i := 16) rfl))) Via.refl e45 F1 d4_13 rfl ?_
      intro T46 X46 e46
      refine g_iloadN C X46 (pc' := 17) d4_16 rfl rfl ?_
      refine g_iaload C X46 (pc' := 18) e46 At (by decide) (by decide) 2 (by decide) rfl d4_17 rfl ?_
      rcases own_one hT.2.2.1 with rfl | rfl | rfl | rfl
      · exact absurd rfl hT.2.2.2.2.2.1
      · show Go p.tables e below _ T46 (mkF m 18 #[.val (.ref a), .val (.ref b), .val (.int (2 : Int32))] [(.int (1 : Int32)), (.ref b)])
        refine g_dup2 C X46 (pc' := 19) d4_18 rfl rfl rfl ?_
        refine g_daload C X46 (pc' := 20) e46 Ad (by decide) (by decide) 1 (by decide) rfl d4_19 rfl ?_
        refine g_aloadN C X46 (pc' := 21) d4_20 rfl rfl rfl ?_
        refine g_getF C X46 (host := "") (Or.inl (hw _ (List.mem_of_getElem? (i := 18) rfl))) Via.refl e46 F2 d4_21 rfl ?_
        intro T47 X47 e47
        refine g_iloadN C X47 (pc' := 25) d4_24 rfl rfl ?_
        refine g_daload C X47 (pc' := 26) e47 Aw (by decide) (by decide) 2 (by decide) rfl d4_25 rfl ?_
        have D113 : FP.Core.DInt (k1 + i2) (FP.dadd d1 w2) := dadd_D D1 W2 (by show _ ≤ 9007199254740992; omega)
        refine g_dadd C X47 (pc' := 27) d4_26 (nn_of_int D113) rfl ?_
        refine g_dastore C X47 (pc' := 28) e47 Ad (by decide) (by decide) 1 0 (by decide) (of_decide_eq_true rfl) d4_27 rfl ?_
        intro T48 h48 X48 e48 W48 Aq
        have F1 := F1.other W48 (Or.inl n_a)
        have F2 := F2.other W48 (Or.inl n_a)
        have At := At.other W48 n_ta
        have Aw := Aw.other W48 n_aw
        have Z48 : n0 ≤ h48.size := by rw [W48.size]; exact Z44
        have N48 := Fr.snoc X48 N44 z_b
        have P48 := P44.wr W48 (Or.inl (List.mem_of_getElem? (i := 0) rfl))
        have Ad : Arv Z h48 b kd .double (4 : Int32) [(.double (FP.dadd d0 w0)), (.double (FP.dadd d1 w2)), (.double d2), (.double (FP.dadd d3 w1))] (.double (0 : UInt64)) := Aq
        refine g_iinc C X48 (pc' := 31) d4_28 rfl (z := (3 : Int32)) (by decide) (l' := #[.val (.ref a), .val (.ref b), .val (.int (3 : Int32))]) rfl rfl ?_
        refine g_goto C X48 d4_31 (pc' := 2) (by decide) (by decide) ?_
        refine g_iloadN C X48 (pc' := 3) d4_2 rfl rfl ?_
        refine g_aloadN C X48 (pc' := 4) d4_3 rfl rfl rfl ?_
        refine g_getF C X48 (host := "") (Or.inl (hw _ (List.mem_of_getElem? (i := 16) rfl))) Via.refl e48 F1 d4_4 rfl ?_
        intro T49 X49 e49
        refine g_len C X49 (pc' := 8) e49 At d4_7 rfl ?_
        refine g_icmpN C X49 d4_8 (by decide) rfl ?_
        refine g_aloadN C X49 (pc' := 12) d4_11 rfl rfl rfl ?_
        refine g_aloadN C X49 (pc' := 13) d4_12 rfl rfl rfl ?_
        refine g_getF C X49 (host := "") (Or.inl (hw _ (List.mem_of_getElem? (i := 16) rfl))) Via.refl e49 F1 d4_13 rfl ?_
        intro T50 X50 e50
        refine g_iloadN C X50 (pc' := 17) d4_16 rfl rfl ?_
        refine g_iaload C X50 (pc' := 18) e50 At (by decide) (by decide) 3 (by decide) rfl d4_17 rfl ?_
        rcases own_one hT.2.2.2.1 with rfl | rfl | rfl | rfl
        · exact absurd rfl hT.2.2.2.2.2.2.1
        · exact absurd rfl hT.2.2.2.2.2.2.2.2.2
        · show Go p.tables e below _ T50 (mkF m 18 #[.val (.ref a), .val (.ref b), .val (.int (3 : Int32))] [(.int (2 : Int32)), (.ref b)])
          refine g_dup2 C X50 (pc' := 19) d4_18 rfl rfl rfl ?_
          refine g_daload C X50 (pc' := 20) e50 Ad (by decide) (by decide) 2 (by decide) rfl d4_19 rfl ?_
          refine g_aloadN C X50 (pc' := 21) d4_20 rfl rfl rfl ?_
          refine g_getF C X50 (host := "") (Or.inl (hw _ (List.mem_of_getElem? (i := 18) rfl))) Via.refl e50 F2 d4_21 rfl ?_
          intro T51 X51 e51
          refine g_iloadN C X51 (pc' := 25) d4_24 rfl rfl ?_
          refine g_daload C X51 (pc' := 26) e51 Aw (by decide) (by decide) 3 (by decide) rfl d4_25 rfl ?_
          have D114 : FP.Core.DInt (k2 + i3) (FP.dadd d2 w3) := dadd_D D2 W3 (by show _ ≤ 9007199254740992; omega)
          refine g_dadd C X51 (pc' := 27) d4_26 (nn_of_int D114) rfl ?_
          refine g_dastore C X51 (pc' := 28) e51 Ad (by decide) (by decide) 2 0 (by decide) (of_decide_eq_true rfl) d4_27 rfl ?_
          intro T52 h52 X52 e52 W52 Aq
          have F1 := F1.other W52 (Or.inl n_a)
          have F2 := F2.other W52 (Or.inl n_a)
          have At := At.other W52 n_ta
          have Aw := Aw.other W52 n_aw
          have Z52 : n0 ≤ h52.size := by rw [W52.size]; exact Z48
          have N52 := Fr.snoc X52 N48 z_b
          have P52 := P48.wr W52 (Or.inl (List.mem_of_getElem? (i := 0) rfl))
          have Ad : Arv Z h52 b kd .double (4 : Int32) [(.double (FP.dadd d0 w0)), (.double (FP.dadd d1 w2)), (.double (FP.dadd d2 w3)), (.double (FP.dadd d3 w1))] (.double (0 : UInt64)) := Aq
          refine g_iinc C X52 (pc' := 31) d4_28 rfl (z := (4 : Int32)) (by decide) (l' := #[.val (.ref a), .val (.ref b), .val (.int (4 : Int32))]) rfl rfl ?_
          refine g_goto C X52 d4_31 (pc' := 2) (by decide) (by decide) ?_
          refine g_iloadN C X52 (pc' := 3) d4_2 rfl rfl ?_
          refine g_aloadN C X52 (pc' := 4) d4_3 rfl rfl rfl ?_
          refine g_getF C X52 (host := "") (Or.inl (hw _ (List.mem_of_getElem? (i := 16) rfl))) Via.refl e52 F1 d4_4 rfl ?_
          intro T53 X53 e53
          refine g_len C X53 (pc' := 8) e53 At d4_7 rfl ?_
          refine g_icmpY C X53 d4_8 (pc' := 34) (by decide) (by decide) (by decide) ?_
          have q0 := own_c0
          have q1 := own_c1
          have q2 := own_c2
          have q3 := own_c3
          have P0 : own_p 4 (0 : Int32) (3 : Int32) (1 : Int32) (2 : Int32) i0 i1 i2 i3 0 i0 := by unfold own_p; refine ⟨fun _ _ => ?_, fun _ _ => ?_, fun _ _ => ?_, fun _ _ => ?_, fun _ _ _ _ => ?_⟩ <;> omega
          have P1 : own_p 4 (0 : Int32) (3 : Int32) (1 : Int32) (2 : Int32) i0 i1 i2 i3 1 i2 := by unfold own_p; refine ⟨fun _ _ => ?_, fun _ _ => ?_, fun _ _ => ?_, fun _ _ => ?_, fun _ _ _ _ => ?_⟩ <;> omega
          have P2 : own_p 4 (0 : Int32) (3 : Int32) (1 : Int32) (2 : Int32) i0 i1 i2 i3 2 i3 := by unfold own_p; refine ⟨fun _ _ => ?_, fun _ _ => ?_, fun _ _ => ?_, fun _ _ => ?_, fun _ _ _ _ => ?_⟩ <;> omega
          have P3 : own_p 4 (0 : Int32) (3 : Int32) (1 : Int32) (2 : Int32) i0 i1 i2 i3 3 i1 := by unfold own_p; refine ⟨fun _ _ => ?_, fun _ _ => ?_, fun _ _ => ?_, fun _ _ => ?_, fun _ _ _ _ => ?_⟩ <;> omega
          exact g_return C X53 d4_34 ⟨rfl, N52, by rw [e53]; exact P52, FP.dadd d0 w0, FP.dadd d1 w2, FP.dadd d2 w3, FP.dadd d3 w1, i0, i2, i3, i1, D101, D113, D114, D112, P0, P1, P2, P3, by rw [e53]; exact Ad⟩ (by decide) (by decide)
        · exact absurd rfl hT.2.2.2.2.2.2.2.2.1
      · show Go p.tables e below _ T46 (mkF m 18 #[.val (.ref a), .val (.ref b), .val (.int (2 : Int32))] [(.int (2 : Int32)), (.ref b)])
        refine g_dup2 C X46 (pc' := 19) d4_18 rfl rfl rfl ?_
        refine g_daload C X46 (pc' := 20) e46 Ad (by decide) (by decide) 2 (by decide) rfl d4_19 rfl ?_
        refine g_aloadN C X46 (pc' := 21) d4_20 rfl rfl rfl ?_
        refine g_getF C X46 (host := "") (Or.inl (hw _ (List.mem_of_getElem? (i := 18) rfl))) Via.refl e46 F2 d4_21 rfl ?_
        intro T54 X54 e54
        refine g_iloadN C X54 (pc' := 25) d4_24 rfl rfl ?_
        refine g_daload C X54 (pc' := 26) e54 Aw (by decide) (by decide) 2 (by decide) rfl d4_25 rfl ?_
        have D115 : FP.Core.DInt (k2 + i2) (FP.dadd d2 w2) := dadd_D D2 W2 (by show _ ≤ 9007199254740992; omega)
        refine g_dadd C X54 (pc' := 27) d4_26 (nn_of_int D115) rfl ?_
        refine g_dastore C X54 (pc' := 28) e54 Ad (by decide) (by decide) 2 0 (by decide) (of_decide_eq_true rfl) d4_27 rfl ?_
        intro T55 h55 X55 e55 W55 Aq
        have F1 := F1.other W55 (Or.inl n_a)
        have F2 := F2.other W55 (Or.inl n_a)
        have At := At.other W55 n_ta
        have Aw := Aw.other W55 n_aw
        have Z55 : n0 ≤ h55.size := by rw [W55.size]; exact Z44
        have N55 := Fr.snoc X55 N44 z_b
        have P55 := P44.wr W55 (Or.inl (List.mem_of_getElem? (i := 0) rfl))
        have Ad : Arv Z h55 b kd .double (4 : Int32) [(.double (FP.dadd d0 w0)), (.double d1), (.double (FP.dadd d2 w2)), (.double (FP.dadd d3 w1))] (.double (0 : UInt64)) := Aq
        refine g_iinc C X55 (pc' := 31) d4_28 rfl (z := (3 : Int32)) (by decide) (l' := #[.val (.ref a), .val (.ref b), .val (.int (3 : Int32))]) rfl rfl ?_
        refine g_goto C X55 d4_31 (pc' := 2) (by decide) (by decide) ?_
        refine g_iloadN C X55 (pc' := 3) d4_2 rfl rfl ?_
        refine g_aloadN C X55 (pc' := 4) d4_3 rfl rfl rfl ?_
        refine g_getF C X55 (host := "") (Or.inl (hw _ (List.mem_of_getElem? (i := 16) rfl))) Via.refl e55 F1 d4_4 rfl ?_
        intro T56 X56 e56
        refine g_len C X56 (pc' := 8) e56 At d4_7 rfl ?_
        refine g_icmpN C X56 d4_8 (by decide) rfl ?_
        refine g_aloadN C X56 (pc' := 12) d4_11 rfl rfl rfl ?_
        refine g_aloadN C X56 (pc' := 13) d4_12 rfl rfl rfl ?_
        refine g_getF C X56 (host := "") (Or.inl (hw _ (List.mem_of_getElem? (i := 16) rfl))) Via.refl e56 F1 d4_13 rfl ?_
        intro T57 X57 e57
        refine g_iloadN C X57 (pc' := 17) d4_16 rfl rfl ?_
        refine g_iaload C X57 (pc' := 18) e57 At (by decide) (by decide) 3 (by decide) rfl d4_17 rfl ?_
        rcases own_one hT.2.2.2.1 with rfl | rfl | rfl | rfl
        · exact absurd rfl hT.2.2.2.2.2.2.1
        · show Go p.tables e below _ T57 (mkF m 18 #[.val (.ref a), .val (.ref b), .val (.int (3 : Int32))] [(.int (1 : Int32)), (.ref b)])
          refine g_dup2 C X57 (pc' := 19) d4_18 rfl rfl rfl ?_
          refine g_daload C X57 (pc' := 20) e57 Ad (by decide) (by decide) 1 (by decide) rfl d4_19 rfl ?_
          refine g_aloadN C X57 (pc' := 21) d4_20 rfl rfl rfl ?_
          refine g_getF C X57 (host := "") (Or.inl (hw _ (List.mem_of_getElem? (i := 18) rfl))) Via.refl e57 F2 d4_21 rfl ?_
          intro T58 X58 e58
          refine g_iloadN C X58 (pc' := 25) d4_24 rfl rfl ?_
          refine g_daload C X58 (pc' := 26) e58 Aw (by decide) (by decide) 3 (by decide) rfl d4_25 rfl ?_
          have D116 : FP.Core.DInt (k1 + i3) (FP.dadd d1 w3) := dadd_D D1 W3 (by show _ ≤ 9007199254740992; omega)
          refine g_dadd C X58 (pc' := 27) d4_26 (nn_of_int D116) rfl ?_
          refine g_dastore C X58 (pc' := 28) e58 Ad (by decide) (by decide) 1 0 (by decide) (of_decide_eq_true rfl) d4_27 rfl ?_
          intro T59 h59 X59 e59 W59 Aq
          have F1 := F1.other W59 (Or.inl n_a)
          have F2 := F2.other W59 (Or.inl n_a)
          have At := At.other W59 n_ta
          have Aw := Aw.other W59 n_aw
          have Z59 : n0 ≤ h59.size := by rw [W59.size]; exact Z55
          have N59 := Fr.snoc X59 N55 z_b
          have P59 := P55.wr W59 (Or.inl (List.mem_of_getElem? (i := 0) rfl))
          have Ad : Arv Z h59 b kd .double (4 : Int32) [(.double (FP.dadd d0 w0)), (.double (FP.dadd d1 w3)), (.double (FP.dadd d2 w2)), (.double (FP.dadd d3 w1))] (.double (0 : UInt64)) := Aq
          refine g_iinc C X59 (pc' := 31) d4_28 rfl (z := (4 : Int32)) (by decide) (l' := #[.val (.ref a), .val (.ref b), .val (.int (4 : Int32))]) rfl rfl ?_
          refine g_goto C X59 d4_31 (pc' := 2) (by decide) (by decide) ?_
          refine g_iloadN C X59 (pc' := 3) d4_2 rfl rfl ?_
          refine g_aloadN C X59 (pc' := 4) d4_3 rfl rfl rfl ?_
          refine g_getF C X59 (host := "") (Or.inl (hw _ (List.mem_of_getElem? (i := 16) rfl))) Via.refl e59 F1 d4_4 rfl ?_
          intro T60 X60 e60
          refine g_len C X60 (pc' := 8) e60 At d4_7 rfl ?_
          refine g_icmpY C X60 d4_8 (pc' := 34) (by decide) (by decide) (by decide) ?_
          have q0 := own_c0
          have q1 := own_c1
          have q2 := own_c2
          have q3 := own_c3
          have P0 : own_p 4 (0 : Int32) (3 : Int32) (2 : Int32) (1 : Int32) i0 i1 i2 i3 0 i0 := by unfold own_p; refine ⟨fun _ _ => ?_, fun _ _ => ?_, fun _ _ => ?_, fun _ _ => ?_, fun _ _ _ _ => ?_⟩ <;> omega
          have P1 : own_p 4 (0 : Int32) (3 : Int32) (2 : Int32) (1 : Int32) i0 i1 i2 i3 1 i3 := by unfold own_p; refine ⟨fun _ _ => ?_, fun _ _ => ?_, fun _ _ => ?_, fun _ _ => ?_, fun _ _ _ _ => ?_⟩ <;> omega
          have P2 : own_p 4 (0 : Int32) (3 : Int32) (2 : Int32) (1 : Int32) i0 i1 i2 i3 2 i2 := by unfold own_p; refine ⟨fun _ _ => ?_, fun _ _ => ?_, fun _ _ => ?_, fun _ _ => ?_, fun _ _ _ _ => ?_⟩ <;> omega
          have P3 : own_p 4 (0 : Int32) (3 : Int32) (2 : Int32) (1 : Int32) i0 i1 i2 i3 3 i1 := by unfold own_p; refine ⟨fun _ _ => ?_, fun _ _ => ?_, fun _ _ => ?_, fun _ _ => ?_, fun _ _ _ _ => ?_⟩ <;> omega
          exact g_return C X60 d4_34 ⟨rfl, N59, by rw [e60]; exact P59, FP.dadd d0 w0, FP.dadd d1 w3, FP.dadd d2 w2, FP.dadd d3 w1, i0, i3, i2, i1, D101, D116, D115, D112, P0, P1, P2, P3, by rw [e60]; exact Ad⟩ (by decide) (by decide)
        · exact absurd rfl hT.2.2.2.2.2.2.2.2.2
        · exact absurd rfl hT.2.2.2.2.2.2.2.2.1
      · exact absurd rfl hT.2.2.2.2.2.2.2.1
  · show Go p.tables e below _ T2 (mkF m 18 #[.val (.ref a), .val (.ref b), .val (.int (0 : Int32))] [(.int (1 : Int32)), (.ref b)])
    refine g_dup2 C X2 (pc' := 19) d4_18 rfl rfl rfl ?_
    refine g_daload C X2 (pc' := 20) e2 Ad (by decide) (by decide) 1 (by decide) rfl d4_19 rfl ?_
    refine g_aloadN C X2 (pc' := 21) d4_20 rfl rfl rfl ?_
    refine g_getF C X2 (host := "") (Or.inl (hw _ (List.mem_of_getElem? (i := 18) rfl))) Via.refl e2 F2 d4_21 rfl ?_
    intro T61 X61 e61
    refine g_iloadN C X61 (pc' := 25) d4_24 rfl rfl ?_
    refine g_daload C X61 (pc' := 26) e61 Aw (by decide) (by decide) 0 (by decide) rfl d4_25 rfl ?_
    have D117 : FP.Core.DInt (k1 + i0) (FP.dadd d1 w0) := dadd_D D1 W0 (by show _ ≤ 9007199254740992; omega)
    refine g_dadd C X61 (pc' := 27) d4_26 (nn_of_int D117) rfl ?_
    refine g_dastore C X61 (pc' := 28) e61 Ad (by decide) (by decide) 1 0 (by decide) (of_decide_eq_true rfl) d4_27 rfl ?_
    intro T62 h62 X62 e62 W62 Aq
    have F1 := F1.other W62 (Or.inl n_a)
    have F2 := F2.other W62 (Or.inl n_a)
    have At := At.other W62 n_ta
    have Aw := Aw.other W62 n_aw
    have Z62 : n0 ≤ h62.size := by rw [W62.size]; exact Z0
    have N62 := Fr.snoc X62 (Fr.nil n0) z_b
    have P62 := (Keep.refl h [b]).wr W62 (Or.inl (List.mem_of_getElem? (i := 0) rfl))
    have Ad : Arv Z h62 b kd .double (4 : Int32) [(.double d0), (.double (FP.dadd d1 w0)), (.double d2), (.double d3)] (.double (0 : UInt64)) := Aq
    refine g_iinc C X62 (pc' := 31) d4_28 rfl (z := (1 : Int32)) (by decide) (l' := #[.val (.ref a), .val (.ref b), .val (.int (1 : Int32))]) rfl rfl ?_
    refine g_goto C X62 d4_31 (pc' := 2) (by decide) (by decide) ?_
    refine g_iloadN C X62 (pc' := 3) d4_2 rfl rfl ?_
    refine g_aloadN C X62 (pc' := 4) d4_3 rfl rfl rfl ?_
    refine g_getF C X62 (host := "") (Or.inl (hw _ (List.mem_of_getElem? (i := 16) rfl))) Via.refl e62 F1 d4_4 rfl ?_
    intro T63 X63 e63
    refine g_len C X63 (pc' := 8) e63 At d4_7 rfl ?_
    refine g_icmpN C X63 d4_8 (by decide) rfl ?_
    refine g_aloadN C X63 (pc' := 12) d4_11 rfl rfl rfl ?_
    refine g_aloadN C X63 (pc' := 13) d4_12 rfl rfl rfl ?_
    refine g_getF C X63 (host := "") (Or.inl (hw _ (List.mem_of_getElem? (i := 16) rfl))) Via.refl e63 F1 d4_13 rfl ?_
    intro T64 X64 e64
    refine g_iloadN C X64 (pc' := 17) d4_16 rfl rfl ?_
    refine g_iaload C X64 (pc' := 18) e64 At (by decide) (by decide) 1 (by decide) rfl d4_17 rfl ?_
    rcases own_one hT.2.1 with rfl | rfl | rfl | rfl
    · show Go p.tables e below _ T64 (mkF m 18 #[.val (.ref a), .val (.ref b), .val (.int (1 : Int32))] [(.int (0 : Int32)), (.ref b)])
      refine g_dup2 C X64 (pc' := 19) d4_18 rfl rfl rfl ?_
      refine g_daload C X64 (pc' := 20) e64 Ad (by decide) (by decide) 0 (by decide) rfl d4_19 rfl ?_
      refine g_aloadN C X64 (pc' := 21) d4_20 rfl rfl rfl ?_
      refine g_getF C X64 (host := "") (Or.inl (hw _ (List.mem_of_getElem? (i := 18) rfl))) Via.refl e64 F2 d4_21 rfl ?_
      intro T65 X65 e65
      refine g_iloadN C X65 (pc' := 25) d4_24 rfl rfl ?_
      refine g_daload C X65 (pc' := 26) e65 Aw (by decide) (by decide) 1 (by decide) rfl d4_25 rfl ?_
      have D118 : FP.Core.DInt (k0 + i1) (FP.dadd d0 w1) := dadd_D D0 W1 (by show _ ≤ 9007199254740992; omega)
      refine g_dadd C X65 (pc' := 27) d4_26 (nn_of_int D118) rfl ?_
      refine g_dastore C X65 (pc' := 28) e65 Ad (by decide) (by decide) 0 0 (by decide) (of_decide_eq_true rfl) d4_27 rfl ?_
      intro T66 h66 X66 e66 W66 Aq
      have F1 := F1.other W66 (Or.inl n_a)
      have F2 := F2.other W66 (Or.inl n_a)
      have At := At.other W66 n_ta
      have Aw := Aw.other W66 n_aw
      have Z66 : n0 ≤ h66.size := by rw [W66.size]; exact Z62
      have N66 := Fr.snoc X66 N62 z_b
      have P66 := P62.wr W66 (Or.inl (List.mem_of_getElem? (i := 0) rfl))
      have Ad : Arv Z h66 b kd .double (4 : Int32) [(.double (FP.dadd d0 w1)), (.double (FP.dadd d1 w0)), (.double d2), (.double d3)] (.double (0 : UInt64)) := Aq
      refine g_iinc C X66 (pc' := 31) d4_28 rfl (z := (2 : Int32)) (by decide) (l' := #[.val (.ref a), .val (.ref b), .val (.int (2 : Int32))]) rfl rfl ?_
      refine g_goto C X66 d4_31 (pc' := 2) (by decide) (by decide) ?_
      refine g_iloadN C X66 (pc' := 3) d4_2 rfl rfl ?_
      refine g_aloadN C X66 (pc' := 4) d4_3 rfl rfl rfl ?_
      refine g_getF C X66 (host := "") (Or.inl (hw _ (List.mem_of_getElem? (i := 16) rfl))) Via.refl e66 F1 d4_4 rfl ?_
      intro T67 X67 e67
      refine g_len C X67 (pc' := 8) e67 At d4_7 rfl ?_
      refine g_icmpN C X67 d4_8 (by decide) rfl ?_
      refine g_aloadN C X67 (pc' := 12) d4_11 rfl rfl rfl ?_
      refine g_aloadN C X67 (pc' := 13) d4_12 rfl rfl rfl ?_
      refine g_getF C X67 (host := "") (Or.inl (hw _ (List.mem_of_getElem? (i := 16) rfl))) Via.refl e67 F1 d4_13 rfl ?_
      intro T68 X68 e68
      refine g_iloadN C X68 (pc' := 17) d4_16 rfl rfl ?_
      refine g_iaload C X68 (pc' := 18) e68 At (by decide) (by decide) 2 (by decide) rfl d4_17 rfl ?_
      rcases own_one hT.2.2.1 with rfl | rfl | rfl | rfl
      · exact absurd rfl hT.2.2.2.2.2.2.2.1
      · exact absurd rfl hT.2.2.2.2.2.1
      · show Go p.tables e below _ T68 (mkF m 18 #[.val (.ref a), .val (.ref b), .val (.int (2 : Int32))] [(.int (2 : Int32)), (.ref b)])
        refine g_dup2 C X68 (pc' := 19) d4_18 rfl rfl rfl ?_
        refine g_daload C X68 (pc' := 20) e68 Ad (by decide) (by decide) 2 (by decide) rfl d4_19 rfl ?_
        refine g_aloadN C X68 (pc' := 21) d4_20 rfl rfl rfl ?_
        refine g_getF C X68 (host := "") (Or.inl (hw _ (List.mem_of_getElem? (i := 18) rfl))) Via.refl e68 F2 d4_21 rfl ?_
        intro T69 X69 e69
        refine g_iloadN C X69 (pc' := 25) d4_24 rfl rfl ?_
        refine g_daload C X69 (pc' := 26) e69 Aw (by decide) (by decide) 2 (by decide) rfl d4_25 rfl ?_
        have D119 : FP.Core.DInt (k2 + i2) (FP.dadd d2 w2) := dadd_D D2 W2 (by show _ ≤ 9007199254740992; omega)
        refine g_dadd C X69 (pc' := 27) d4_26 (nn_of_int D119) rfl ?_
        refine g_dastore C X69 (pc' := 28) e69 Ad (by decide) (by decide) 2 0 (by decide) (of_decide_eq_true rfl) d4_27 rfl ?_
        intro T70 h70 X70 e70 W70 Aq
        have F1 := F1.other W70 (Or.inl n_a)
        have F2 := F2.other W70 (Or.inl n_a)
        have At := At.other W70 n_ta
        have Aw := Aw.other W70 n_aw
        have Z70 : n0 ≤ h70.size := by rw [W70.size]; exact Z66
        have N70 := Fr.snoc X70 N66 z_b
        have P70 := P66.wr W70 (Or.inl (List.mem_of_getElem? (i := 0) rfl))
        have Ad : Arv Z h70 b kd .double (4 : Int32) [(.double (FP.dadd d0 w1)), (.double (FP.dadd d1 w0)), (.double (FP.dadd d2 w2)), (.double d3)] (.double (0 : UInt64)) := Aq
        refine g_iinc C X70 (pc' := 31) d4_28 rfl (z := (3 : Int32)) (by decide) (l' := #[.val (.ref a), .val (.ref b), .val (.int (3 : Int32))]) rfl rfl ?_
        refine g_goto C X70 d4_31 (pc' := 2) (by decide) (by decide) ?_
        refine g_iloadN C X70 (pc' := 3) d4_2 rfl rfl ?_
        refine g_aloadN C X70 (pc' := 4) d4_3 rfl rfl rfl ?_
        refine g_getF C X70 (host := "") (Or.inl (hw _ (List.mem_of_getElem? (i := 16) rfl))) Via.refl e70 F1 d4_4 rfl ?_
        intro T71 X71 e71
        refine g_len C X71 (pc' := 8) e71 At d4_7 rfl ?_
        refine g_icmpN C X71 d4_8 (by decide) rfl ?_
        refine g_aloadN C X71 (pc' := 12) d4_11 rfl rfl rfl ?_
        refine g_aloadN C X71 (pc' := 13) d4_12 rfl rfl rfl ?_
        refine g_getF C X71 (host := "") (Or.inl (hw _ (List.mem_of_getElem? (i := 16) rfl))) Via.refl e71 F1 d4_13 rfl ?_
        intro T72 X72 e72
        refine g_iloadN C X72 (pc' := 17) d4_16 rfl rfl ?_
        refine g_iaload C X72 (pc' := 18) e72 At (by decide) (by decide) 3 (by decide) rfl d4_17 rfl ?_
        rcases own_one hT.2.2.2.1 with rfl | rfl | rfl | rfl
        · exact absurd rfl hT.2.2.2.2.2.2.2.2.1
        · exact absurd rfl hT.2.2.2.2.2.2.1
        · exact absurd rfl hT.2.2.2.2.2.2.2.2.2
        · show Go p.tables e below _ T72 (mkF m 18 #[.val (.ref a), .val (.ref b), .val (.int (3 : Int32))] [(.int (3 : Int32)), (.ref b)])
          refine g_dup2 C X72 (pc' := 19) d4_18 rfl rfl rfl ?_
          refine g_daload C X72 (pc' := 20) e72 Ad (by decide) (by decide) 3 (by decide) rfl d4_19 rfl ?_
          refine g_aloadN C X72 (pc' := 21) d4_20 rfl rfl rfl ?_
          refine g_getF C X72 (host := "") (Or.inl (hw _ (List.mem_of_getElem? (i := 18) rfl))) Via.refl e72 F2 d4_21 rfl ?_
          intro T73 X73 e73
          refine g_iloadN C X73 (pc' := 25) d4_24 rfl rfl ?_
          refine g_daload C X73 (pc' := 26) e73 Aw (by decide) (by decide) 3 (by decide) rfl d4_25 rfl ?_
          have D120 : FP.Core.DInt (k3 + i3) (FP.dadd d3 w3) := dadd_D D3 W3 (by show _ ≤ 9007199254740992; omega)
          refine g_dadd C X73 (pc' := 27) d4_26 (nn_of_int D120) rfl ?_
          refine g_dastore C X73 (pc' := 28) e73 Ad (by decide) (by decide) 3 0 (by decide) (of_decide_eq_true rfl) d4_27 rfl ?_
          intro T74 h74 X74 e74 W74 Aq
          have F1 := F1.other W74 (Or.inl n_a)
          have F2 := F2.other W74 (Or.inl n_a)
          have At := At.other W74 n_ta
          have Aw := Aw.other W74 n_aw
          have Z74 : n0 ≤ h74.size := by rw [W74.size]; exact Z70
          have N74 := Fr.snoc X74 N70 z_b
          have P74 := P70.wr W74 (Or.inl (List.mem_of_getElem? (i := 0) rfl))
          have Ad : Arv Z h74 b kd .double (4 : Int32) [(.double (FP.dadd d0 w1)), (.double (FP.dadd d1 w0)), (.double (FP.dadd d2 w2)), (.double (FP.dadd d3 w3))] (.double (0 : UInt64)) := Aq
          refine g_iinc C X74 (pc' := 31) d4_28 rfl (z := (4 : Int32)) (by decide) (l' := #[.val (.ref a), .val (.ref b), .val (.int (4 : Int32))]) rfl rfl ?_
          refine g_goto C X74 d4_31 (pc' := 2) (by decide) (by decide) ?_
          refine g_iloadN C X74 (pc' := 3) d4_2 rfl rfl ?_
          refine g_aloadN C X74 (pc' := 4) d4_3 rfl rfl rfl ?_
          refine g_getF C X74 (host := "") (Or.inl (hw _ (List.mem_of_getElem? (i := 16) rfl))) Via.refl e74 F1 d4_4 rfl ?_
          intro T75 X75 e75
          refine g_len C X75 (pc' := 8) e75 At d4_7 rfl ?_
          refine g_icmpY C X75 d4_8 (pc' := 34) (by decide) (by decide) (by decide) ?_
          have q0 := own_c0
          have q1 := own_c1
          have q2 := own_c2
          have q3 := own_c3
          have P0 : own_p 4 (1 : Int32) (0 : Int32) (2 : Int32) (3 : Int32) i0 i1 i2 i3 0 i1 := by unfold own_p; refine ⟨fun _ _ => ?_, fun _ _ => ?_, fun _ _ => ?_, fun _ _ => ?_, fun _ _ _ _ => ?_⟩ <;> omega
          have P1 : own_p 4 (1 : Int32) (0 : Int32) (2 : Int32) (3 : Int32) i0 i1 i2 i3 1 i0 := by unfold own_p; refine ⟨fun _ _ => ?_, fun _ _ => ?_, fun _ _ => ?_, fun _ _ => ?_, fun _ _ _ _ => ?_⟩ <;> omega
          have P2 : own_p 4 (1 : Int32) (0 : Int32) (2 : Int32) (3 : Int32) i0 i1 i2 i3 2 i2 := by unfold own_p; refine ⟨fun _ _ => ?_, fun _ _ => ?_, fun _ _ => ?_, fun _ _ => ?_, fun _ _ _ _ => ?_⟩ <;> omega
          have P3 : own_p 4 (1 : Int32) (0 : Int32) (2 : Int32) (3 : Int32) i0 i1 i2 i3 3 i3 := by unfold own_p; refine ⟨fun _ _ => ?_, fun _ _ => ?_, fun _ _ => ?_, fun _ _ => ?_, fun _ _ _ _ => ?_⟩ <;> omega
          exact g_return C X75 d4_34 ⟨rfl, N74, by rw [e75]; exact P74, FP.dadd d0 w1, FP.dadd d1 w0, FP.dadd d2 w2, FP.dadd d3 w3, i1, i0, i2, i3, D118, D117, D119, D120, P0, P1, P2, P3, by rw [e75]; exact Ad⟩ (by decide) (by decide)
      · show Go p.tables e below _ T68 (mkF m 18 #[.val (.ref a), .val (.ref b), .val (.int (2 : Int32))] [(.int (3 : Int32)), (.ref b)])
        refine g_dup2 C X68 (pc' := 19) d4_18 rfl rfl rfl ?_
        refine g_daload C X68 (pc' := 20) e68 Ad (by decide) (by decide) 3 (by decide) rfl d4_19 rfl ?_
        refine g_aloadN C X68 (pc' := 21) d4_20 rfl rfl rfl ?_
        refine g_getF C X68 (host := "") (Or.inl (hw _ (List.mem_of_getElem? (i := 18) rfl))) Via.refl e68 F2 d4_21 rfl ?_
        intro T76 X76 e76
        refine g_iloadN C X76 (pc' := 25) d4_24 rfl rfl ?_
        refine g_daload C X76 (pc' := 26) e76 Aw (by decide) (by decide) 2 (by decide) rfl d4_25 rfl ?_
        have D121 : FP.Core.DInt (k3 + i2) (FP.dadd d3 w2) := dadd_D D3 W2 (by show _ ≤ 9007199254740992; omega)
        refine g_dadd C X76 (pc' := 27) d4_26 (nn_of_int D121) rfl ?_
        refine g_dastore C X76 (pc' := 28) e76 Ad (by decide) (by decide) 3 0 (by decide) (of_decide_eq_true rfl) d4_27 rfl ?_
        intro T77 h77 X77 e77 W77 Aq
        have F1 := F1.other W77 (Or.inl n_a)
        have F2 := F2.other W77 (Or.inl n_a)
        have At := At.other W77 n_ta
        have Aw := Aw.other W77 n_aw
        have Z77 : n0 ≤ h77.size := by rw [W77.size]; exact Z66
        have N77 := Fr.snoc X77 N66 z_b
        have P77 := P66.wr W77 (Or.inl (List.mem_of_getElem? (i := 0) rfl))
        have Ad : Arv Z h77 b kd .double (4 : Int32) [(.double (FP.dadd d0 w1)), (.double (FP.dadd d1 w0)), (.double d2), (.double (FP.dadd d3 w2))] (.double (0 : UInt64)) := Aq
        refine g_iinc C X77 (pc' := 31) d4_28 rfl (z := (3 : Int32)) (by decide) (l' := #[.val (.ref a), .val (.ref b), .val (.int (3 : Int32))]) rfl rfl ?_
        refine g_goto C X77 d4_31 (pc' := 2) (by decide) (by decide) ?_
        refine g_iloadN C X77 (pc' := 3) d4_2 rfl rfl ?_
        refine g_aloadN C X77 (pc' := 4) d4_3 rfl rfl rfl ?_
        refine g_getF C X77 (host := "") (Or.inl (hw _ (List.mem_of_getElem? (i := 16) rfl))) Via.refl e77 F1 d4_4 rfl ?_
        intro T78 X78 e78
        refine g_len C X78 (pc' := 8) e78 At d4_7 rfl ?_
        refine g_icmpN C X78 d4_8 (by decide) rfl ?_
        refine g_aloadN C X78 (pc' := 12) d4_11 rfl rfl rfl ?_
        refine g_aloadN C X78 (pc' := 13) d4_12 rfl rfl rfl ?_
        refine g_getF C X78 (host := "") (Or.inl (hw _ (List.mem_of_getElem? (i := 16) rfl))) Via.refl e78 F1 d4_13 rfl ?_
        intro T79 X79 e79
        refine g_iloadN C X79 (pc' := 17) d4_16 rfl rfl ?_
        refine g_iaload C X79 (pc' := 18) e79 At (by decide) (by decide) 3 (by decide) rfl d4_17 rfl ?_
        rcases own_one hT.2.2.2.1 with rfl | rfl | rfl | rfl
        · exact absurd rfl hT.2.2.2.2.2.2.2.2.1
        · exact absurd rfl hT.2.2.2.2.2.2.1
        · show Go p.tables e below _ T79 (mkF m 18 #[.val (.ref a), .val (.ref b), .val (.int (3 : Int32))] [(.int (2 : Int32)), (.ref b)])
          refine g_dup2 C X79 (pc' := 19) d4_18 rfl rfl rfl ?_
          refine g_daload C X79 (pc' := 20) e79 Ad (by decide) (by decide) 2 (by decide) rfl d4_19 rfl ?_
          refine g_aloadN C X79 (pc' := 21) d4_20 rfl rfl rfl ?_
          refine g_getF C X79 (host := "") (Or.inl (hw _ (List.mem_of_getElem? (i := 18) rfl))) Via.refl e79 F2 d4_21 rfl ?_
          intro T80 X80 e80
          refine g_iloadN C X80 (pc' := 25) d4_24 rfl rfl ?_
          refine g_daload C X80 (pc' := 26) e80 Aw (by decide) (by decide) 3 (by decide) rfl d4_25 rfl ?_
          have D122 : FP.Core.DInt (k2 + i3) (FP.dadd d2 w3) := dadd_D D2 W3 (by show _ ≤ 9007199254740992; omega)
          refine g_dadd C X80 (pc' := 27) d4_26 (nn_of_int D122) rfl ?_
          refine g_dastore C X80 (pc' := 28) e80 Ad (by decide) (by decide) 2 0 (by decide) (of_decide_eq_true rfl) d4_27 rfl ?_
          intro T81 h81 X81 e81 W81 Aq
          have F1 := F1.other W81 (Or.inl n_a)
          have F2 := F2.other W81 (Or.inl n_a)
          have At := At.other W81 n_ta
          have Aw := Aw.other W81 n_aw
          have Z81 : n0 ≤ h81.size := by rw [W81.size]; exact Z77
          have N81 := Fr.snoc X81 N77 z_b
          have P81 := P77.wr W81 (Or.inl (List.mem_of_getElem? (i := 0) rfl))
          have Ad : Arv Z h81 b kd .double (4 : Int32) [(.double (FP.dadd d0 w1)), (.double (FP.dadd d1 w0)), (.double (FP.dadd d2 w3)), (.double (FP.dadd d3 w2))] (.double (0 : UInt64)) := Aq
          refine g_iinc C X81 (pc' := 31) d4_28 rfl (z := (4 : Int32)) (by decide) (l' := #[.val (.ref a), .val (.ref b), .val (.int (4 : Int32))]) rfl rfl ?_
          refine g_goto C X81 d4_31 (pc' := 2) (by decide) (by decide) ?_
          refine g_iloadN C X81 (pc' := 3) d4_2 rfl rfl ?_
          refine g_aloadN C X81 (pc' := 4) d4_3 rfl rfl rfl ?_
          refine g_getF C X81 (host := "") (Or.inl (hw _ (List.mem_of_getElem? (i := 16) rfl))) Via.refl e81 F1 d4_4 rfl ?_
          intro T82 X82 e82
          refine g_len C X82 (pc' := 8) e82 At d4_7 rfl ?_
          refine g_icmpY C X82 d4_8 (pc' := 34) (by decide) (by decide) (by decide) ?_
          have q0 := own_c0
          have q1 := own_c1
          have q2 := own_c2
          have q3 := own_c3
          have P0 : own_p 4 (1 : Int32) (0 : Int32) (3 : Int32) (2 : Int32) i0 i1 i2 i3 0 i1 := by unfold own_p; refine ⟨fun _ _ => ?_, fun _ _ => ?_, fun _ _ => ?_, fun _ _ => ?_, fun _ _ _ _ => ?_⟩ <;> omega
          have P1 : own_p 4 (1 : Int32) (0 : Int32) (3 : Int32) (2 : Int32) i0 i1 i2 i3 1 i0 := by unfold own_p; refine ⟨fun _ _ => ?_, fun _ _ => ?_, fun _ _ => ?_, fun _ _ => ?_, fun _ _ _ _ => ?_⟩ <;> omega
          have P2 : own_p 4 (1 : Int32) (0 : Int32) (3 : Int32) (2 : Int32) i0 i1 i2 i3 2 i3 := by unfold own_p; refine ⟨fun _ _ => ?_, fun _ _ => ?_, fun _ _ => ?_, fun _ _ => ?_, fun _ _ _ _ => ?_⟩ <;> omega
          have P3 : own_p 4 (1 : Int32) (0 : Int32) (3 : Int32) (2 : Int32) i0 i1 i2 i3 3 i2 := by unfold own_p; refine ⟨fun _ _ => ?_, fun _ _ => ?_, fun _ _ => ?_, fun _ _ => ?_, fun _ _ _ _ => ?_⟩ <;> omega
          exact g_return C X82 d4_34 ⟨rfl, N81, by rw [e82]; exact P81, FP.dadd d0 w1, FP.dadd d1 w0, FP.dadd d2 w3, FP.dadd d3 w2, i1, i0, i3, i2, D118, D117, D122, D121, P0, P1, P2, P3, by rw [e82]; exact Ad⟩ (by decide) (by decide)
        · exact absurd rfl hT.2.2.2.2.2.2.2.2.2
    · exact absurd rfl hT.2.2.2.2.1
    · show Go p.tables e below _ T64 (mkF m 18 #[.val (.ref a), .val (.ref b), .val (.int (1 : Int32))] [(.int (2 : Int32)), (.ref b)])
      refine g_dup2 C X64 (pc' := 19) d4_18 rfl rfl rfl ?_
      refine g_daload C X64 (pc' := 20) e64 Ad (by decide) (by decide) 2 (by decide) rfl d4_19 rfl ?_
      refine g_aloadN C X64 (pc' := 21) d4_20 rfl rfl rfl ?_
      refine g_getF C X64 (host := "") (Or.inl (hw _ (List.mem_of_getElem? (i := 18) rfl))) Via.refl e64 F2 d4_21 rfl ?_
      intro T83 X83 e83
      refine g_iloadN C X83 (pc' := 25) d4_24 rfl rfl ?_
      refine g_daload C X83 (pc' := 26) e83 Aw (by decide) (by decide) 1 (by decide) rfl d4_25 rfl ?_
      have D123 : FP.Core.DInt (k2 + i1) (FP.dadd d2 w1) := dadd_D D2 W1 (by show _ ≤ 9007199254740992; omega)
      refine g_dadd C X83 (pc' := 27) d4_26 (nn_of_int D123) rfl ?_
      refine g_dastore C X83 (pc' := 28) e83 Ad (by decide) (by decide) 2 0 (by decide) (of_decide_eq_true rfl) d4_27 rfl ?_
      intro T84 h84 X84 e84 W84 Aq
      have F1 := F1.other W84 (Or.inl n_a)
      have F2 := F2.other W84 (Or.inl n_a)
      have At := At.other W84 n_ta
      have Aw := Aw.other W84 n_aw
      have Z84 : n0 ≤ h84.size := by rw [W84.size]; exact Z62
      have N84 := Fr.snoc X84 N62 z_b
      have P84 := P62.wr W84 (Or.inl (List.mem_of_getElem? (i := 0) rfl))
      have Ad : Arv Z h84 b kd .double (4 : Int32) [(.double d0), (.double (FP.dadd d1 w0)), (.double (FP.dadd d2 w1)), (.double d3)] (.double (0 : UInt64)) := Aq
      refine g_iinc C X84 (pc' := 31) d4_28 rfl (z := (2 : Int32)) (by decide) (l' := #[.val (.ref a), .val (.ref b), .val (.int (2 : Int32))]) rfl rfl ?_
      refine g_goto C X84 d4_31 (pc' := 2) (by decide) (by decide) ?_
      refine g_iloadN C X84 (pc' := 3) d4_2 rfl rfl ?_
      refine g_aloadN C X84 (pc' := 4) d4_3 rfl rfl rfl ?_
      refine g_getF C X84 (host := "") (Or.inl (hw _ (List.mem_of_getElem? (i := 16) rfl))) Via.refl e84 F1 d4_4 rfl ?_
      intro T85 X85 e85
      refine g_len C X85 (pc' := 8) e85 At d4_7 rfl ?_
      refine g_icmpN C X85 d4_8 (by decide) rfl ?_
      refine g_aloadN C X85 (pc' := 12) d4_11 rfl rfl rfl ?_
      refine g_aloadN C X85 (pc' := 13) d4_12 rfl rfl rfl ?_
      refine g_getF C X85 (host := "") (Or.inl (hw _ (List.mem_of_getElem? (i := 16) rfl))) Via.refl e85 F1 d4_13 rfl ?_
      intro T86 X86 e86
      refine g_iloadN C X86 (pc' := 17) d4_16 rfl rfl ?_
      refine g_iaload C X86 (pc' := 18) e86 At (by decide) (by decide) 2 (by decide) rfl d4_17 rfl ?_
      rcases own_one hT.2.2.1 with rfl | rfl | rfl | rfl
      · show Go p.tables e below _ T86 (mkF m 18 #[.val (.ref a), .val (.ref b), .val (.int (2 : Int32))] [(.int (0 : Int32)), (.ref b)])
        refine g_dup2 C X86 (pc' := 19) d4_18 rfl rfl rfl ?_
        refine g_daload C X86 (pc' := 20) e86 Ad (by decide) (by decide) 0 (by decide) rfl d4_19 rfl ?_
        refine g_aloadN C X86 (pc' := 21) d4_20 rfl rfl rfl ?_
        refine g_getF C X86 (host := "") (Or.inl (hw _ (List.mem_of_getElem? (i := 18) rfl))) Via.refl e86 F2 d4_21 rfl ?_
        intro T87 X87 e87
        refine g_iloadN C X87 (pc' := 25) d4_24 rfl rfl ?_
        refine g_daload C X87 (pc' := 26) e87 Aw (by decide) (by decide) 2 (by decide) rfl d4_25 rfl ?_
        have D124 : FP.Core.DInt (k0 + i2) (FP.dadd d0 w2) := dadd_D D0 W2 (by show _ ≤ 9007199254740992; omega)
        refine g_dadd C X87 (pc' := 27) d4_26 (nn_of_int D124) rfl ?_
        refine g_dastore C X87 (pc' := 28) e87 Ad (by decide) (by decide) 0 0 (by decide) (of_decide_eq_true rfl) d4_27 rfl ?_
        intro T88 h88 X88 e88 W88 Aq
        have F1 := F1.other W88 (Or.inl n_a)
        have F2 := F2.other W88 (Or.inl n_a)
        have At := At.other W88 n_ta
        have Aw := Aw.other W88 n_aw
        have Z88 : n0 ≤ h88.size := by rw [W88.size]; exact Z84
        have N88 := Fr.snoc X88 N84 z_b
        have P88 := P84.wr W88 (Or.inl (List.mem_of_getElem? (i := 0) rfl))
        have Ad : Arv Z h88 b kd .double (4 : Int32) [(.double (FP.dadd d0 w2)), (.double (FP.dadd d1 w0)), (.double (FP.dadd d2 w1)), (.double d3)] (.double (0 : UInt64)) := Aq
        refine g_iinc C X88 (pc' := 31) d4_28 rfl (z := (3 : Int32)) (by decide) (l' := #[.val (.ref a), .val (.ref b), .val (.int (3 : Int32))]) rfl rfl ?_
        refine g_goto C X88 d4_31 (pc' := 2) (by decide) (by decide) ?_
        refine g_iloadN C X88 (pc' := 3) d4_2 rfl rfl ?_
        refine g_aloadN C X88 (pc' := 4) d4_3 rfl rfl rfl ?_
        refine g_getF C X88 (host := "") (Or.inl (hw _ (List.mem_of_getElem? (i := 16) rfl))) Via.refl e88 F1 d4_4 rfl ?_
        intro T89 X89 e89
        refine g_len C X89 (pc' := 8) e89 At d4_7 rfl ?_
        refine g_icmpN C X89 d4_8 (by decide) rfl ?_
        refine g_aloadN C X89 (pc' := 12) d4_11 rfl rfl rfl ?_
        refine g_aloadN C X89 (pc' := 13) d4_12 rfl rfl rfl ?_
        refine g_getF C X89 (host := "") (Or.inl (hw _ (List.mem_of_getElem? (i := 16) rfl))) Via.refl e89 F1 d4_13 rfl ?_
        intro T90 X90 e90
        refine g_iloadN C X90 (pc' := 17) d4_16 rfl rfl ?_
        refine g_iaload C X90 (pc' := 18) e90 At (by decide) (by decide) 3 (by decide) rfl d4_17 rfl ?_
        rcases own_one hT.2.2.2.1 with rfl | rfl | rfl | rfl
        · exact absurd rfl hT.2.2.2.2.2.2.2.2.2
        · exact absurd rfl hT.2.2.2.2.2.2.1
        · exact absurd rfl hT.2.2.2.2.2.2.2.2.1
        · show Go p.tables e below _ T90 (mkF m 18 #[.val (.ref a), .val (.ref b), .val (.int (3 : Int32))] [(.int (3 : Int32)), (.ref b)])
          refine g_dup2 C X90 (pc' := 19) d4_18 rfl rfl rfl ?_
          refine g_daload C X90 (pc' := 20) e90 Ad (by decide) (by decide) 3 (by decide) rfl d4_19 rfl ?_
          refine g_aloadN C X90 (pc' := 21) d4_20 rfl rfl rfl ?_
          refine g_getF C X90 (host := "") (Or.inl (hw _ (List.mem_of_getElem? (i := 18) rfl))) Via.refl e90 F2 d4_21 rfl ?_
          intro T91 X91 e91
          refine g_iloadN C X91 (pc' := 25) d4_24 rfl rfl ?_
          refine g_daload C X91 (pc' := 26) e91 Aw (by decide) (by decide) 3 (by decide) rfl d4_25 rfl ?_
          have D125 : FP.Core.DInt (k3 + i3) (FP.dadd d3 w3) := dadd_D D3 W3 (by show _ ≤ 9007199254740992; omega)
          refine g_dadd C X91 (pc' := 27) d4_26 (nn_of_int D125) rfl ?_
          refine g_dastore C X91 (pc' := 28) e91 Ad (by decide) (by decide) 3 0 (by decide) (of_decide_eq_true rfl) d4_27 rfl ?_
          intro T92 h92 X92 e92 W92 Aq
          have F1 := F1.other W92 (Or.inl n_a)
          have F2 := F2.other W92 (Or.inl n_a)
          have At := At.other W92 n_ta
          have Aw := Aw.other W92 n_aw
          have Z92 : n0 ≤ h92.size := by rw [W92.size]; exact Z88
          have N92 := Fr.snoc X92 N88 z_b
          have P92 := P88.wr W92 (Or.inl (List.mem_of_getElem? (i := 0) rfl))
          have Ad : Arv Z h92 b kd .double (4 : Int32) [(.double (FP.dadd d0 w2)), (.double (FP.dadd d1 w0)), (.double (FP.dadd d2 w1)), (.double (FP.dadd d3 w3))] (.double (0 : UInt64)) := Aq
          refine g_iinc C X92 (pc' := 31) d4_28 rfl (z := (4 : Int32)) (by decide) (l' := #[.val (.ref a), .val (.ref b), .val (.int (4 : Int32))]) rfl rfl ?_
          refine g_goto C X92 d4_31 (pc' := 2) (by decide) (by decide) ?_
          refine g_iloadN C X92 (pc' := 3) d4_2 rfl rfl ?_
          refine g_aloadN C X92 (pc' := 4) d4_3 rfl rfl rfl ?_
          refine g_getF C X92 (host := "") (Or.inl (hw _ (List.mem_of_getElem? (i := 16) rfl))) Via.refl e92 F1 d4_4 rfl ?_
          intro T93 X93 e93
          refine g_len C X93 (pc' := 8) e93 At d4_7 rfl ?_
          refine g_icmpY C X93 d4_8 (pc' := 34) (by decide) (by decide) (by decide) ?_
          have q0 := own_c0
          have q1 := own_c1
          have q2 := own_c2
          have q3 := own_c3
          have P0 : own_p 4 (1 : Int32) (2 : Int32) (0 : Int32) (3 : Int32) i0 i1 i2 i3 0 i2 := by unfold own_p; refine ⟨fun _ _ => ?_, fun _ _ => ?_, fun _ _ => ?_, fun _ _ => ?_, fun _ _ _ _ => ?_⟩ <;> omega
          have P1 : own_p 4 (1 : Int32) (2 : Int32) (0 : Int32) (3 : Int32) i0 i1 i2 i3 1 i0 := by unfold own_p; refine ⟨fun _ _ => ?_, fun _ _ => ?_, fun _ _ => ?_, fun _ _ => ?_, fun _ _ _ _ => ?_⟩ <;> omega
          have P2 : own_p 4 (1 : Int32) (2 : Int32) (0 : Int32) (3 : Int32) i0 i1 i2 i3 2 i1 := by unfold own_p; refine ⟨fun _ _ => ?_, fun _ _ => ?_, fun _ _ => ?_, fun _ _ => ?_, fun _ _ _ _ => ?_⟩ <;> omega
          have P3 : own_p 4 (1 : Int32) (2 : Int32) (0 : Int32) (3 : Int32) i0 i1 i2 i3 3 i3 := by unfold own_p; refine ⟨fun _ _ => ?_, fun _ _ => ?_, fun _ _ => ?_, fun _ _ => ?_, fun _ _ _ _ => ?_⟩ <;> omega
          exact g_return C X93 d4_34 ⟨rfl, N92, by rw [e93]; exact P92, FP.dadd d0 w2, FP.dadd d1 w0, FP.dadd d2 w1, FP.dadd d3 w3, i2, i0, i1, i3, D124, D117, D123, D125, P0, P1, P2, P3, by rw [e93]; exact Ad⟩ (by decide) (by decide)
      · exact absurd rfl hT.2.2.2.2.2.1
      · exact absurd rfl hT.2.2.2.2.2.2.2.1
      · show Go p.tables e below _ T86 (mkF m 18 #[.val (.ref a), .val (.ref b), .val (.int (2 : Int32))] [(.int (3 : Int32)), (.ref b)])
        refine g_dup2 C X86 (pc' := 19) d4_18 rfl rfl rfl ?_
        refine g_daload C X86 (pc' := 20) e86 Ad (by decide) (by decide) 3 (by decide) rfl d4_19 rfl ?_
        refine g_aloadN C X86 (pc' := 21) d4_20 rfl rfl rfl ?_
        refine g_getF C X86 (host := "") (Or.inl (hw _ (List.mem_of_getElem? (i := 18) rfl))) Via.refl e86 F2 d4_21 rfl ?_
        intro T94 X94 e94
        refine g_iloadN C X94 (pc' := 25) d4_24 rfl rfl ?_
        refine g_daload C X94 (pc' := 26) e94 Aw (by decide) (by decide) 2 (by decide) rfl d4_25 rfl ?_
        have D126 : FP.Core.DInt (k3 + i2) (FP.dadd d3 w2) := dadd_D D3 W2 (by show _ ≤ 9007199254740992; omega)
        refine g_dadd C X94 (pc' := 27) d4_26 (nn_of_int D126) rfl ?_
        refine g_dastore C X94 (pc' := 28) e94 Ad (by decide) (by decide) 3 0 (by decide) (of_decide_eq_true rfl) d4_27 rfl ?_
        intro T95 h95 X95 e95 W95 Aq
        have F1 := F1.other W95 (Or.inl n_a)
        have F2 := F2.other W95 (Or.inl n_a)
        have At := At.other W95 n_ta
        have Aw := Aw.other W95 n_aw
        have Z95 : n0 ≤ h95.size := by rw [W95.size]; exact Z84
        have N95 := Fr.snoc X95 N84 z_b
        have P95 := P84.wr W95 (Or.inl (List.mem_of_getElem? (i := 0) rfl))
        have Ad : Arv Z h95 b kd .double (4 : Int32) [(.double d0), (.double (FP.dadd d1 w0)), (.double (FP.dadd d2 w1)), (.double (FP.dadd d3 w2))] (.double (0 : UInt64)) := Aq
        refine g_iinc C X95 (pc' := 31) d4_28 rfl (z := (3 : Int32)) (by decide) (l' := #[.val (.ref a), .val (.ref b), .val (.int (3 : Int32))]) rfl rfl ?_
        refine g_goto C X95 d4_31 (pc' := 2) (by decide) (by decide) ?_
        refine g_iloadN C X95 (pc' := 3) d4_2 rfl rfl ?_
        refine g_aloadN C X95 (pc' := 4) d4_3 rfl rfl rfl ?_
        refine g_getF C X95 (host := "") (Or.inl (hw _ (List.mem_of_getElem? (i := 16) rfl))) Via.refl e95 F1 d4_4 rfl ?_
        intro T96 X96 e96
        refine g_len C X96 (pc' := 8) e96 At d4_7 rfl ?_
        refine g_icmpN C X96 d4_8 (by decide) rfl ?_
        refine g_aloadN C X96 (pc' := 12) d4_11 rfl rfl rfl ?_
        refine g_aloadN C X96 (pc' := 13) d4_12 rfl rfl rfl ?_
        refine g_getF C X96 (host := "") (Or.inl (hw _ (List.mem_of_getElem? (i := 16) rfl))) Via.refl e96 F1 d4_13 rfl ?_
        intro T97 X97 e97
        refine g_iloadN C X97 (pc' := 17) d4_16 rfl rfl ?_
        refine g_iaload C X97 (pc' := 18) e97 At (by decide) (by decide) 3 (by decide) rfl d4_17 rfl ?_
        rcases own_one hT.2.2.2.1 with rfl | rfl | rfl | rfl
        · show Go p.tables e below _ T97 (mkF m 18 #[.val (.ref a), .val (.ref b), .val (.int (3 : Int32))] [(.int (0 : Int32)), (.ref b)])
          refine g_dup2 C X97 (pc' := 19) d4_18 rfl rfl rfl ?_
          refine g_daload C X97 (pc' := 20) e97 Ad (by decide) (by decide) 0 (by decide) rfl d4_19 rfl ?_
          refine g_aloadN C X97 (pc' := 21) d4_20 rfl rfl rfl ?_
          refine g_getF C X97 (host := "") (Or.inl (hw _ (List.mem_of_getElem? (i := 18) rfl))) Via.refl e97 F2 d4_21 rfl ?_
          intro T98 X98 e98
          refine g_iloadN C X98 (pc' := 25) d4_24 rfl rfl ?_
          refine g_daload C X98 (pc' := 26) e98 Aw (by decide) (by decide) 3 (by decide) rfl d4_25 rfl ?_
          have D127 : FP.Core.DInt (k0 + i3) (FP.dadd d0 w3) := dadd_D D0 W3 (by show _ ≤ 9007199254740992; omega)
          refine g_dadd C X98 (pc' := 27) d4_26 (nn_of_int D127) rfl ?_
          refine g_dastore C X98 (pc' := 28) e98 Ad (by decide) (by decide) 0 0 (by decide) (of_decide_eq_true rfl) d4_27 rfl ?_
          intro T99 h99 X99 e99 W99 Aq
          have F1 := F1.other W99 (Or.inl n_a)
          have F2 := F2.other W99 (Or.inl n_a)
          have At := At.other W99 n_ta
          have Aw := Aw.other W99 n_aw
          have Z99 : n0 ≤ h99.size := by rw [W99.size]; exact Z95
          have N99 := Fr.snoc X99 N95 z_b
          have P99 := P95.wr W99 (Or.inl (List.mem_of_getElem? (i := 0) rfl))
          have Ad : Arv Z h99 b kd .double (4 : Int32) [(.double (FP.dadd d0 w3)), (.double (FP.dadd d1 w0)), (.double (FP.dadd d2 w1)), (.double (FP.dadd d3 w2))] (.double (0 : UInt64)) := Aq
          refine g_iinc C X99 (pc' := 31) d4_28 rfl (z := (4 : Int32)) (by decide) (l' := #[.val (.ref a), .val (.ref b), .val (.int (4 : Int32))]) rfl rfl ?_
          refine g_goto C X99 d4_31 (pc' := 2) (by decide) (by decide) ?_
          refine g_iloadN C X99 (pc' := 3) d4_2 rfl rfl ?_
          refine g_aloadN C X99 (pc' := 4) d4_3 rfl rfl rfl ?_
          refine g_getF C X99 (host := "") (Or.inl (hw _ (List.mem_of_getElem? (i := 16) rfl))) Via.refl e99 F1 d4_4 rfl ?_
          intro T100 X100 e100
          refine g_len C X100 (pc' := 8) e100 At d4_7 rfl ?_
          refine g_icmpY C X100 d4_8 (pc' := 34) (by decide) (by decide) (by decide) ?_
          have q0 := own_c0
          have q1 := own_c1
          have q2 := own_c2
          have q3 := own_c3
          have P0 : own_p 4 (1 : Int32) (2 : Int32) (3 : Int32) (0 : Int32) i0 i1 i2 i3 0 i3 := by unfold own_p; refine ⟨fun _ _ => ?_, fun _ _ => ?_, fun _ _ => ?_, fun _ _ => ?_, fun _ _ _ _ => ?_⟩ <;> omega
          have P1 : own_p 4 (1 : Int32) (2 : Int32) (3 : Int32) (0 : Int32) i0 i1 i2 i3 1 i0 := by unfold own_p; refine ⟨fun _ _ => ?_, fun _ _ => ?_, fun _ _ => ?_, fun _ _ => ?_, fun _ _ _ _ => ?_⟩ <;> omega
          have P2 : own_p 4 (1 : Int32) (2 : Int32) (3 : Int32) (0 : Int32) i0 i1 i2 i3 2 i1 := by unfold own_p; refine ⟨fun _ _ => ?_, fun _ _ => ?_, fun _ _ => ?_, fun _ _ => ?_, fun _ _ _ _ => ?_⟩ <;> omega
          have P3 : own_p 4 (1 : Int32) (2 : Int32) (3 : Int32) (0 : Int32) i0 i1 i2 i3 3 i2 := by unfold own_p; refine ⟨fun _ _ => ?_, fun _ _ => ?_, fun _ _ => ?_, fun _ _ => ?_, fun _ _ _ _ => ?_⟩ <;> omega
          exact g_return C X100 d4_34 ⟨rfl, N99, by rw [e100]; exact P99, FP.dadd d0 w3, FP.dadd d1 w0, FP.dadd d2 w1, FP.dadd d3 w2, i3, i0, i1, i2, D127, D117, D123, D126, P0, P1, P2, P3, by rw [e100]; exact Ad⟩ (by decide) (by decide)
        · exact absurd rfl hT.2.2.2.2.2.2.1
        · exact absurd rfl hT.2.2.2.2.2.2.2.2.1
        · exact absurd rfl hT.2.2.2.2.2.2.2.2.2
    · show Go p.tables e below _ T64 (mkF m 18 #[.val (.ref a), .val (.ref b), .val (.int (1 : Int32))] [(.int (3 : Int32)), (.ref b)])
      refine g_dup2 C X64 (pc' := 19) d4_18 rfl rfl rfl ?_
      refine g_daload C X64 (pc' := 20) e64 Ad (by decide) (by decide) 3 (by decide) rfl d4_19 rfl ?_
      refine g_aloadN C X64 (pc' := 21) d4_20 rfl rfl rfl ?_
      refine g_getF C X64 (host := "") (Or.inl (hw _ (List.mem_of_getElem? (i := 18) rfl))) Via.refl e64 F2 d4_21 rfl ?_
      intro T101 X101 e101
      refine g_iloadN C X101 (pc' := 25) d4_24 rfl rfl ?_
      refine g_daload C X101 (pc' := 26) e101 Aw (by decide) (by decide) 1 (by decide) rfl d4_25 rfl ?_
      have D128 : FP.Core.DInt (k3 + i1) (FP.dadd d3 w1) := dadd_D D3 W1 (by show _ ≤ 9007199254740992; omega)
      refine g_dadd C X101 (pc' := 27) d4_26 (nn_of_int D128) rfl ?_
      refine g_dastore C X101 (pc' := 28) e101 Ad (by decide) (by decide) 3 0 (by decide) (of_decide_eq_true rfl) d4_27 rfl ?_
      intro T102 h102 X102 e102 W102 Aq
      have F1 := F1.other W102 (Or.inl n_a)
      have F2 := F2.other W102 (Or.inl n_a)
      have At := At.other W102 n_ta
      have Aw := Aw.other W102 n_aw
      have Z102 : n0 ≤ h102.size := by rw [W102.size]; exact Z62
      have N102 := Fr.snoc X102 N62 z_b
      have P102 := P62.wr W102 (Or.inl (List.mem_of_getElem? (i := 0) rfl))
      have Ad : Arv Z h102 b kd .double (4 : Int32) [(.double d0), (.double (FP.dadd d1 w0)), (.double d2), (.double (FP.dadd d3 w1))] (.double (0 : UInt64)) := Aq
      refine g_iinc C X102 (pc' := 31) d4_28 rfl (z := (2 : Int32)) (by decide) (l' := #[.val (.ref a), .val (.ref b), .val (.int (2 : Int32))]) rfl rfl ?_
      refine g_goto C X102 d4_31 (pc' := 2) (by decide) (by decide) ?_
      refine g_iloadN C X102 (pc' := 3) d4_2 rfl rfl ?_
      refine g_aloadN C X102 (pc' := 4) d4_3 rfl rfl rfl ?_
      refine g_getF C X102 (host := "") (Or.inl (hw _ (List.mem_of_getElem? (i := 16) rfl))) Via.refl e102 F1 d4_4 rfl ?_
      intro T103 X103 e103
      refine g_len C X103 (pc' := 8) e103 At d4_7 rfl ?_
      refine g_icmpN C X103 d4_8 (by decide) rfl ?_
      refine g_aloadN C X103 (pc' := 12) d4_11 rfl rfl rfl ?_
      refine g_aloadN C X103 (pc' := 13) d4_12 rfl rfl rfl ?_
      refine g_getF C X103 (host := "") (Or.inl (hw _ (List.mem_of_getElem? (i := 16) rfl))) Via.refl e103 F1 d4_13 rfl ?_
      intro T104 X104 e104
      refine g_iloadN C X104 (pc' := 17) d4_16 rfl rfl ?_
      refine g_iaload C X104 (pc' := 18) e104 At (by decide) (by decide) 2 (by decide) rfl d4_17 rfl ?_
      rcases own_one hT.2.2.1 with rfl | rfl | rfl | rfl
      · show Go p.tables e below _ T104 (mkF m 18 #[.val (.ref a), .val (.ref b), .val (.int (2 : Int32))] [(.int (0 : Int32)), (.ref b)])
        refine g_dup2 C X104 (pc' := 19) d4_18 rfl rfl rfl ?_
        refine g_daload C X104 (pc' := 20) e104 Ad (by decide) (by decide) 0 (by decide) rfl d4_19 rfl ?_
        refine g_aloadN C X104 (pc' := 21) d4_20 rfl rfl rfl ?_
        refine g_getF C X104 (host := "") (Or.inl (hw _ (List.mem_of_getElem? (i := 18) rfl))) Via.refl e104 F2 d4_21 rfl ?_
        intro T105 X105 e105
        refine g_iloadN C X105 (pc' := 25) d4_24 rfl rfl ?_
        refine g_daload C X105 (pc' := 26) e105 Aw (by decide) (by decide) 2 (by decide) rfl d4_25 rfl ?_
        have D129 : FP.Core.DInt (k0 + i2) (FP.dadd d0 w2) := dadd_D D0 W2 (by show _ ≤ 9007199254740992; omega)
        refine g_dadd C X105 (pc' := 27) d4_26 (nn_of_int D129) rfl ?_
        refine g_dastore C X105 (pc' := 28) e105 Ad (by decide) (by decide) 0 0 (by decide) (of_decide_eq_true rfl) d4_27 rfl ?_
        intro T106 h106 X106 e106 W106 Aq
        have F1 := F1.other W106 (Or.inl n_a)
        have F2 := F2.other W106 (Or.inl n_a)
        have At := At.other W106 n_ta
        have Aw := Aw.other W106 n_aw
        have Z106 : n0 ≤ h106.size := by rw [W106.size]; exact Z102
        have N106 := Fr.snoc X106 N102 z_b
        have P106 := P102.wr W106 (Or.inl (List.mem_of_getElem? (i := 0) rfl))
        have Ad : Arv Z h106 b kd .double (4 : Int32) [(.double (FP.dadd d0 w2)), (.double (FP.dadd d1 w0)), (.double d2), (.double (FP.dadd d3 w1))] (.double (0 : UInt64)) := Aq
        refine g_iinc C X106 (pc' := 31) d4_28 rfl (z := (3 : Int32)) (by decide) (l' := #[.val (.ref a), .val (.ref b), .val (.int (3 : Int32))]) rfl rfl ?_
        refine g_goto C X106 d4_31 (pc' := 2) (by decide) (by decide) ?_
        refine g_iloadN C X106 (pc' := 3) d4_2 rfl rfl ?_
        refine g_aloadN C X106 (pc' := 4) d4_3 rfl rfl rfl ?_
        refine g_getF C X106 (host := "") (Or.inl (hw _ (List.mem_of_getElem? (i := 16) rfl))) Via.refl e106 F1 d4_4 rfl ?_
        intro T107 X107 e107
        refine g_len C X107 (pc' := 8) e107 At d4_7 rfl ?_
        refine g_icmpN C X107 d4_8 (by decide) rfl ?_
        refine g_aloadN C X107 (pc' := 12) d4_11 rfl rfl rfl ?_
        refine g_aloadN C X107 (pc' := 13) d4_12 rfl rfl rfl ?_
        refine g_getF C X107 (host := "") (Or.inl (hw _ (List.mem_of_getElem? (i := 16) rfl))) Via.refl e107 F1 d4_13 rfl ?_
        intro T108 X108 e108
        refine g_iloadN C X108 (pc' := 17) d4_16 rfl rfl ?_
        refine g_iaload C X108 (pc' := 18) e108 At (by decide) (by decide) 3 (by decide) rfl d4_17 rfl ?_
        rcases own_one hT.2.2.2.1 with rfl | rfl | rfl | rfl
        · exact absurd rfl hT.2.2.2.2.2.2.2.2.2
        · exact absurd rfl hT.2.2.2.2.2.2.1
        · show Go p.tables e below _ T108 (mkF m 18 #[.val (.ref a), .val (.ref b), .val (.int (3 : Int32))] [(.int (2 : Int32)), (.ref b)])
          refine g_dup2 C X108 (pc' := 19) d4_18 rfl rfl rfl ?_
          refine g_daload C X108 (pc' := 20) e108 Ad (by decide) (by decide) 2 (by decide) rfl d4_19 rfl ?_
          refine g_aloadN C X108 (pc' := 21) d4_20 rfl rfl rfl ?_
          refine g_getF C X108 (host := "") (Or.inl (hw _ (List.mem_of_getElem? (i := 18) rfl))) Via.refl e108 F2 d4_21 rfl ?_
          intro T109 X109 e109
          refine g_iloadN C X109 (pc' := 25) d4_24 rfl rfl ?_
          refine g_daload C X109 (pc' := 26) e109 Aw (by decide) (by decide) 3 (by decide) rfl d4_25 rfl ?_
          have D130 : FP.Core.DInt (k2 + i3) (FP.dadd d2 w3) := dadd_D D2 W3 (by show _ ≤ 9007199254740992; omega)
          refine g_dadd C X109 (pc' := 27) d4_26 (nn_of_int D130) rfl ?_
          refine g_dastore C X109 (pc' := 28) e109 Ad (by decide) (by decide) 2 0 (by decide) (of_decide_eq_true rfl) d4_27 rfl ?_
          intro T110 h110 X110 e110 W110 Aq
          have F1 := F1.other W110 (Or.inl n_a)
          have F2 := F2.other W110 (Or.inl n_a)
          have At := At.other W110 n_ta
          have Aw := Aw.other W110 n_aw
          have Z110 : n0 ≤ h110.size := by rw [W110.size]; exact Z106
          have N110 := Fr.snoc X110 N106 z_b
          have P110 := P106.wr W110 (Or.inl (List.mem_of_getElem? (i := 0) rfl))
          have Ad : Arv Z h110 b kd .double (4 : Int32) [(.double (FP.dadd d0 w2)), (.double (FP.dadd d1 w0)), (.double (FP.dadd d2 w3)), (.double (FP.dadd d3 w1))] (.double (0 : UInt64)) := Aq
          refine g_iinc C X110 (pc' := 31) d4_28 rfl (z := (4 : Int32)) (by decide) (l' := #[.val (.ref a), .val (.ref b), .val (.int (4 : Int32))]) rfl rfl ?_
          refine g_goto C X110 d4_31 (pc' := 2) (by decide) (by decide) ?_
          refine g_iloadN C X110 (pc' := 3) d4_2 rfl rfl ?_
          refine g_aloadN C X110 (pc' := 4) d4_3 rfl rfl rfl ?_
          refine g_getF C X110 (host := "") (Or.inl (hw _ (List.mem_of_getElem? (i := 16) rfl))) Via.refl e110 F1 d4_4 rfl ?_
          intro T111 X111 e111
          refine g_len C X111 (pc' := 8) e111 At d4_7 rfl ?_
          refine g_icmpY C X111 d4_8 (pc' := 34) (by decide) (by decide) (by decide) ?_
          have q0 := own_c0
          have q1 := own_c1
          have q2 := own_c2
          have q3 := own_c3
          have P0 : own_p 4 (1 : Int32) (3 : Int32) (0 : Int32) (2 : Int32) i0 i1 i2 i3 0 i2 := by unfold own_p; refine ⟨fun _ _ => ?_, fun _ _ => ?_, fun _ _ => ?_, fun _ _ => ?_, fun _ _ _ _ => ?_⟩ <;> omega
          have P1 : own_p 4 (1 : Int32) (3 : Int32) (0 : Int32) (2 : Int32) i0 i1 i2 i3 1 i0 := by unfold own_p; refine ⟨fun _ _ => ?_, fun _ _ => ?_, fun _ _ => ?_, fun _ _ => ?_, fun _ _ _ _ => ?_⟩ <;> omega
          have P2 : own_p 4 (1 : Int32) (3 : Int32) (0 : Int32) (2 : Int32) i0 i1 i2 i3 2 i3 := by unfold own_p; refine ⟨fun _ _ => ?_, fun _ _ => ?_, fun _ _ => ?_, fun _ _ => ?_, fun _ _ _ _ => ?_⟩ <;> omega
          have P3 : own_p 4 (1 : Int32) (3 : Int32) (0 : Int32) (2 : Int32) i0 i1 i2 i3 3 i1 := by unfold own_p; refine ⟨fun _ _ => ?_, fun _ _ => ?_, fun _ _ => ?_, fun _ _ => ?_, fun _ _ _ _ => ?_⟩ <;> omega
          exact g_return C X111 d4_34 ⟨rfl, N110, by rw [e111]; exact P110, FP.dadd d0 w2, FP.dadd d1 w0, FP.dadd d2 w3, FP.dadd d3 w1, i2, i0, i3, i1, D129, D117, D130, D128, P0, P1, P2, P3, by rw [e111]; exact Ad⟩ (by decide) (by decide)
        · exact absurd rfl hT.2.2.2.2.2.2.2.2.1
      · exact absurd rfl hT.2.2.2.2.2.1
      · show Go p.tables e below _ T104 (mkF m 18 #[.val (.ref a), .val (.ref b), .val (.int (2 : Int32))] [(.int (2 : Int32)), (.ref b)])
        refine g_dup2 C X104 (pc' := 19) d4_18 rfl rfl rfl ?_
        refine g_daload C X104 (pc' := 20) e104 Ad (by decide) (by decide) 2 (by decide) rfl d4_19 rfl ?_
        refine g_aloadN C X104 (pc' := 21) d4_20 rfl rfl rfl ?_
        refine g_getF C X104 (host := "") (Or.inl (hw _ (List.mem_of_getElem? (i := 18) rfl))) Via.refl e104 F2 d4_21 rfl ?_
        intro T112 X112 e112
        refine g_iloadN C X112 (pc' := 25) d4_24 rfl rfl ?_
        refine g_daload C X112 (pc' := 26) e112 Aw (by decide) (by decide) 2 (by decide) rfl d4_25 rfl ?_
        have D131 : FP.Core.DInt (k2 + i2) (FP.dadd d2 w2) := dadd_D D2 W2 (by show _ ≤ 9007199254740992; omega)
        refine g_dadd C X112 (pc' := 27) d4_26 (nn_of_int D131) rfl ?_
        refine g_dastore C X112 (pc' := 28) e112 Ad (by decide) (by decide) 2 0 (by decide) (of_decide_eq_true rfl) d4_27 rfl ?_
        intro T113 h113 X113 e113 W113 Aq
        have F1 := F1.other W113 (Or.inl n_a)
        have F2 := F2.other W113 (Or.inl n_a)
        have At := At.other W113 n_ta
        have Aw := Aw.other W113 n_aw
        have Z113 : n0 ≤ h113.size := by rw [W113.size]; exact Z102
        have N113 := Fr.snoc X113 N102 z_b
        have P113 := P102.wr W113 (Or.inl (List.mem_of_getElem? (i := 0) rfl))
        have Ad : Arv Z h113 b kd .double (4 : Int32) [(.double d0), (.double (FP.dadd d1 w0)), (.double (FP.dadd d2 w2)), (.double (FP.dadd d3 w1))] (.double (0 : UInt64)) := Aq
        refine g_iinc C X113 (pc' := 31) d4_28 rfl (z := (3 : Int32)) (by decide) (l' := #[.val (.ref a), .val (.ref b), .val (.int (3 : Int32))]) rfl rfl ?_
        refine g_goto C X113 d4_31 (pc' := 2) (by decide) (by decide) ?_
        refine g_iloadN C X113 (pc' := 3) d4_2 rfl rfl ?_
        refine g_aloadN C X113 (pc' := 4) d4_3 rfl rfl rfl ?_
        refine g_getF C X113 (host := "") (Or.inl (hw _ (List.mem_of_getElem? (i := 16) rfl))) Via.refl e113 F1 d4_4 rfl ?_
        intro T114 X114 e114
        refine g_len C X114 (pc' := 8) e114 At d4_7 rfl ?_
        refine g_icmpN C X114 d4_8 (by decide) rfl ?_
        refine g_aloadN C X114 (pc' := 12) d4_11 rfl rfl rfl ?_
        refine g_aloadN C X114 (pc' := 13) d4_12 rfl rfl rfl ?_
        refine g_getF C X114 (host := "") (Or.inl (hw _ (List.mem_of_getElem? (i := 16) rfl))) Via.refl e114 F1 d4_13 rfl ?_
        intro T115 X115 e115
        refine g_iloadN C X115 (pc' := 17) d4_16 rfl rfl ?_
        refine g_iaload C X115 (pc' := 18) e115 At (by decide) (by decide) 3 (by decide) rfl d4_17 rfl ?_
        rcases own_one hT.2.2.2.1 with rfl | rfl | rfl | rfl
        · show Go p.tables e below _ T115 (mkF m 18 #[.val (.ref a), .val (.ref b), .val (.int (3 : Int32))] [(.int (0 : Int32)), (.ref b)])
          refine g_dup2 C X115 (pc' := 19) d4_18 rfl rfl rfl ?_
          refine g_daload C X115 (pc' := 20) e115 Ad (by decide) (by decide) 0 (by decide) rfl d4_19 rfl ?_
          refine g_aloadN C X115 (pc' := 21) d4_20 rfl rfl rfl ?_
          refine g_getF C X115 (host := "") (Or.inl (hw _ (List.mem_of_getElem? (i := 18) rfl))) Via.refl e115 F2 d4_21 rfl ?_
          intro T116 X116 e116
          refine g_iloadN C X116 (pc' := 25) d4_24 rfl rfl ?_
          refine g_daload C X116 (pc' := 26) e116 Aw (by decide) (by decide) 3 (by decide) rfl d4_25 rfl ?_
          have D132 : FP.Core.DInt (k0 + i3) (FP.dadd d0 w3) := dadd_D D0 W3 (by show _ ≤ 9007199254740992; omega)
          refine g_dadd C X116 (pc' := 27) d4_26 (nn_of_int D132) rfl ?_
          refine g_dastore C X116 (pc' := 28) e116 Ad (by decide) (by decide) 0 0 (by decide) (of_decide_eq_true rfl) d4_27 rfl ?_
          intro T117 h117 X117 e117 W117 Aq
          have F1 := F1.other W117 (Or.inl n_a)
          have F2 := F2.other W117 (Or.inl n_a)
          have At := At.other W117 n_ta
          have Aw := Aw.other W117 n_aw
          have Z117 : n0 ≤ h117.size := by rw [W117.size]; exact Z113
          have N117 := Fr.snoc X117 N113 z_b
          have P117 := P113.wr W117 (Or.inl (List.mem_of_getElem? (i := 0) rfl))
          have Ad : Arv Z h117 b kd .double (4 : Int32) [(.double (FP.dadd d0 w3)), (.double (FP.dadd d1 w0)), (.double (FP.dadd d2 w2)), (.double (FP.dadd d3 w1))] (.double (0 : UInt64)) := Aq
          refine g_iinc C X117 (pc' := 31) d4_28 rfl (z := (4 : Int32)) (by decide) (l' := #[.val (.ref a), .val (.ref b), .val (.int (4 : Int32))]) rfl rfl ?_
          refine g_goto C X117 d4_31 (pc' := 2) (by decide) (by decide) ?_
          refine g_iloadN C X117 (pc' := 3) d4_2 rfl rfl ?_
          refine g_aloadN C X117 (pc' := 4) d4_3 rfl rfl rfl ?_
          refine g_getF C X117 (host := "") (Or.inl (hw _ (List.mem_of_getElem? (i := 16) rfl))) Via.refl e117 F1 d4_4 rfl ?_
          intro T118 X118 e118
          refine g_len C X118 (pc' := 8) e118 At d4_7 rfl ?_
          refine g_icmpY C X118 d4_8 (pc' := 34) (by decide) (by decide) (by decide) ?_
          have q0 := own_c0
          have q1 := own_c1
          have q2 := own_c2
          have q3 := own_c3
          have P0 : own_p 4 (1 : Int32) (3 : Int32) (2 : Int32) (0 : Int32) i0 i1 i2 i3 0 i3 := by unfold own_p; refine ⟨fun _ _ => ?_, fun _ _ => ?_, fun _ _ => ?_, fun _ _ => ?_, fun _ _ _ _ => ?_⟩ <;> omega
          have P1 : own_p 4 (1 : Int32) (3 : Int32) (2 : Int32) (0 : Int32) i0 i1 i2 i3 1 i0 := by unfold own_p; refine ⟨fun _ _ => ?_, fun _ _ => ?_, fun _ _ => ?_, fun _ _ => ?_, fun _ _ _ _ => ?_⟩ <;> omega
          have P2 : own_p 4 (1 : Int32) (3 : Int32) (2 : Int32) (0 : Int32) i0 i1 i2 i3 2 i2 := by unfold own_p; refine ⟨fun _ _ => ?_, fun _ _ => ?_, fun _ _ => ?_, fun _ _ => ?_, fun _ _ _ _ => ?_⟩ <;> omega
          have P3 : own_p 4 (1 : Int32) (3 : Int32) (2 : Int32) (0 : Int32) i0 i1 i2 i3 3 i1 := by unfold own_p; refine ⟨fun _ _ => ?_, fun _ _ => ?_, fun _ _ => ?_, fun _ _ => ?_, fun _ _ _ _ => ?_⟩ <;> omega
          exact g_return C X118 d4_34 ⟨rfl, N117, by rw [e118]; exact P117, FP.dadd d0 w3, FP.dadd d1 w0, FP.dadd d2 w2, FP.dadd d3 w1, i3, i0, i2, i1, D132, D117, D131, D128, P0, P1, P2, P3, by rw [e118]; exact Ad⟩ (by decide) (by decide)
        · exact absurd rfl hT.2.2.2.2.2.2.1
        · exact absurd rfl hT.2.2.2.2.2.2.2.2.2
        · exact absurd rfl hT.2.2.2.2.2.2.2.2.1
      · exact absurd rfl hT.2.2.2.2.2.2.2.1
  · show Go p.tables e below _ T2 (mkF m 18 #[.val (.ref a), .val (.ref b), .val (.int (0 : Int32))] [(.int (2 : Int32)), (.ref b)])
    refine g_dup2 C X2 (pc' := 19) d4_18 rfl rfl rfl ?_
    refine g_daload C X2 (pc' := 20) e2 Ad (by decide) (by decide) 2 (by decide) rfl d4_19 rfl ?_
    refine g_aloadN C X2 (pc' := 21) d4_20 rfl rfl rfl ?_
    refine g_getF C X2 (host := "") (Or.inl (hw _ (List.mem_of_getElem? (i := 18) rfl))) Via.refl e2 F2 d4_21 rfl ?_
    intro T119 X119 e119
    refine g_iloadN C X119 (pc' := 25) d4_24 rfl rfl ?_
    refine g_daload C X119 (pc' := 26) e119 Aw (by decide) (by decide) 0 (by decide) rfl d4_25 rfl ?_
    have D133 : FP.Core.DInt (k2 + i0) (FP.dadd d2 w0) := dadd_D D2 W0 (by show _ ≤ 9007199254740992; omega)
    refine g_dadd C X119 (pc' := 27) d4_26 (nn_of_int D133) rfl ?_
    refine g_dastore C X119 (pc' := 28) e119 Ad (by decide) (by decide) 2 0 (by decide) (of_decide_eq_true rfl) d4_27 rfl ?_
    intro T120 h120 X120 e120 W120 Aq
    have F1 := F1.other W120 (Or.inl n_a)
    have F2 := F2.other W120 (Or.inl n_a)
    have At := At.other W120 n_ta
    have Aw := Aw.other W120 n_aw
    have Z120 : n0 ≤ h120.size := by rw [W120.size]; exact Z0
    have N120 := Fr.snoc X120 (Fr.nil n0) z_b
    have P120 := (Keep.refl h [b]).wr W120 (Or.inl (List.mem_of_getElem? (i := 0) rfl))
    have Ad : Arv Z h120 b kd .double (4 : Int32) [(.double d0), (.double d1), (.double (FP.dadd d2 w0)), (.double d3)] (.double (0 : UInt64)) := Aq
    refine g_iinc C X120 (pc' := 31) d4_28 rfl (z := (1 : Int32)) (by decide) (l' := #[.val (.ref a), .val (.ref b), .val (.int (1 : Int32))]) rfl rfl ?_
    refine g_goto C X120 d4_31 (pc' := 2) (by decide) (by decide) ?_
    refine g_iloadN C X120 (pc' := 3) d4_2 rfl rfl ?_
    refine g_aloadN C X120 (pc' := 4) d4_3 rfl rfl rfl ?_
    refine g_getF C X120 (host := "") (Or.inl (hw _ (List.mem_of_getElem? (i := 16) rfl))) Via.refl e120 F1 d4_4 rfl ?_
    intro T121 X121 e121
    refine g_len C X121 (pc' := 8) e121 At d4_7 rfl ?_
    refine g_icmpN C X121 d4_8 (by decide) rfl ?_
    refine g_aloadN C X121 (pc' := 12) d4_11 rfl rfl rfl ?_
    refine g_aloadN C X121 (pc' := 13) d4_12 rfl rfl rfl ?_
    refine g_getF C X121 (host := "") (Or.inl (hw _ (List.mem_of_getElem? (i := 16) rfl))) Via.refl e121 F1 d4_13 rfl ?_
    intro T122 X122 e122
    refine g_iloadN C X122 (pc' := 17) d4_16 rfl rfl ?_
    refine g_iaload C X122 (pc' := 18) e122 At (by decide) (by decide) 1 (by decide) rfl d4_17 rfl ?_
    rcases own_one hT.2.1 with rfl | rfl | rfl | rfl
    · show Go p.tables e below _ T122 (mkF m 18 #[.val (.ref a), .val (.ref b), .val (.int (1 : Int32))] [(.int (0 : Int32)), (.ref b)])
      refine g_dup2 C X122 (pc' := 19) d4_18 rfl rfl rfl ?_
      refine g_daload C X122 (pc' := 20) e122 Ad (by decide) (by decide) 0 (by decide) rfl d4_19 rfl ?_
      refine g_aloadN C X122 (pc' := 21) d4_20 rfl rfl rfl ?_
      refine g_getF C X122 (host := "") (Or.inl (hw _ (List.mem_of_getElem? (i := 18) rfl))) Via.refl e122 F2 d4_21 rfl ?_
      intro T123 X123 e123
      refine g_iloadN C X123 (pc' := 25) d4_24 rfl rfl ?_
      refine g_daload C X123 (pc' := 26) e123 Aw (by decide) (by decide) 1 (by decide) rfl d4_25 rfl ?_
      have D134 : FP.Core.DInt (k0 + i1) (FP.dadd d0 w1) := dadd_D D0 W1 (by show _ ≤ 9007199254740992; omega)
      refine g_dadd C X123 (pc' := 27) d4_26 (nn_of_int D134) rfl ?_
      refine g_dastore C X123 (pc' := 28) e123 Ad (by decide) (by decide) 0 0 (by decide) (of_decide_eq_true rfl) d4_27 rfl ?_
      intro T124 h124 X124 e124 W124 Aq
      have F1 := F1.other W124 (Or.inl n_a)
      have F2 := F2.other W124 (Or.inl n_a)
      have At := At.other W124 n_ta
      have Aw := Aw.other W124 n_aw
      have Z124 : n0 ≤ h124.size := by rw [W124.size]; exact Z120
      have N124 := Fr.snoc X124 N120 z_b
      have P124 := P120.wr W124 (Or.inl (List.mem_of_getElem? (i := 0) rfl))
      have Ad : Arv Z h124 b kd .double (4 : Int32) [(.double (FP.dadd d0 w1)), (.double d1), (.double (FP.dadd d2 w0)), (.double d3)] (.double (0 : UInt64)) := Aq
      refine g_iinc C X124 (pc' := 31) d4_28 rfl (z := (2 : Int32)) (by decide) (l' := #[.val (.ref a), .val (.ref b), .val (.int (2 : Int32))]) rfl rfl ?_
      refine g_goto C X124 d4_31 (pc' := 2) (by decide) (by decide) ?_
      refine g_iloadN C X124 (pc' := 3) d4_2 rfl rfl ?_
      refine g_aloadN C X124 (pc' := 4) d4_3 rfl rfl rfl ?_
      refine g_getF C X124 (host := "") (Or.inl (hw _ (List.mem_of_getElem? (i := 16) rfl))) Via.refl e124 F1 d4_4 rfl ?_
      intro T125 X125 e125
      refine g_len C X125 (pc' := 8) e125 At d4_7 rfl ?_
      refine g_icmpN C X125 d4_8 (by decide) rfl ?_
      refine g_aloadN C X125 (pc' := 12) d4_11 rfl rfl rfl ?_
      refine g_aloadN C X125 (pc' := 13) d4_12 rfl rfl rfl ?_
      refine g_getF C X125 (host := "") (Or.inl (hw _ (List.mem_of_getElem? (i := 16) rfl))) Via.refl e125 F1 d4_13 rfl ?_
      intro T126 X126 e126
      refine g_iloadN C X126 (pc' := 17) d4_16 rfl rfl ?_
      refine g_iaload C X126 (pc' := 18) e126 At (by decide) (by decide) 2 (by decide) rfl d4_17 rfl ?_
      rcases own_one hT.2.2.1 with rfl | rfl | rfl | rfl
      · exact absurd rfl hT.2.2.2.2.2.2.2.1
      · show Go p.tables e below _ T126 (mkF m 18 #[.val (.ref a), .val (.ref b), .val (.int (2 : Int32))] [(.int (1 : Int32)), (.ref b)])
        refine g_dup2 C X126 (pc' := 19) d4_18 rfl rfl rfl ?_
        refine g_daload C X126 (pc' := 20) e126 Ad (by decide) (by decide) 1 (by decide) rfl d4_19 rfl ?_
        refine g_aloadN C X126 (pc' := 21) d4_20 rfl rfl rfl ?_
        refine g_getF C X126 (host := "") (Or.inl (hw _ (List.mem_of_getElem? (i := 18) rfl))) Via.refl e126 F2 d4_21 rfl ?_
        intro T127 X127 e127
        refine g_iloadN C X127 (pc' := 25) d4_24 rfl rfl ?_
        refine g_daload C X127 (pc' := 26) e127 Aw (by decide) (by decide) 2 (by decide) rfl d4_25 rfl ?_
        have D135 : FP.Core.DInt (k1 + i2) (FP.dadd d1 w2) := dadd_D D1 W2 (by show _ ≤ 9007199254740992; omega)
        refine g_dadd C X127 (pc' := 27) d4_26 (nn_of_int D135) rfl ?_
        refine g_dastore C X127 (pc' := 28) e127 Ad (by decide) (by decide) 1 0 (by decide) (of_decide_eq_true rfl) d4_27 rfl ?_
        intro T128 h128 X128 e128 W128 Aq
        have F1 := F1.other W128 (Or.inl n_a)
        have F2 := F2.other W128 (Or.inl n_a)
        have At := At.other W128 n_ta
        have Aw := Aw.other W128 n_aw
        have Z128 : n0 ≤ h128.size := by rw [W128.size]; exact Z124
        have N128 := Fr.snoc X128 N124 z_b
        have P128 := P124.wr W128 (Or.inl (List.mem_of_getElem? (i := 0) rfl))
        have Ad : Arv Z h128 b kd .double (4 : Int32) [(.double (FP.dadd d0 w1)), (.double (FP.dadd d1 w2)), (.double (FP.dadd d2 w0)), (.double d3)] (.double (0 : UInt64)) := Aq
        refine g_iinc C X128 (pc' := 31) d4_28 rfl (z := (3 : Int32)) (by decide) (l' := #[.val (.ref a), .val (.ref b), .val (.int (3 : Int32))]) rfl rfl ?_
        refine g_goto C X128 d4_31 (pc' := 2) (by decide) (by decide) ?_
        refine g_iloadN C X128 (pc' := 3) d4_2 rfl rfl ?_
        refine g_aloadN C X128 (pc' := 4) d4_3 rfl rfl rfl ?_
        refine g_getF C X128 (host := "") (Or.inl (hw _ (List.mem_of_getElem? (i := 16) rfl))) Via.refl e128 F1 d4_4 rfl ?_
        intro T129 X129 e129
        refine g_len C X129 (pc' := 8) e129 At d4_7 rfl ?_
        refine g_icmpN C X129 d4_8 (by decide) rfl ?_
        refine g_aloadN C X129 (pc' := 12) d4_11 rfl rfl rfl ?_
        refine g_aloadN C X129 (pc' := 13) d4_12 rfl rfl rfl ?_
        refine g_getF C X129 (host := "") (Or.inl (hw _ (List.mem_of_getElem? (i := 16) rfl))) Via.refl e129 F1 d4_13 rfl ?_
        intro T130 X130 e130
        refine g_iloadN C X130 (pc' := 17) d4_16 rfl rfl ?_
        refine g_iaload C X130 (pc' := 18) e130 At (by decide) (by decide) 3 (by decide) rfl d4_17 rfl ?_
        rcases own_one hT.2.2.2.1 with rfl | rfl | rfl | rfl
        · exact absurd rfl hT.2.2.2.2.2.2.2.2.1
        · exact absurd rfl hT.2.2.2.2.2.2.2.2.2
        · exact absurd rfl hT.2.2.2.2.2.2.1
        · show Go p.tables e below _ T130 (mkF m 18 #[.val (.ref a), .val (.ref b), .val (.int (3 : Int32))] [(.int (3 : Int32)), (.ref b)])
          refine g_dup2 C X130 (pc' := 19) d4_18 rfl rfl rfl ?_
          refine g_daload C X130 (pc' := 20) e130 Ad (by decide) (by decide) 3 (by decide) rfl d4_19 rfl ?_
          refine g_aloadN C X130 (pc' := 21) d4_20 rfl rfl rfl ?_
          refine g_getF C X130 (host := "") (Or.inl (hw _ (List.mem_of_getElem? (i := 18) rfl))) Via.refl e130 F2 d4_21 rfl ?_
          intro T131 X131 e131
          refine g_iloadN C X131 (pc' := 25) d4_24 rfl rfl ?_
          refine g_daload C X131 (pc' := 26) e131 Aw (by decide) (by decide) 3 (by decide) rfl d4_25 rfl ?_
          have D136 : FP.Core.DInt (k3 + i3) (FP.dadd d3 w3) := dadd_D D3 W3 (by show _ ≤ 9007199254740992; omega)
          refine g_dadd C X131 (pc' := 27) d4_26 (nn_of_int D136) rfl ?_
          refine g_dastore C X131 (pc' := 28) e131 Ad (by decide) (by decide) 3 0 (by decide) (of_decide_eq_true rfl) d4_27 rfl ?_
          intro T132 h132 X132 e132 W132 Aq
          have F1 := F1.other W132 (Or.inl n_a)
          have F2 := F2.other W132 (Or.inl n_a)
          have At := At.other W132 n_ta
          have Aw := Aw.other W132 n_aw
          have Z132 : n0 ≤ h132.size := by rw [W132.size]; exact Z128
          have N132 := Fr.snoc X132 N128 z_b
          have P132 := P128.wr W132 (Or.inl (List.mem_of_getElem? (i := 0) rfl))
          have Ad : Arv Z h132 b kd .double (4 : Int32) [(.double (FP.dadd d0 w1)), (.double (FP.dadd d1 w2)), (.double (FP.dadd d2 w0)), (.double (FP.dadd d3 w3))] (.double (0 : UInt64)) := Aq
          refine g_iinc C X132 (pc' := 31) d4_28 rfl (z := (4 : Int32)) (by decide) (l' := #[.val (.ref a), .val (.ref b), .val (.int (4 : Int32))]) rfl rfl ?_
          refine g_goto C X132 d4_31 (pc' := 2) (by decide) (by decide) ?_
          refine g_iloadN C X132 (pc' := 3) d4_2 rfl rfl ?_
          refine g_aloadN C X132 (pc' := 4) d4_3 rfl rfl rfl ?_
          refine g_getF C X132 (host := "") (Or.inl (hw _ (List.mem_of_getElem? (i := 16) rfl))) Via.refl e132 F1 d4_4 rfl ?_
          intro T133 X133 e133
          refine g_len C X133 (pc' := 8) e133 At d4_7 rfl ?_
          refine g_icmpY C X133 d4_8 (pc' := 34) (by decide) (by decide) (by decide) ?_
          have q0 := own_c0
          have q1 := own_c1
          have q2 := own_c2
          have q3 := own_c3
          have P0 : own_p 4 (2 : Int32) (0 : Int32) (1 : Int32) (3 : Int32) i0 i1 i2 i3 0 i1 := by unfold own_p; refine ⟨fun _ _ => ?_, fun _ _ => ?_, fun _ _ => ?_, fun _ _ => ?_, fun _ _ _ _ => ?_⟩ <;> omega
          have P1 : own_p 4 (2 : Int32) (0 : Int32) (1 : Int32) (3 : Int32) i0 i1 i2 i3 1 i2 := by unfold own_p; refine ⟨fun _ _ => ?_, fun _ _ => ?_, fun _ _ => ?_, fun _ _ => ?_, fun _ _ _ _ => ?_⟩ <;> omega
          have P2 : own_p 4 (2 : Int32) (0 : Int32) (1 : Int32) (3 : Int32) i0 i1 i2 i3 2 i0 := by unfold own_p; refine ⟨fun _ _ => ?_, fun _ _ => ?_, fun _ _ => ?_, fun _ _ => ?_, fun _ _ _ _ => ?_⟩ <;> omega
          have P3 : own_p 4 (2 : Int32) (0 : Int32) (1 : Int32) (3 : Int32) i0 i1 i2 i3 3 i3 := by unfold own_p; refine ⟨fun _ _ => ?_, fun _ _ => ?_, fun _ _ => ?_, fun _ _ => ?_, fun _ _ _ _ => ?_⟩ <;> omega
          exact g_return C X133 d4_34 ⟨rfl, N132, by rw [e133]; exact P132, FP.dadd d0 w1, FP.dadd d1 w2, FP.dadd d2 w0, FP.dadd d3 w3, i1, i2, i0, i3, D134, D135, D133, D136, P0, P1, P2, P3, by rw [e133]; exact Ad⟩ (by decide) (by decide)
      · exact absurd rfl hT.2.2.2.2.2.1
      · show Go p.tables e below _ T126 (mkF m 18 #[.val (.ref a), .val (.ref b), .val (.int (2 : Int32))] [(.int (3 : Int32)), (.ref b)])
        refine g_dup2 C X126 (pc' := 19) d4_18 rfl rfl rfl ?_
        refine g_daload C X126 (pc' := 20) e126 Ad (by decide) (by decide) 3 (by decide) rfl d4_19 rfl ?_
        refine g_aloadN C X126 (pc' := 21) d4_20 rfl rfl rfl ?_
        refine g_getF C X126 (host := "") (Or.inl (hw _ (List.mem_of_getElem? (i := 18) rfl))) Via.refl e126 F2 d4_21 rfl ?_
        intro T134 X134 e134
        refine g_iloadN C X134 (pc' := 25) d4_24 rfl rfl ?_
        refine g_daload C X134 (pc' := 26) e134 Aw (by decide) (by decide) 2 (by decide) rfl d4_25 rfl ?_
        have D137 : FP.Core.DInt (k3 + i2) (FP.dadd d3 w2) := dadd_D D3 W2 (by show _ ≤ 9007199254740992; omega)
        refine g_dadd C X134 (pc' := 27) d4_26 (nn_of_int D137) rfl ?_
        refine g_dastore C X134 (pc' := 28) e134 Ad (by decide) (by decide) 3 0 (by decide) (of_decide_eq_true rfl) d4_27 rfl ?_
        intro T135 h135 X135 e135 W135 Aq
        have F1 := F1.other W135 (Or.inl n_a)
        have F2 := F2.other W135 (Or.inl n_a)
        have At := At.other W135 n_ta
        have Aw := Aw.other W135 n_aw
        have Z135 : n0 ≤ h135.size := by rw [W135.size]; exact Z124
        have N135 := Fr.snoc X135 N124 z_b
        have P135 := P124.wr W135 (Or.inl (List.mem_of_getElem? (i := 0) rfl))
        have Ad : Arv Z h135 b kd .double (4 : Int32) [(.double (FP.dadd d0 w1)), (.double d1), (.double (FP.dadd d2 w0)), (.double (FP.dadd d3 w2))] (.double (0 : UInt64)) := Aq
        refine g_iinc C X135 (pc' := 31) d4_28 rfl (z := (3 : Int32)) (by decide) (l' := #[.val (.ref a), .val (.ref b), .val (.int (3 : Int32))]) rfl rfl ?_
        refine g_goto C X135 d4_31 (pc' := 2) (by decide) (by decide) ?_
        refine g_iloadN C X135 (pc' := 3) d4_2 rfl rfl ?_
        refine g_aloadN C X135 (pc' := 4) d4_3 rfl rfl rfl ?_
        refine g_getF C X135 (host := "") (Or.inl (hw _ (List.mem_of_getElem? (i := 16) rfl))) Via.refl e135 F1 d4_4 rfl ?_
        intro T136 X136 e136
        refine g_len C X136 (pc' := 8) e136 At d4_7 rfl ?_
        refine g_icmpN C X136 d4_8 (by decide) rfl ?_
        refine g_aloadN C X136 (pc' := 12) d4_11 rfl rfl rfl ?_
        refine g_aloadN C X136 (pc' := 13) d4_12 rfl rfl rfl ?_
        refine g_getF C X136 (host := "") (Or.inl (hw _ (List.mem_of_getElem? (i := 16) rfl))) Via.refl e136 F1 d4_13 rfl ?_
        intro T137 X137 e137
        refine g_iloadN C X137 (pc' := 17) d4_16 rfl rfl ?_
        refine g_iaload C X137 (pc' := 18) e137 At (by decide) (by decide) 3 (by decide) rfl d4_17 rfl ?_
        rcases own_one hT.2.2.2.1 with rfl | rfl | rfl | rfl
        · exact absurd rfl hT.2.2.2.2.2.2.2.2.1
        · show Go p.tables e below _ T137 (mkF m 18 #[.val (.ref a), .val (.ref b), .val (.int (3 : Int32))] [(.int (1 : Int32)), (.ref b)])
          refine g_dup2 C X137 (pc' := 19) d4_18 rfl rfl rfl ?_
          refine g_daload C X137 (pc' := 20) e137 Ad (by decide) (by decide) 1 (by decide) rfl d4_19 rfl ?_
          refine g_aloadN C X137 (pc' := 21) d4_20 rfl rfl rfl ?_
          refine g_getF C X137 (host := "") (Or.inl (hw _ (List.mem_of_getElem? (i := 18) rfl))) Via.refl e137 F2 d4_21 rfl ?_
          intro T138 X138 e138
          refine g_iloadN C X138 (pc' := 25) d4_24 rfl rfl ?_
          refine g_daload C X138 (pc' := 26) e138 Aw (by decide) (by decide) 3 (by decide) rfl d4_25 rfl ?_
          have D138 : FP.Core.DInt (k1 + i3) (FP.dadd d1 w3) := dadd_D D1 W3 (by show _ ≤ 9007199254740992; omega)
          refine g_dadd C X138 (pc' := 27) d4_26 (nn_of_int D138) rfl ?_
          refine g_dastore C X138 (pc' := 28) e138 Ad (by decide) (by decide) 1 0 (by decide) (of_decide_eq_true rfl) d4_27 rfl ?_
          intro T139 h139 X139 e139 W139 Aq
          have F1 := F1.other W139 (Or.inl n_a)
          have F2 := F2.other W139 (Or.inl n_a)
          have At := At.other W139 n_ta
          have Aw := Aw.other W139 n_aw
          have Z139 : n0 ≤ h139.size := by rw [W139.size]; exact Z135
          have N139 := Fr.snoc X139 N135 z_b
          have P139 := P135.wr W139 (Or.inl (List.mem_of_getElem? (i := 0) rfl))
          have Ad : Arv Z h139 b kd .double (4 : Int32) [(.double (FP.dadd d0 w1)), (.double (FP.dadd d1 w3)), (.double (FP.dadd d2 w0)), (.double (FP.dadd d3 w2))] (.double (0 : UInt64)) := Aq
          refine g_iinc C X139 (pc' := 31) d4_28 rfl (z := (4 : Int32)) (by decide) (l' := #[.val (.ref a), .val (.ref b), .val (.int (4 : Int32))]) rfl rfl ?_
          refine g_goto C X139 d4_31 (pc' := 2) (by decide) (by decide) ?_
          refine g_iloadN C X139 (pc' := 3) d4_2 rfl rfl ?_
          refine g_aloadN C X139 (pc' := 4) d4_3 rfl rfl rfl ?_
          refine g_getF C X139 (host := "") (Or.inl (hw _ (List.mem_of_getElem? (i := 16) rfl))) Via.refl e139 F1 d4_4 rfl ?_
          intro T140 X140 e140
          refine g_len C X140 (pc' := 8) e140 At d4_7 rfl ?_
          refine g_icmpY C X140 d4_8 (pc' := 34) (by decide) (by decide) (by decide) ?_
          have q0 := own_c0
          have q1 := own_c1
          have q2 := own_c2
          have q3 := own_c3
          have P0 : own_p 4 (2 : Int32) (0 : Int32) (3 : Int32) (1 : Int32) i0 i1 i2 i3 0 i1 := by unfold own_p; refine ⟨fun _ _ => ?_, fun _ _ => ?_, fun _ _ => ?_, fun _ _ => ?_, fun _ _ _ _ => ?_⟩ <;> omega
          have P1 : own_p 4 (2 : Int32) (0 : Int32) (3 : Int32) (1 : Int32) i0 i1 i2 i3 1 i3 := by unfold own_p; refine ⟨fun _ _ => ?_, fun _ _ => ?_, fun _ _ => ?_, fun _ _ => ?_, fun _ _ _ _ => ?_⟩ <;> omega
          have P2 : own_p 4 (2 : Int32) (0 : Int32) (3 : Int32) (1 : Int32) i0 i1 i2 i3 2 i0 := by unfold own_p; refine ⟨fun _ _ => ?_, fun _ _ => ?_, fun _ _ => ?_, fun _ _ => ?_, fun _ _ _ _ => ?_⟩ <;> omega
          have P3 : own_p 4 (2 : Int32) (0 : Int32) (3 : Int32) (1 : Int32) i0 i1 i2 i3 3 i2 := by unfold own_p; refine ⟨fun _ _ => ?_, fun _ _ => ?_, fun _ _ => ?_, fun _ _ => ?_, fun _ _ _ _ => ?_⟩ <;> omega
          exact g_return C X140 d4_34 ⟨rfl, N139, by rw [e140]; exact P139, FP.dadd d0 w1, FP.dadd d1 w3, FP.dadd d2 w0, FP.dadd d3 w2, i1, i3, i0, i2, D134, D138, D133, D137, P0, P1, P2, P3, by rw [e140]; exact Ad⟩ (by decide) (by decide)
        · exact absurd rfl hT.2.2.2.2.2.2.1
        · exact absurd rfl hT.2.2.2.2.2.2.2.2.2
    · show Go p.tables e below _ T122 (mkF m 18 #[.val (.ref a), .val (.ref b), .val (.int (1 : Int32))] [(.int (1 : Int32)), (.ref b)])
      refine g_dup2 C X122 (pc' := 19) d4_18 rfl rfl rfl ?_
      refine g_daload C X122 (pc' := 20) e122 Ad (by decide) (by decide) 1 (by decide) rfl d4_19 rfl ?_
      refine g_aloadN C X122 (pc' := 21) d4_20 rfl rfl rfl ?_
      refine g_getF C X122 (host := "") (Or.inl (hw _ (List.mem_of_getElem? (i := 18) rfl))) Via.refl e122 F2 d4_21 rfl ?_
      intro T141 X141 e141
      refine g_iloadN C X141 (pc' := 25) d4_24 rfl rfl ?_
      refine g_daload C X141 (pc' := 26) e141 Aw (by decide) (by decide) 1 (by decide) rfl d4_25 rfl ?_
      have D139 : FP.Core.DInt (k1 + i1) (FP.dadd d1 w1) := dadd_D D1 W1 (by show _ ≤ 9007199254740992; omega)
      refine g_dadd C X141 (pc' := 27) d4_26 (nn_of_int D139) rfl ?_
      refine g_dastore C X141 (pc' := 28) e141 Ad (by decide) (by decide) 1 0 (by decide) (of_decide_eq_true rfl) d4_27 rfl ?_
      intro T142 h142 X142 e142 W142 Aq
      have F1 := F1.other W142 (Or.inl n_a)
      have F2 := F2.other W142 (Or.inl n_a)
      have At := At.other W142 n_ta
      have Aw := Aw.other W142 n_aw
      have Z142 : n0 ≤ h142.size := by rw [W142.size]; exact Z120
      have N142 := Fr.snoc X142 N120 z_b
      have P142 := P120.wr W142 (Or.inl (List.mem_of_getElem? (i := 0) rfl))
      have Ad : Arv Z h142 b kd .double (4 : Int32) [(.double d0), (.double (FP.dadd d1 w1)), (.double (FP.dadd d2 w0)), (.double d3)] (.double (0 : UInt64)) := Aq
      refine g_iinc C X142 (pc' := 31) d4_28 rfl (z := (2 : Int32)) (by decide) (l' := #[.val (.ref a), .val (.ref b), .val (.int (2 : Int32))]) rfl rfl ?_
      refine g_goto C X142 d4_31 (pc' := 2) (by decide) (by decide) ?_
      refine g_iloadN C X142 (pc' := 3) d4_2 rfl rfl ?_
      refine g_aloadN C X142 (pc' := 4) d4_3 rfl rfl rfl ?_
      refine g_getF C X142 (host := "") (Or.inl (hw _ (List.mem_of_getElem? (i := 16) rfl))) Via.refl e142 F1 d4_4 rfl ?_
      intro T143 X143 e143
      refine g_len C X143 (pc' := 8) e143 At d4_7 rfl ?_
      refine g_icmpN C X143 d4_8 (by decide) rfl ?_
      refine g_aloadN C X143 (pc' := 12) d4_11 rfl rfl rfl ?_
      refine g_aloadN C X143 (pc' := 13) d4_12 rfl rfl rfl ?_
      refine g_getF C X143 (host := "") (Or.inl (hw _ (List.mem_of_getElem? (i := 16) rfl))) Via.refl e143 F1 d4_13 rfl ?_
      intro T144 X144 e144
      refine g_iloadN C X144 (pc' := 17) d4_16 rfl rfl ?_
      refine g_iaload C X144 (pc' := 18) e144 At (by decide) (by decide) 2 (by decide) rfl d4_17 rfl ?_
      rcases own_one hT.2.2.1 with rfl | rfl | rfl | rfl
      · show Go p.tables e below _ T144 (mkF m 18 #[.val (.ref a), .val (.ref b), .val (.int (2 : Int32))] [(.int (0 : Int32)), (.ref b)])
        refine g_dup2 C X144 (pc' := 19) d4_18 rfl rfl rfl ?_
        refine g_daload C X144 (pc' := 20) e144 Ad (by decide) (by decide) 0 (by decide) rfl d4_19 rfl ?_
        refine g_aloadN C X144 (pc' := 21) d4_20 rfl rfl rfl ?_
        refine g_getF C X144 (host := "") (Or.inl (hw _ (List.mem_of_getElem? (i := 18) rfl))) Via.refl e144 F2 d4_21 rfl ?_
        intro T145 X145 e145
        refine g_iloadN C X145 (pc' := 25) d4_24 rfl rfl ?_
        refine g_daload C X145 (pc' := 26) e145 Aw (by decide) (by decide) 2 (by decide) rfl d4_25 rfl ?_
        have D140 : FP.Core.DInt (k0 + i2) (FP.dadd d0 w2) := dadd_D D0 W2 (by show _ ≤ 9007199254740992; omega)
        refine g_dadd C X145 (pc' := 27) d4_26 (nn_of_int D140) rfl ?_
        refine g_dastore C X145 (pc' := 28) e145 Ad (by decide) (by decide) 0 0 (by decide) (of_decide_eq_true rfl) d4_27 rfl ?_
        intro T146 h146 X146 e146 W146 Aq
        have F1 := F1.other W146 (Or.inl n_a)
        have F2 := F2.other W146 (Or.inl n_a)
        have At := At.other W146 n_ta
        have Aw := Aw.other W146 n_aw
        have Z146 : n0 ≤ h146.size := by rw [W146.size]; exact Z142
        have N146 := Fr.snoc X146 N142 z_b
        have P146 := P142.wr W146 (Or.inl (List.mem_of_getElem? (i := 0) rfl))
        have Ad : Arv Z h146 b kd .double (4 : Int32) [(.double (FP.dadd d0 w2)), (.double (FP.dadd d1 w1)), (.double (FP.dadd d2 w0)), (.double d3)] (.double (0 : UInt64)) := Aq
        refine g_iinc C X146 (pc' := 31) d4_28 rfl (z := (3 : Int32)) (by decide) (l' := #[.val (.ref a), .val (.ref b), .val (.int (3 : Int32))]) rfl rfl ?_
        refine g_goto C X146 d4_31 (pc' := 2) (by decide) (by decide) ?_
        refine g_iloadN C X146 (pc' := 3) d4_2 rfl rfl ?_
        refine g_aloadN C X146 (pc' := 4) d4_3 rfl rfl rfl ?_
        refine g_getF C X146 (host := "") (Or.inl (hw _ (List.mem_of_getElem? (i := 16) rfl))) Via.refl e146 F1 d4_4 rfl ?_
        intro T147 X147 e147
        refine g_len C X147 (pc' := 8) e147 At d4_7 rfl ?_
        refine g_icmpN C X147 d4_8 (by decide) rfl ?_
        refine g_aloadN C X147 (pc' := 12) d4_11 rfl rfl rfl ?_
        refine g_aloadN C X147 (pc' := 13) d4_12 rfl rfl rfl ?_
        refine g_getF C X147 (host := "") (Or.inl (hw _ (List.mem_of_getElem? (i := 16) rfl))) Via.refl e147 F1 d4_13 rfl ?_
        intro T148 X148 e148
        refine g_iloadN C X148 (pc' := 17) d4_16 rfl rfl ?_
        refine g_iaload C X148 (pc' := 18) e148 At (by decide) (by decide) 3 (by decide) rfl d4_17 rfl ?_
        rcases own_one hT.2.2.2.1 with rfl | rfl | rfl | rfl
        · exact absurd rfl hT.2.2.2.2.2.2.2.2.2
        · exact absurd rfl hT.2.2.2.2.2.2.2.2.1
        · exact absurd rfl hT.2.2.2.2.2.2.1
        · show Go p.tables e below _ T148 (mkF m 18 #[.val (.ref a), .val (.ref b), .val (.int (3 : Int32))] [(.int (3 : Int32)), (.ref b)])
          refine g_dup2 C X148 (pc' := 19) d4_18 rfl rfl rfl ?_
          refine g_daload C X148 (pc' := 20) e148 Ad (by decide) (by decide) 3 (by decide) rfl d4_19 rfl ?_
          refine g_aloadN C X148 (pc' := 21) d4_20 rfl rfl rfl ?_
          refine g_getF C X148 (host := "") (Or.inl (hw _ (List.mem_of_getElem? (i := 18) rfl))) Via.refl e148 F2 d4_21 rfl ?_
          intro T149 X149 e149
          refine g_iloadN C X149 (pc' := 25) d4_24 rfl rfl ?_
          refine g_daload C X149 (pc' := 26) e149 Aw (by decide) (by decide) 3 (by decide) rfl d4_25 rfl ?_
          have D141 : FP.Core.DInt (k3 + i3) (FP.dadd d3 w3) := dadd_D D3 W3 (by show _ ≤ 9007199254740992; omega)
          refine g_dadd C X149 (pc' := 27) d4_26 (nn_of_int D141) rfl ?_
          refine g_dastore C X149 (pc' := 28) e149 Ad (by decide) (by decide) 3 0 (by decide) (of_decide_eq_true rfl) d4_27 rfl ?_
          intro T150 h150 X150 e150 W150 Aq
          have F1 := F1.other W150 (Or.inl n_a)
          have F2 := F2.other W150 (Or.inl n_a)
          have At := At.other W150 n_ta
          have Aw := Aw.other W150 n_aw
          have Z150 : n0 ≤ h150.size := by rw [W150.size]; exact Z146
          have N150 := Fr.snoc X150 N146 z_b
          have P150 := P146.wr W150 (Or.inl (List.mem_of_getElem? (i := 0) rfl))
          have Ad : Arv Z h150 b kd .double (4 : Int32) [(.double (FP.dadd d0 w2)), (.double (FP.dadd d1 w1)), (.double (FP.dadd d2 w0)), (.double (FP.dadd d3 w3))] (.double (0 : UInt64)) := Aq
          refine g_iinc C X150 (pc' := 31) d4_28 rfl (z := (4 : Int32)) (by decide) (l' := #[.val (.ref a), .val (.ref b), .val (.int (4 : Int32))]) rfl rfl ?_
          refine g_goto C X150 d4_31 (pc' := 2) (by decide) (by decide) ?_
          refine g_iloadN C X150 (pc' := 3) d4_2 rfl rfl ?_
          refine g_aloadN C X150 (pc' := 4) d4_3 rfl rfl rfl ?_
          refine g_getF C X150 (host := "") (Or.inl (hw _ (List.mem_of_getElem? (i := 16) rfl))) Via.refl e150 F1 d4_4 rfl ?_
          intro T151 X151 e151
          refine g_len C X151 (pc' := 8) e151 At d4_7 rfl ?_
          refine g_icmpY C X151 d4_8 (pc' := 34) (by decide) (by decide) (by decide) ?_
          have q0 := own_c0
          have q1 := own_c1
          have q2 := own_c2
          have q3 := own_c3
          have P0 : own_p 4 (2 : Int32) (1 : Int32) (0 : Int32) (3 : Int32) i0 i1 i2 i3 0 i2 := by unfold own_p; refine ⟨fun _ _ => ?_, fun _ _ => ?_, fun _ _ => ?_, fun _ _ => ?_, fun _ _ _ _ => ?_⟩ <;> omega
          have P1 : own_p 4 (2 : Int32) (1 : Int32) (0 : Int32) (3 : Int32) i0 i1 i2 i3 1 i1 := by unfold own_p; refine ⟨fun _ _ => ?_, fun _ _ => ?_, fun _ _ => ?_, fun _ _ => ?_, fun _ _ _ _ => ?_⟩ <;> omega
          have P2 : own_p 4 (2 : Int32) (1 : Int32) (0 : Int32) (3 : Int32) i0 i1 i2 i3 2 i0 := by unfold own_p; refine ⟨fun _ _ => ?_, fun _ _ => ?_, fun _ _ => ?_, fun _ _ => ?_, fun _ _ _ _ => ?_⟩ <;> omega
          have P3 : own_p 4 (2 : Int32) (1 : Int32) (0 : Int32) (3 : Int32) i0 i1 i2 i3 3 i3 := by unfold own_p; refine ⟨fun _ _ => ?_, fun _ _ => ?_, fun _ _ => ?_, fun _ _ => ?_, fun _ _ _ _ => ?_⟩ <;> omega
          exact g_return C X151 d4_34 ⟨rfl, N150, by rw [e151]; exact P150, FP.dadd d0 w2, FP.dadd d1 w1, FP.dadd d2 w0, FP.dadd d3 w3, i2, i1, i0, i3, D140, D139, D133, D141, P0, P1, P2, P3, by rw [e151]; exact Ad⟩ (by decide) (by decide)
      · exact absurd rfl hT.2.2.2.2.2.2.2.1
      · exact absurd rfl hT.2.2.2.2.2.1
      · show Go p.tables e below _ T144 (mkF m 18 #[.val (.ref a), .val (.ref b), .val (.int (2 : Int32))] [(.int (3 : Int32)), (.ref b)])
        refine g_dup2 C X144 (pc' := 19) d4_18 rfl rfl rfl ?_
        refine g_daload C X144 (pc' := 20) e144 Ad (by decide) (by decide) 3 (by decide) rfl d4_19 rfl ?_
        refine g_aloadN C X144 (pc' := 21) d4_20 rfl rfl rfl ?_
        refine g_getF C X144 (host := "") (Or.inl (hw _ (List.mem_of_getElem? (i := 18) rfl))) Via.refl e144 F2 d4_21 rfl ?_
        intro T152 X152 e152
        refine g_iloadN C X152 (pc' := 25) d4_24 rfl rfl ?_
        refine g_daload C X152 (pc' := 26) e152 Aw (by decide) (by decide) 2 (by decide) rfl d4_25 rfl ?_
        have D142 : FP.Core.DInt (k3 + i2) (FP.dadd d3 w2) := dadd_D D3 W2 (by show _ ≤ 9007199254740992; omega)
        refine g_dadd C X152 (pc' := 27) d4_26 (nn_of_int D142) rfl ?_
        refine g_dastore C X152 (pc' := 28) e152 Ad (by decide) (by decide) 3 0 (by decide) (of_decide_eq_true rfl) d4_27 rfl ?_
        intro T153 h153 X153 e153 W153 Aq
        have F1 := F1.other W153 (Or.inl n_a)
        have F2 := F2.other W153 (Or.inl n_a)
        have At := At.other W153 n_ta
        have Aw := Aw.other W153 n_aw
        have Z153 : n0 ≤ h153.size := by rw [W153.size]; exact Z142
        have N153 := Fr.snoc X153 N142 z_b
        have P153 := P142.wr W153 (Or.inl (List.mem_of_getElem? (i := 0) rfl))
        have Ad : Arv Z h153 b kd .double (4 : Int32) [(.double d0), (.double (FP.dadd d1 w1)), (.double (FP.dadd d2 w0)), (.double (FP.dadd d3 w2))] (.double (0 : UInt64)) := Aq
        refine g_iinc C X153 (pc' := 31) d4_28 rfl (z := (3 : Int32)) (by decide) (l' := #[.val (.ref a), .val (.ref b), .val (.int (3 : Int32))]) rfl rfl ?_
        refine g_goto C X153 d4_31 (pc' := 2) (by decide) (by decide) ?_
        refine g_iloadN C X153 (pc' := 3) d4_2 rfl rfl ?_
        refine g_aloadN C X153 (pc' := 4) d4_3 rfl rfl rfl ?_
        refine g_getF C X153 (host := "") (Or.inl (hw _ (List.mem_of_getElem? (i := 16) rfl))) Via.refl e153 F1 d4_4 rfl ?_
        intro T154 X154 e154
        refine g_len C X154 (pc' := 8) e154 At d4_7 rfl ?_
        refine g_icmpN C X154 d4_8 (by decide) rfl ?_
        refine g_aloadN C X154 (pc' := 12) d4_11 rfl rfl rfl ?_
        refine g_aloadN C X154 (pc' := 13) d4_12 rfl rfl rfl ?_
        refine g_getF C X154 (host := "") (Or.inl (hw _ (List.mem_of_getElem? (i := 16) rfl))) Via.refl e154 F1 d4_13 rfl ?_
        intro T155 X155 e155
        refine g_iloadN C X155 (pc' := 17) d4_16 rfl rfl ?_
        refine g_iaload C X155 (pc' := 18) e155 At (by decide) (by decide) 3 (by decide) rfl d4_17 rfl ?_
        rcases own_one hT.2.2.2.1 with rfl | rfl | rfl | rfl
        · show Go p.tables e below _ T155 (mkF m 18 #[.val (.ref a), .val (.ref b), .val (.int (3 : Int32))] [(.int (0 : Int32)), (.ref b)])
          refine g_dup2 C X155 (pc' := 19) d4_18 rfl rfl rfl ?_
          refine g_daload C X155 (pc' := 20) e155 Ad (by decide) (by decide) 0 (by decide) rfl d4_19 rfl ?_
          refine g_aloadN C X155 (pc' := 21) d4_20 rfl rfl rfl ?_
          refine g_getF C X155 (host := "") (Or.inl (hw _ (List.mem_of_getElem? (i := 18) rfl))) Via.refl e155 F2 d4_21 rfl ?_
          intro T156 X156 e156
          refine g_iloadN C X156 (pc' := 25) d4_24 rfl rfl ?_
          refine g_daload C X156 (pc' := 26) e156 Aw (by decide) (by decide) 3 (by decide) rfl d4_25 rfl ?_
          have D143 : FP.Core.DInt (k0 + i3) (FP.dadd d0 w3) := dadd_D D0 W3 (by show _ ≤ 9007199254740992; omega)
          refine g_dadd C X156 (pc' := 27) d4_26 (nn_of_int D143) rfl ?_
          refine g_dastore C X156 (pc' := 28) e156 Ad (by decide) (by decide) 0 0 (by decide) (of_decide_eq_true rfl) d4_27 rfl ?_
          intro T157 h157 X157 e157 W157 Aq
          have F1 := F1.other W157 (Or.inl n_a)
          have F2 := F2.other W157 (Or.inl n_a)
          have At := At.other W157 n_ta
          have Aw := Aw.other W157 n_aw
          have Z157 : n0 ≤ h157.size := by rw [W157.size]; exact Z153
          have N157 := Fr.snoc X157 N153 z_b
          have P157 := P153.wr W157 (Or.inl (List.mem_of_getElem? (i := 0) rfl))
          have Ad : Arv Z h157 b kd .double (4 : Int32) [(.double (FP.dadd d0 w3)), (.double (FP.dadd d1 w1)), (.double (FP.dadd d2 w0)), (.double (FP.dadd d3 w2))] (.double (0 : UInt64)) := Aq
          refine g_iinc C X157 (pc' := 31) d4_28 rfl (z := (4 : Int32)) (by decide) (l' := #[.val (.ref a), .val (.ref b), .val (.int (4 : Int32))]) rfl rfl ?_
          refine g_goto C X157 d4_31 (pc' := 2) (by decide) (by decide) ?_
          refine g_iloadN C X157 (pc' := 3) d4_2 rfl rfl ?_
          refine g_aloadN C X157 (pc' := 4) d4_3 rfl rfl rfl ?_
          refine g_getF C X157 (host := "") (Or.inl (hw _ (List.mem_of_getElem? (i := 16) rfl))) Via.refl e157 F1 d4_4 rfl ?_
          intro T158 X158 e158
          refine g_len C X158 (pc' := 8) e158 At d4_7 rfl ?_
          refine g_icmpY C X158 d4_8 (pc' := 34) (by decide) (by decide) (by decide) ?_
          have q0 := own_c0
          have q1 := own_c1
          have q2 := own_c2
          have q3 := own_c3
          have P0 : own_p 4 (2 : Int32) (1 : Int32) (3 : Int32) (0 : Int32) i0 i1 i2 i3 0 i3 := by unfold own_p; refine ⟨fun _ _ => ?_, fun _ _ => ?_, fun _ _ => ?_, fun _ _ => ?_, fun _ _ _ _ => ?_⟩ <;> omega
          have P1 : own_p 4 (2 : Int32) (1 : Int32) (3 : Int32) (0 : Int32) i0 i1 i2 i3 1 i1 := by unfold own_p; refine ⟨fun _ _ => ?_, fun _ _ => ?_, fun _ _ => ?_, fun _ _ => ?_, fun _ _ _ _ => ?_⟩ <;> omega
          have P2 : own_p 4 (2 : Int32) (1 : Int32) (3 : Int32) (0 : Int32) i0 i1 i2 i3 2 i0 := by unfold own_p; refine ⟨fun _ _ => ?_, fun _ _ => ?_, fun _ _ => ?_, fun _ _ => ?_, fun _ _ _ _ => ?_⟩ <;> omega
          have P3 : own_p 4 (2 : Int32) (1 : Int32) (3 : Int32) (0 : Int32) i0 i1 i2 i3 3 i2 := by unfold own_p; refine ⟨fun _ _ => ?_, fun _ _ => ?_, fun _ _ => ?_, fun _ _ => ?_, fun _ _ _ _ => ?_⟩ <;> omega
          exact g_return C X158 d4_34 ⟨rfl, N157, by rw [e158]; exact P157, FP.dadd d0 w3, FP.dadd d1 w1, FP.dadd d2 w0, FP.dadd d3 w2, i3, i1, i0, i2, D143, D139, D133, D142, P0, P1, P2, P3, by rw [e158]; exact Ad⟩ (by decide) (by decide)
        · exact absurd rfl hT.2.2.2.2.2.2.2.2.1
        · exact absurd rfl hT.2.2.2.2.2.2.1
        · exact absurd rfl hT.2.2.2.2.2.2.2.2.2
    · exact absurd rfl hT.2.2.2.2.1
    · show Go p.tables e below _ T122 (mkF m 18 #[.val (.ref a), .val (.ref b), .val (.int (1 : Int32))] [(.int (3 : Int32)), (.ref b)])
      refine g_dup2 C X122 (pc' := 19) d4_18 rfl rfl rfl ?_
      refine g_daload C X122 (pc' := 20) e122 Ad (by decide) (by decide) 3 (by decide) rfl d4_19 rfl ?_
      refine g_aloadN C X122 (pc' := 21) d4_20 rfl rfl rfl ?_
      refine g_getF C X122 (host := "") (Or.inl (hw _ (List.mem_of_getElem? (i := 18) rfl))) Via.refl e122 F2 d4_21 rfl ?_
      intro T159 X159 e159
      refine g_iloadN C X159 (pc' := 25) d4_24 rfl rfl ?_
      refine g_daload C X159 (pc' := 26) e159 Aw (by decide) (by decide) 1 (by decide) rfl d4_25 rfl ?_
      have D144 : FP.Core.DInt (k3 + i1) (FP.dadd d3 w1) := dadd_D D3 W1 (by show _ ≤ 9007199254740992; omega)
      refine g_dadd C X159 (pc' := 27) d4_26 (nn_of_int D144) rfl ?_
      refine g_dastore C X159 (pc' := 28) e159 Ad (by decide) (by decide) 3 0 (by decide) (of_decide_eq_true rfl) d4_27 rfl ?_
      intro T160 h160 X160 e160 W160 Aq
      have F1 := F1.other W160 (Or.inl n_a)
      have F2 := F2.other W160 (Or.inl n_a)
      have At := At.other W160 n_ta
      have Aw := Aw.other W160 n_aw
      have Z160 : n0 ≤ h160.size := by rw [W160.size]; exact Z120
      have N160 := Fr.snoc X160 N120 z_b
      have P160 := P120.wr W160 (Or.inl (List.mem_of_getElem? (i := 0) rfl))
      have Ad : Arv Z h160 b kd .double (4 : Int32) [(.double d0), (.double d1), (.double (FP.dadd d2 w0)), (.double (FP.dadd d3 w1))] (.double (0 : UInt64)) := Aq
      refine g_iinc C X160 (pc' := 31) d4_28 rfl (z := (2 : Int32)) (by decide) (l' := #[.val (.ref a), .val (.ref b), .val (.int (2 : Int32))]) rfl rfl ?_
      refine g_goto C X160 d4_31 (pc' := 2) (by decide) (by decide) ?_
      refine g_iloadN C X160 (pc' := 3) d4_2 rfl rfl ?_
      refine g_aloadN C X160 (pc' := 4) d4_3 rfl rfl rfl ?_
      refine g_getF C X160 (host := "") (Or.inl (hw _ (List.mem_of_getElem? (i := 16) rfl))) Via.refl e160 F1 d4_4 rfl ?_
      intro T161 X161 e161
      refine g_len C X161 (pc' := 8) e161 At d4_7 rfl ?_
      refine g_icmpN C X161 d4_8 (by decide) rfl ?_
      refine g_aloadN C X161 (pc' := 12) d4_11 rfl rfl rfl ?_
      refine g_aloadN C X161 (pc' := 13) d4_12 rfl rfl rfl ?_
      refine g_getF C X161 (host := "") (Or.inl (hw _ (List.mem_of_getElem? (i := 16) rfl))) Via.refl e161 F1 d4_13 rfl ?_
      intro T162 X162 e162
      refine g_iloadN C X162 (pc' := 17) d4_16 rfl rfl ?_
      refine g_iaload C X162 (pc' := 18) e162 At (by decide) (by decide) 2 (by decide) rfl d4_17 rfl ?_
      rcases own_one hT.2.2.1 with rfl | rfl | rfl | rfl
      · show Go p.tables e below _ T162 (mkF m 18 #[.val (.ref a), .val (.ref b), .val (.int (2 : Int32))] [(.int (0 : Int32)), (.ref b)])
        refine g_dup2 C X162 (pc' := 19) d4_18 rfl rfl rfl ?_
        refine g_daload C X162 (pc' := 20) e162 Ad (by decide) (by decide) 0 (by decide) rfl d4_19 rfl ?_
        refine g_aloadN C X162 (pc' := 21) d4_20 rfl rfl rfl ?_
        refine g_getF C X162 (host := "") (Or.inl (hw _ (List.mem_of_getElem? (i := 18) rfl))) Via.refl e162 F2 d4_21 rfl ?_
        intro T163 X163 e163
        refine g_iloadN C X163 (pc' := 25) d4_24 rfl rfl ?_
        refine g_daload C X163 (pc' := 26) e163 Aw (by decide) (by decide) 2 (by decide) rfl d4_25 rfl ?_
        have D145 : FP.Core.DInt (k0 + i2) (FP.dadd d0 w2) := dadd_D D0 W2 (by show _ ≤ 9007199254740992; omega)
        refine g_dadd C X163 (pc' := 27) d4_26 (nn_of_int D145) rfl ?_
        refine g_dastore C X163 (pc' := 28) e163 Ad (by decide) (by decide) 0 0 (by decide) (of_decide_eq_true rfl) d4_27 rfl ?_
        intro T164 h164 X164 e164 W164 Aq
        have F1 := F1.other W164 (Or.inl n_a)
        have F2 := F2.other W164 (Or.inl n_a)
        have At := At.other W164 n_ta
        have Aw := Aw.other W164 n_aw
        have Z164 : n0 ≤ h164.size := by rw [W164.size]; exact Z160
        have N164 := Fr.snoc X164 N160 z_b
        have P164 := P160.wr W164 (Or.inl (List.mem_of_getElem? (i := 0) rfl))
        have Ad : Arv Z h164 b kd .double (4 : Int32) [(.double (FP.dadd d0 w2)), (.double d1), (.double (FP.dadd d2 w0)), (.double (FP.dadd d3 w1))] (.double (0 : UInt64)) := Aq
        refine g_iinc C X164 (pc' := 31) d4_28 rfl (z := (3 : Int32)) (by decide) (l' := #[.val (.ref a), .val (.ref b), .val (.int (3 : Int32))]) rfl rfl ?_
        refine g_goto C X164 d4_31 (pc' := 2) (by decide) (by decide) ?_
        refine g_iloadN C X164 (pc' := 3) d4_2 rfl rfl ?_
        refine g_aloadN C X164 (pc' := 4) d4_3 rfl rfl rfl ?_
        refine g_getF C X164 (host := "") (Or.inl (hw _ (List.mem_of_getElem? (i := 16) rfl))) Via.refl e164 F1 d4_4 rfl ?_
        intro T165 X165 e165
        refine g_len C X165 (pc' := 8) e165 At d4_7 rfl ?_
        refine g_icmpN C X165 d4_8 (by decide) rfl ?_
        refine g_aloadN C X165 (pc' := 12) d4_11 rfl rfl rfl ?_
        refine g_aloadN C X165 (pc' := 13) d4_12 rfl rfl rfl ?_
        refine g_getF C X165 (host := "") (Or.inl (hw _ (List.mem_of_getElem? (i := 16) rfl))) Via.refl e165 F1 d4_13 rfl ?_
        intro T166 X166 e166
        refine g_iloadN C X166 (pc' := 17) d4_16 rfl rfl ?_
        refine g_iaload C X166 (pc' := 18) e166 At (by decide) (by decide) 3 (by decide) rfl d4_17 rfl ?_
        rcases own_one hT.2.2.2.1 with rfl | rfl | rfl | rfl
        · exact absurd rfl hT.2.2.2.2.2.2.2.2.2
        · show Go p.tables e below _ T166 (mkF m 18 #[.val (.ref a), .val (.ref b), .val (.int (3 : Int32))] [(.int (1 : Int32)), (.ref b)])
          refine g_dup2 C X166 (pc' := 19) d4_18 rfl rfl rfl ?_
          refine g_daload C X166 (pc' := 20) e166 Ad (by decide) (by decide) 1 (by decide) rfl d4_19 rfl ?_
          refine g_aloadN C X166 (pc' := 21) d4_20 rfl rfl rfl ?_
          refine g_getF C X166 (host := "") (Or.inl (hw _ (List.mem_of_getElem? (i := 18) rfl))) Via.refl e166 F2 d4_21 rfl ?_
          intro T167 X167 e167
          refine g_iloadN C X167 (pc' := 25) d4_24 rfl rfl ?_
          refine g_daload C X167 (pc' := 26) e167 Aw (by decide) (by decide) 3 (by decide) rfl d4_25 rfl ?_
          have D146 : FP.Core.DInt (k1 + i3) (FP.dadd d1 w3) := dadd_D D1 W3 (by show _ ≤ 9007199254740992; omega)
          refine g_dadd C X167 (pc' := 27) d4_26 (nn_of_int D146) rfl ?_
          refine g_dastore C X167 (pc' := 28) e167 Ad (by decide) (by decide) 1 0 (by decide) (of_decide_eq_true rfl) d4_27 rfl ?_
          intro T168 h168 X168 e168 W168 Aq
          have F1 := F1.other W168 (Or.inl n_a)
          have F2 := F2.other W168 (Or.inl n_a)
          have At := At.other W168 n_ta
          have Aw := Aw.other W168 n_aw
          have Z168 : n0 ≤ h168.size := by rw [W168.size]; exact Z164
          have N168 := Fr.snoc X168 N164 z_b
          have P168 := P164.wr W168 (Or.inl (List.mem_of_getElem? (i := 0) rfl))
          have Ad : Arv Z h168 b kd .double (4 : Int32) [(.double (FP.dadd d0 w2)), (.double (FP.dadd d1 w3)), (.double (FP.dadd d2 w0)), (.double (FP.dadd d3 w1))] (.double (0 : UInt64)) := Aq
          refine g_iinc C X168 (pc' := 31) d4_28 rfl (z := (4 : Int32)) (by decide) (l' := #[.val (.ref a), .val (.ref b), .val (.int (4 : Int32))]) rfl rfl ?_
          refine g_goto C X168 d4_31 (pc' := 2) (by decide) (by decide) ?_
          refine g_iloadN C X168 (pc' := 3) d4_2 rfl rfl ?_
          refine g_aloadN C X168 (pc' := 4) d4_3 rfl rfl rfl ?_
          refine g_getF C X168 (host := "") (Or.inl (hw _ (List.mem_of_getElem? (i := 16) rfl))) Via.refl e168 F1 d4_4 rfl ?_
          intro T169 X169 e169
          refine g_len C X169 (pc' := 8) e169 At d4_7 rfl ?_
          refine g_icmpY C X169 d4_8 (pc' := 34) (by decide) (by decide) (by decide) ?_
          have q0 := own_c0
          have q1 := own_c1
          have q2 := own_c2
          have q3 := own_c3
          have P0 : own_p 4 (2 : Int32) (3 : Int32) (0 : Int32) (1 : Int32) i0 i1 i2 i3 0 i2 := by unfold own_p; refine ⟨fun _ _ => ?_, fun _ _ => ?_, fun _ _ => ?_, fun _ _ => ?_, fun _ _ _ _ => ?_⟩ <;> omega
          have P1 : own_p 4 (2 : Int32) (3 : Int32) (0 : Int32) (1 : Int32) i0 i1 i2 i3 1 i3 := by unfold own_p; refine ⟨fun _ _ => ?_, fun _ _ => ?_, fun _ _ => ?_, fun _ _ => ?_, fun _ _ _ _ => ?_⟩ <;> omega
          have P2 : own_p 4 (2 : Int32) (3 : Int32) (0 : Int32) (1 : Int32) i0 i1 i2 i3 2 i0 := by unfold own_p; refine ⟨fun _ _ => ?_, fun _ _ => ?_, fun _ _ => ?_, fun _ _ => ?_, fun _ _ _ _ => ?_⟩ <;> omega
          have P3 : own_p 4 (2 : Int32) (3 : Int32) (0 : Int32) (1 : Int32) i0 i1 i2 i3 3 i1 := by unfold own_p; refine ⟨fun _ _ => ?_, fun _ _ => ?_, fun _ _ => ?_, fun _ _ => ?_, fun _ _ _ _ => ?_⟩ <;> omega
          exact g_return C X169 d4_34 ⟨rfl, N168, by rw [e169]; exact P168, FP.dadd d0 w2, FP.dadd d1 w3, FP.dadd d2 w0, FP.dadd d3 w1, i2, i3, i0, i1, D145, D146, D133, D144, P0, P1, P2, P3, by rw [e169]; exact Ad⟩ (by decide) (by decide)
        · exact absurd rfl hT.2.2.2.2.2.2.1
        · exact absurd rfl hT.2.2.2.2.2.2.2.2.1
      · show Go p.tables e below _ T162 (mkF m 18 #[.val (.ref a), .val (.ref b), .val (.int (2 : Int32))] [(.int (1 : Int32)), (.ref b)])
        refine g_dup2 C X162 (pc' := 19) d4_18 rfl rfl rfl ?_
        refine g_daload C X162 (pc' := 20) e162 Ad (by decide) (by decide) 1 (by decide) rfl d4_19 rfl ?_
        refine g_aloadN C X162 (pc' := 21) d4_20 rfl rfl rfl ?_
        refine g_getF C X162 (host := "") (Or.inl (hw _ (List.mem_of_getElem? (i := 18) rfl))) Via.refl e162 F2 d4_21 rfl ?_
        intro T170 X170 e170
        refine g_iloadN C X170 (pc' := 25) d4_24 rfl rfl ?_
        refine g_daload C X170 (pc' := 26) e170 Aw (by decide) (by decide) 2 (by decide) rfl d4_25 rfl ?_
        have D147 : FP.Core.DInt (k1 + i2) (FP.dadd d1 w2) := dadd_D D1 W2 (by show _ ≤ 9007199254740992; omega)
        refine g_dadd C X170 (pc' := 27) d4_26 (nn_of_int D147) rfl ?_
        refine g_dastore C X170 (pc' := 28) e170 Ad (by decide) (by decide) 1 0 (by decide) (of_decide_eq_true rfl) d4_27 rfl ?_
        intro T171 h171 X171 e171 W171 Aq
        have F1 := F1.other W171 (Or.inl n_a)
        have F2 := F2.other W171 (Or.inl n_a)
        have At := At.other W171 n_ta
        have Aw := Aw.other W171 n_aw
        have Z171 : n0 ≤ h171.size := by rw [W171.size]; exact Z160
        have N171 := Fr.snoc X171 N160 z_b
        have P171 := P160.wr W171 (Or.inl (List.mem_of_getElem? (i := 0) rfl))
        have Ad : Arv Z h171 b kd .double (4 : Int32) [(.double d0), (.double (FP.dadd d1 w2)), (.double (FP.dadd d2 w0)), (.double (FP.dadd d3 w1))] (.double (0 : UInt64)) := Aq
        refine g_iinc C X171 (pc' := 31) d4_28 rfl (z := (3 : Int32)) (by decide) (l' := #[.val (.ref a), .val (.ref b), .val (.int (3 : Int32))]) rfl rfl ?_
        refine g_goto C X171 d4_31 (pc' := 2) (by decide) (by decide) ?_
        refine g_iloadN C X171 (pc' := 3) d4_2 rfl rfl ?_
        refine g_aloadN C X171 (pc' := 4) d4_3 rfl rfl rfl ?_
        refine g_getF C X171 (host := "") (Or.inl (hw _ (List.mem_of_getElem? (i := 16) rfl))) Via.refl e171 F1 d4_4 rfl ?_
        intro T172 X172 e172
        refine g_len C X172 (pc' := 8) e172 At d4_7 rfl ?_
        refine g_icmpN C X172 d4_8 (by decide) rfl ?_
        refine g_aloadN C X172 (pc' := 12) d4_11 rfl rfl rfl ?_
        refine g_aloadN C X172 (pc' := 13) d4_12 rfl rfl rfl ?_
        refine g_getF C X172 (host := "") (Or.inl (hw _ (List.mem_of_getElem? (i := 16) rfl))) Via.refl e172 F1 d4_13 rfl ?_
        intro T173 X173 e173
        refine g_iloadN C X173 (pc' := 17) d4_16 rfl rfl ?_
        refine g_iaload C X173 (pc' := 18) e173 At (by decide) (by decide) 3 (by decide) rfl d4_17 rfl ?_
        rcases own_one hT.2.2.2.1 with rfl | rfl | rfl | rfl
        · show Go p.tables e below _ T173 (mkF m 18 #[.val (.ref a), .val (.ref b), .val (.int (3 : Int32))] [(.int (0 : Int32)), (.ref b)])
          refine g_dup2 C X173 (pc' := 19) d4_18 rfl rfl rfl ?_
          refine g_daload C X173 (pc' := 20) e173 Ad (by decide) (by decide) 0 (by decide) rfl d4_19 rfl ?_
          refine g_aloadN C X173 (pc' := 21) d4_20 rfl rfl rfl ?_
          refine g_getF C X173 (host := "") (Or.inl (hw _ (List.mem_of_getElem? (i := 18) rfl))) Via.refl e173 F2 d4_21 rfl ?_
          intro T174 X174 e174
          refine g_iloadN C X174 (pc' := 25) d4_24 rfl rfl ?_
          refine g_daload C X174 (pc' := 26) e174 Aw (by decide) (by decide) 3 (by decide) rfl d4_25 rfl ?_
          have D148 : FP.Core.DInt (k0 + i3) (FP.dadd d0 w3) := dadd_D D0 W3 (by show _ ≤ 9007199254740992; omega)
          refine g_dadd C X174 (pc' := 27) d4_26 (nn_of_int D148) rfl ?_
          refine g_dastore C X174 (pc' := 28) e174 Ad (by decide) (by decide) 0 0 (by decide) (of_decide_eq_true rfl) d4_27 rfl ?_
          intro T175 h175 X175 e175 W175 Aq
          have F1 := F1.other W175 (Or.inl n_a)
          have F2 := F2.other W175 (Or.inl n_a)
          have At := At.other W175 n_ta
          have Aw := Aw.other W175 n_aw
          have Z175 : n0 ≤ h175.size := by rw [W175.size]; exact Z171
          have N175 := Fr.snoc X175 N171 z_b
          have P175 := P171.wr W175 (Or.inl (List.mem_of_getElem? (i := 0) rfl))
          have Ad : Arv Z h175 b kd .double (4 : Int32) [(.double (FP.dadd d0 w3)), (.double (FP.dadd d1 w2)), (.double (FP.dadd d2 w0)), (.double (FP.dadd d3 w1))] (.double (0 : UInt64)) := Aq
          refine g_iinc C X175 (pc' := 31) d4_28 rfl (z := (4 : Int32)) (by decide) (l' := #[.val (.ref a), .val (.ref b), .val (.int (4 : Int32))]) rfl rfl ?_
          refine g_goto C X175 d4_31 (pc' := 2) (by decide) (by decide) ?_
          refine g_iloadN C X175 (pc' := 3) d4_2 rfl rfl ?_
          refine g_aloadN C X175 (pc' := 4) d4_3 rfl rfl rfl ?_
          refine g_getF C X175 (host := "") (Or.inl (hw _ (List.mem_of_getElem? (i := 16) rfl))) Via.refl e175 F1 d4_4 rfl ?_
          intro T176 X176 e176
          refine g_len C X176 (pc' := 8) e176 At d4_7 rfl ?_
          refine g_icmpY C X176 d4_8 (pc' := 34) (by decide) (by decide) (by decide) ?_
          have q0 := own_c0
          have q1 := own_c1
          have q2 := own_c2
          have q3 := own_c3
          have P0 : own_p 4 (2 : Int32) (3 : Int32) (1 : Int32) (0 : Int32) i0 i1 i2 i3 0 i3 := by unfold own_p; refine ⟨fun _ _ => ?_, fun _ _ => ?_, fun _ _ => ?_, fun _ _ => ?_, fun _ _ _ _ => ?_⟩ <;> omega
          have P1 : own_p 4 (2 : Int32) (3 : Int32) (1 : Int32) (0 : Int32) i0 i1 i2 i3 1 i2 := by unfold own_p; refine ⟨fun _ _ => ?_, fun _ _ => ?_, fun _ _ => ?_, fun _ _ => ?_, fun _ _ _ _ => ?_⟩ <;> omega
          have P2 : own_p 4 (2 : Int32) (3 : Int32) (1 : Int32) (0 : Int32) i0 i1 i2 i3 2 i0 := by unfold own_p; refine ⟨fun _ _ => ?_, fun _ _ => ?_, fun _ _ => ?_, fun _ _ => ?_, fun _ _ _ _ => ?_⟩ <;> omega
          have P3 : own_p 4 (2 : Int32) (3 : Int32) (1 : Int32) (0 : Int32) i0 i1 i2 i3 3 i1 := by unfold own_p; refine ⟨fun _ _ => ?_, fun _ _ => ?_, fun _ _ => ?_, fun _ _ => ?_, fun _ _ _ _ => ?_⟩ <;> omega
          exact g_return C X176 d4_34 ⟨rfl, N175, by rw [e176]; exact P175, FP.dadd d0 w3, FP.dadd d1 w2, FP.dadd d2 w0, FP.dadd d3 w1, i3, i2, i0, i1, D148, D147, D133, D144, P0, P1, P2, P3, by rw [e176]; exact Ad⟩ (by decide) (by decide)
        · exact absurd rfl hT.2.2.2.2.2.2.2.2.2
        · exact absurd rfl hT.2.2.2.2.2.2.1
        · exact absurd rfl hT.2.2.2.2.2.2.2.2.1
      · exact absurd rfl hT.2.2.2.2.2.1
      · exact absurd rfl hT.2.2.2.2.2.2.2.1
  · show Go p.tables e below _ T2 (mkF m 18 #[.val (.ref a), .val (.ref b), .val (.int (0 : Int32))] [(.int (3 : Int32)), (.ref b)])
    refine g_dup2 C X2 (pc' := 19) d4_18 rfl rfl rfl ?_
    refine g_daload C X2 (pc' := 20) e2 Ad (by decide) (by decide) 3 (by decide) rfl d4_19 rfl ?_
    refine g_aloadN C X2 (pc' := 21) d4_20 rfl rfl rfl ?_
    refine g_getF C X2 (host := "") (Or.inl (hw _ (List.mem_of_getElem? (i := 18) rfl))) Via.refl e2 F2 d4_21 rfl ?_
    intro T177 X177 e177
    refine g_iloadN C X177 (pc' := 25) d4_24 rfl rfl ?_
    refine g_daload C X177 (pc' := 26) e177 Aw (by decide) (by decide) 0 (by decide) rfl d4_25 rfl ?_
    have D149 : FP.Core.DInt (k3 + i0) (FP.dadd d3 w0) := dadd_D D3 W0 (by show _ ≤ 9007199254740992; omega)
    refine g_dadd C X177 (pc' := 27) d4_26 (nn_of_int D149) rfl ?_
    refine g_dastore C X177 (pc' := 28) e177 Ad (by decide) (by decide) 3 0 (by decide) (of_decide_eq_true rfl) d4_27 rfl ?_
    intro T178 h178 X178 e178 W178 Aq
    have F1 := F1.other W178 (Or.inl n_a)
    have F2 := F2.other W178 (Or.inl n_a)
    have At := At.other W178 n_ta
    have Aw := Aw.other W178 n_aw
    have Z178 : n0 ≤ h178.size := by rw [W178.size]; exact Z0
    have N178 := Fr.snoc X178 (Fr.nil n0) z_b
    have P178 := (Keep.refl h [b]).wr W178 (Or.inl (List.mem_of_getElem? (i := 0) rfl))
    have Ad : Arv Z h178 b kd .double (4 : Int32) [(.double d0), (.double d1), (.double d2), (.double (FP.dadd d3 w0))] (.double (0 : UInt64)) := Aq
    refine g_iinc C X178 (pc' := 31) d4_28 rfl (z := (1 : Int32)) (by decide) (l' := #[.val (.ref a), .val (.ref b), .val (.int (1 : Int32))]) rfl rfl ?_
    refine g_goto C X178 d4_31 (pc' := 2) (by decide) (by decide) ?_
    refine g_iloadN C X178 (pc' := 3) d4_2 rfl rfl ?_
    refine g_aloadN C X178 (pc' := 4) d4_3 rfl rfl rfl ?_
    refine g_getF C X178 (host := "") (Or.inl (hw _ (List.mem_of_getElem? (i := 16) rfl))) Via.refl e178 F1 d4_4 rfl ?_
    intro T179 X179 e179
    refine g_len C X179 (pc' := 8) e179 At d4_7 rfl ?_
    refine g_icmpN C X179 d4_8 (by decide) rfl ?_
    refine g_aloadN C X179 (pc' := 12) d4_11 rfl rfl rfl ?_
    refine g_aloadN C X179 (pc' := 13) d4_12 rfl rfl rfl ?_
    refine g_getF C X179 (host := "") (Or.inl (hw _ (List.mem_of_getElem? (i := 16) rfl))) Via.refl e179 F1 d4_13 rfl ?_
    intro T180 X180 e180
    refine g_iloadN C X180 (pc' := 17) d4_16 rfl rfl ?_
    refine g_iaload C X180 (pc' := 18) e180 At (by decide) (by decide) 1 (by decide) rfl d4_17 rfl ?_
    rcases own_one hT.2.1 with rfl | rfl | rfl | rfl
    · show Go p.tables e below _ T180 (mkF m 18 #[.val (.ref a), .val (.ref b), .val (.int (1 : Int32))] [(.int (0 : Int32)), (.ref b)])
      refine g_dup2 C X180 (pc' := 19) d4_18 rfl rfl rfl ?_
      refine g_daload C X180 (pc' := 20) e180 Ad (by decide) (by decide) 0 (by decide) rfl d4_19 rfl ?_
      refine g_aloadN C X180 (pc' := 21) d4_20 rfl rfl rfl ?_
      refine g_getF C X180 (host := "") (Or.inl (hw _ (List.mem_of_getElem? (i := 18) rfl))) Via.refl e180 F2 d4_21 rfl ?_
      intro T181 X181 e181
      refine g_iloadN C X181 (pc' := 25) d4_24 rfl rfl ?_
      refine g_daload C X181 (pc' := 26) e181 Aw (by decide) (by decide) 1 (by decide) rfl d4_25 rfl ?_
      have D150 : FP.Core.DInt (k0 + i1) (FP.dadd d0 w1) := dadd_D D0 W1 (by show _ ≤ 9007199254740992; omega)
      refine g_dadd C X181 (pc' := 27) d4_26 (nn_of_int D150) rfl ?_
      refine g_dastore C X181 (pc' := 28) e181 Ad (by decide) (by decide) 0 0 (by decide) (of_decide_eq_true rfl) d4_27 rfl ?_
      intro T182 h182 X182 e182 W182 Aq
      have F1 := F1.other W182 (Or.inl n_a)
      have F2 := F2.other W182 (Or.inl n_a)
      have At := At.other W182 n_ta
      have Aw := Aw.other W182 n_aw
      have Z182 : n0 ≤ h182.size := by rw [W182.size]; exact Z178
      have N182 := Fr.snoc X182 N178 z_b
      have P182 := P178.wr W182 (Or.inl (List.mem_of_getElem? (i := 0) rfl))
      have Ad : Arv Z h182 b kd .double (4 : Int32) [(.double (FP.dadd d0 w1)), (.double d1), (.double d2), (.double (FP.dadd d3 w0))] (.double (0 : UInt64)) := Aq
      refine g_iinc C X182 (pc' := 31) d4_28 rfl (z := (2 : Int32)) (by decide) (l' := #[.val (.ref a), .val (.ref b), .val (.int (2 : Int32))]) rfl rfl ?_
      refine g_goto C X182 d4_31 (pc' := 2) (by decide) (by decide) ?_
      refine g_iloadN C X182 (pc' := 3) d4_2 rfl rfl ?_
      refine g_aloadN C X182 (pc' := 4) d4_3 rfl rfl rfl ?_
      refine g_getF C X182 (host := "") (Or.inl (hw _ (List.mem_of_getElem? (i := 16) rfl))) Via.refl e182 F1 d4_4 rfl ?_
      intro T183 X183 e183
      refine g_len C X183 (pc' := 8) e183 At d4_7 rfl ?_
      refine g_icmpN C X183 d4_8 (by decide) rfl ?_
      refine g_aloadN C X183 (pc' := 12) d4_11 rfl rfl rfl ?_
      refine g_aloadN C X183 (pc' := 13) d4_12 rfl rfl rfl ?_
      refine g_getF C X183 (host := "") (Or.inl (hw _ (List.mem_of_getElem? (i := 16) rfl))) Via.refl e183 F1 d4_13 rfl ?_
      intro T184 X184 e184
      refine g_iloadN C X184 (pc' := 17) d4_16 rfl rfl ?_
      refine g_iaload C X184 (pc' := 18) e184 At (by decide) (by decide) 2 (by decide) rfl d4_17 rfl ?_
      rcases own_one hT.2.2.1 with rfl | rfl | rfl | rfl
      · exact absurd rfl hT.2.2.2.2.2.2.2.1
      · show Go p.tables e below _ T184 (mkF m 18 #[.val (.ref a), .val (.ref b), .val (.int (2 : Int32))] [(.int (1 : Int32)), (.ref b)])
        refine g_dup2 C X184 (pc' := 19) d4_18 rfl rfl rfl ?_
        refine g_daload C X184 (pc' := 20) e184 Ad (by decide) (by decide) 1 (by decide) rfl d4_19 rfl ?_
        refine g_aloadN C X184 (pc' := 21) d4_20 rfl rfl rfl ?_
        refine g_getF C X184 (host := "") (Or.inl (hw _ (List.mem_of_getElem? (i := 18) rfl))) Via.refl e184 F2 d4_21 rfl ?_
        intro T185 X185 e185
        refine g_iloadN C X185 (pc' := 25) d4_24 rfl rfl ?_
        refine g_daload C X185 (pc' := 26) e185 Aw (by decide) (by decide) 2 (by decide) rfl d4_25 rfl ?_
        have D151 : FP.Core.DInt (k1 + i2) (FP.dadd d1 w2) := dadd_D D1 W2 (by show _ ≤ 9007199254740992; omega)
        refine g_dadd C X185 (pc' := 27) d4_26 (nn_of_int D151) rfl ?_
        refine g_dastore C X185 (pc' := 28) e185 Ad (by decide) (by decide) 1 0 (by decide) (of_decide_eq_true rfl) d4_27 rfl ?_
        intro T186 h186 X186 e186 W186 Aq
        have F1 := F1.other W186 (Or.inl n_a)
        have F2 := F2.other W186 (Or.inl n_a)
        have At := At.other W186 n_ta
        have Aw := Aw.other W186 n_aw
        have Z186 : n0 ≤ h186.size := by rw [W186.size]; exact Z182
        have N186 := Fr.snoc X186 N182 z_b
        have P186 := P182.wr W186 (Or.inl (List.mem_of_getElem? (i := 0) rfl))
        have Ad : Arv Z h186 b kd .double (4 : Int32) [(.double (FP.dadd d0 w1)), (.double (FP.dadd d1 w2)), (.double d2), (.double (FP.dadd d3 w0))] (.double (0 : UInt64)) := Aq
        refine g_iinc C X186 (pc' := 31) d4_28 rfl (z := (3 : Int32)) (by decide) (l' := #[.val (.ref a), .val (.ref b), .val (.int (3 : Int32))]) rfl rfl ?_
        refine g_goto C X186 d4_31 (pc' := 2) (by decide) (by decide) ?_
        refine g_iloadN C X186 (pc' := 3) d4_2 rfl rfl ?_
        refine g_aloadN C X186 (pc' := 4) d4_3 rfl rfl rfl ?_
        refine g_getF C X186 (host := "") (Or.inl (hw _ (List.mem_of_getElem? (i := 16) rfl))) Via.refl e186 F1 d4_4 rfl ?_
        intro T187 X187 e187
        refine g_len C X187 (pc' := 8) e187 At d4_7 rfl ?_
        refine g_icmpN C X187 d4_8 (by decide) rfl ?_
        refine g_aloadN C X187 (pc' := 12) d4_11 rfl rfl rfl ?_
        refine g_aloadN C X187 (pc' := 13) d4_12 rfl rfl rfl ?_
        refine g_getF C X187 (host := "") (Or.inl (hw _ (List.mem_of_getElem? (i := 16) rfl))) Via.refl e187 F1 d4_13 rfl ?_
        intro T188 X188 e188
        refine g_iloadN C X188 (pc' := 17) d4_16 rfl rfl ?_
        refine g_iaload C X188 (pc' := 18) e188 At (by decide) (by decide) 3 (by decide) rfl d4_17 rfl ?_
        rcases own_one hT.2.2.2.1 with rfl | rfl | rfl | rfl
        · exact absurd rfl hT.2.2.2.2.2.2.2.2.1
        · exact absurd rfl hT.2.2.2.2.2.2.2.2.2
        · show Go p.tables e below _ T188 (mkF m 18 #[.val (.ref a), .val (.ref b), .val (.int (3 : Int32))] [(.int (2 : Int32)), (.ref b)])
          refine g_dup2 C X188 (pc' := 19) d4_18 rfl rfl rfl ?_
          refine g_daload C X188 (pc' := 20) e188 Ad (by decide) (by decide) 2 (by decide) rfl d4_19 rfl ?_
          refine g_aloadN C X188 (pc' := 21) d4_20 rfl rfl rfl ?_
          refine g_getF C X188 (host := "") (Or.inl (hw _ (List.mem_of_getElem? (i := 18) rfl))) Via.refl e188 F2 d4_21 rfl ?_
          intro T189 X189 e189
          refine g_iloadN C X189 (pc' := 25) d4_24 rfl rfl ?_
          refine g_daload C X189 (pc' := 26) e189 Aw (by decide) (by decide) 3 (by decide) rfl d4_25 rfl ?_
          have D152 : FP.Core.DInt (k2 + i3) (FP.dadd d2 w3) := dadd_D D2 W3 (by show _ ≤ 9007199254740992; omega)
          refine g_dadd C X189 (pc' := 27) d4_26 (nn_of_int D152) rfl ?_
          refine g_dastore C X189 (pc' := 28) e189 Ad (by decide) (by decide) 2 0 (by decide) (of_decide_eq_true rfl) d4_27 rfl ?_
          intro T190 h190 X190 e190 W190 Aq
          have F1 := F1.other W190 (Or.inl n_a)
          have F2 := F2.other W190 (Or.inl n_a)
          have At := At.other W190 n_ta
          have Aw := Aw.other W190 n_aw
          have Z190 : n0 ≤ h190.size := by rw [W190.size]; exact Z186
          have N190 := Fr.snoc X190 N186 z_b
          have P190 := P186.wr W190 (Or.inl (List.mem_of_getElem? (i := 0) rfl))
          have Ad : Arv Z h190 b kd .double (4 : Int32) [(.double (FP.dadd d0 w1)), (.double (FP.dadd d1 w2)), (.double (FP.dadd d2 w3)), (.double (FP.dadd d3 w0))] (.double (0 : UInt64)) := Aq
          refine g_iinc C X190 (pc' := 31) d4_28 rfl (z := (4 : Int32)) (by decide) (l' := #[.val (.ref a), .val (.ref b), .val (.int (4 : Int32))]) rfl rfl ?_
          refine g_goto C X190 d4_31 (pc' := 2) (by decide) (by decide) ?_
          refine g_iloadN C X190 (pc' := 3) d4_2 rfl rfl ?_
          refine g_aloadN C X190 (pc' := 4) d4_3 rfl rfl rfl ?_
          refine g_getF C X190 (host := "") (Or.inl (hw _ (List.mem_of_getElem? (i := 16) rfl))) Via.refl e190 F1 d4_4 rfl ?_
          intro T191 X191 e191
          refine g_len C X191 (pc' := 8) e191 At d4_7 rfl ?_
          refine g_icmpY C X191 d4_8 (pc' := 34) (by decide) (by decide) (by decide) ?_
          have q0 := own_c0
          have q1 := own_c1
          have q2 := own_c2
          have q3 := own_c3
          have P0 : own_p 4 (3 : Int32) (0 : Int32) (1 : Int32) (2 : Int32) i0 i1 i2 i3 0 i1 := by unfold own_p; refine ⟨fun _ _ => ?_, fun _ _ => ?_, fun _ _ => ?_, fun _ _ => ?_, fun _ _ _ _ => ?_⟩ <;> omega
          have P1 : own_p 4 (3 : Int32) (0 : Int32) (1 : Int32) (2 : Int32) i0 i1 i2 i3 1 i2 := by unfold own_p; refine ⟨fun _ _ => ?_, fun _ _ => ?_, fun _ _ => ?_, fun _ _ => ?_, fun _ _ _ _ => ?_⟩ <;> omega
          have P2 : own_p 4 (3 : Int32) (0 : Int32) (1 : Int32) (2 : Int32) i0 i1 i2 i3 2 i3 := by unfold own_p; refine ⟨fun _ _ => ?_, fun _ _ => ?_, fun _ _ => ?_, fun _ _ => ?_, fun _ _ _ _ => ?_⟩ <;> omega
          have P3 : own_p 4 (3 : Int32) (0 : Int32) (1 : Int32) (2 : Int32) i0 i1 i2 i3 3 i0 := by unfold own_p; refine ⟨fun _ _ => ?_, fun _ _ => ?_, fun _ _ => ?_, fun _ _ => ?_, fun _ _ _ _ => ?_⟩ <;> omega
          exact g_return C X191 d4_34 ⟨rfl, N190, by rw [e191]; exact P190, FP.dadd d0 w1, FP.dadd d1 w2, FP.dadd d2 w3, FP.dadd d3 w0, i1, i2, i3, i0, D150, D151, D152, D149, P0, P1, P2, P3, by rw [e191]; exact Ad⟩ (by decide) (by decide)
        · exact absurd rfl hT.2.2.2.2.2.2.1
      · show Go p.tables e below _ T184 (mkF m 18 #[.val (.ref a), .val (.ref b), .val (.int (2 : Int32))] [(.int (2 : Int32)), (.ref b)])
        refine g_dup2 C X184 (pc' := 19) d4_18 rfl rfl rfl ?_
        refine g_daload C X184 (pc' := 20) e184 Ad (by decide) (by decide) 2 (by decide) rfl d4_19 rfl ?_
        refine g_aloadN C X184 (pc' := 21) d4_20 rfl rfl rfl ?_
        refine g_getF C X184 (host := "") (Or.inl (hw _ (List.mem_of_getElem? (i := 18) rfl))) Via.refl e184 F2 d4_21 rfl ?_
        intro T192 X192 e192
        refine g_iloadN C X192 (pc' := 25) d4_24 rfl rfl ?_
        refine g_daload C X192 (pc' := 26) e192 Aw (by decide) (by decide) 2 (by decide) rfl d4_25 rfl ?_
        have D153 : FP.Core.DInt (k2 + i2) (FP.dadd d2 w2) := dadd_D D2 W2 (by show _ ≤ 9007199254740992; omega)
        refine g_dadd C X192 (pc' := 27) d4_26 (nn_of_int D153) rfl ?_
        refine g_dastore C X192 (pc' := 28) e192 Ad (by decide) (by decide) 2 0 (by decide) (of_decide_eq_true rfl) d4_27 rfl ?_
        intro T193 h193 X193 e193 W193 Aq
        have F1 := F1.other W193 (Or.inl n_a)
        have F2 := F2.other W193 (Or.inl n_a)
        have At := At.other W193 n_ta
        have Aw := Aw.other W193 n_aw
        have Z193 : n0 ≤ h193.size := by rw [W193.size]; exact Z182
        have N193 := Fr.snoc X193 N182 z_b
        have P193 := P182.wr W193 (Or.inl (List.mem_of_getElem? (i := 0) rfl))
        have Ad : Arv Z h193 b kd .double (4 : Int32) [(.double (FP.dadd d0 w1)), (.double d1), (.double (FP.dadd d2 w2)), (.double (FP.dadd d3 w0))] (.double (0 : UInt64)) := Aq
        refine g_iinc C X193 (pc' := 31) d4_28 rfl (z := (3 : Int32)) (by decide) (l' := #[.val (.ref a), .val (.ref b), .val (.int (3 : Int32))]) rfl rfl ?_
        refine g_goto C X193 d4_31 (pc' := 2) (by decide) (by decide) ?_
        refine g_iloadN C X193 (pc' := 3) d4_2 rfl rfl ?_
        refine g_aloadN C X193 (pc' := 4) d4_3 rfl rfl rfl ?_
        refine g_getF C X193 (host := "") (Or.inl (hw _ (List.mem_of_getElem? (i := 16) rfl))) Via.refl e193 F1 d4_4 rfl ?_
        intro T194 X194 e194
        refine g_len C X194 (pc' := 8) e194 At d4_7 rfl ?_
        refine g_icmpN C X194 d4_8 (by decide) rfl ?_
        refine g_aloadN C X194 (pc' := 12) d4_11 rfl rfl rfl ?_
        refine g_aloadN C X194 (pc' := 13) d4_12 rfl rfl rfl ?_
        refine g_getF C X194 (host := "") (Or.inl (hw _ (List.mem_of_getElem? (i := 16) rfl))) Via.refl e194 F1 d4_13 rfl ?_
        intro T195 X195 e195
        refine g_iloadN C X195 (pc' := 17) d4_16 rfl rfl ?_
        refine g_iaload C X195 (pc' := 18) e195 At (by decide) (by decide) 3 (by decide) rfl d4_17 rfl ?_
        rcases own_one hT.2.2.2.1 with rfl | rfl | rfl | rfl
        · exact absurd rfl hT.2.2.2.2.2.2.2.2.1
        · show Go p.tables e below _ T195 (mkF m 18 #[.val (.ref a), .val (.ref b), .val (.int (3 : Int32))] [(.int (1 : Int32)), (.ref b)])
          refine g_dup2 C X195 (pc' := 19) d4_18 rfl rfl rfl ?_
          refine g_daload C X195 (pc' := 20) e195 Ad (by decide) (by decide) 1 (by decide) rfl d4_19 rfl ?_
          refine g_aloadN C X195 (pc' := 21) d4_20 rfl rfl rfl ?_
          refine g_getF C X195 (host := "") (Or.inl (hw _ (List.mem_of_getElem? (i := 18) rfl))) Via.refl e195 F2 d4_21 rfl ?_
          intro T196 X196 e196
          refine g_iloadN C X196 (pc' := 25) d4_24 rfl rfl ?_
          refine g_daload C X196 (pc' := 26) e196 Aw (by decide) (by decide) 3 (by decide) rfl d4_25 rfl ?_
          have D154 : FP.Core.DInt (k1 + i3) (FP.dadd d1 w3) := dadd_D D1 W3 (by show _ ≤ 9007199254740992; omega)
          refine g_dadd C X196 (pc' := 27) d4_26 (nn_of_int D154) rfl ?_
          refine g_dastore C X196 (pc' := 28) e196 Ad (by decide) (by decide) 1 0 (by decide) (of_decide_eq_true rfl) d4_27 rfl ?_
          intro T197 h197 X197 e197 W197 Aq
          have F1 := F1.other W197 (Or.inl n_a)
          have F2 := F2.other W197 (Or.inl n_a)
          have At := At.other W197 n_ta
          have Aw := Aw.other W197 n_aw
          have Z197 : n0 ≤ h197.size := by rw [W197.size]; exact Z193
          have N197 := Fr.snoc X197 N193 z_b
          have P197 := P193.wr W197 (Or.inl (List.mem_of_getElem? (i := 0) rfl))
          have Ad : Arv Z h197 b kd .double (4 : Int32) [(.double (FP.dadd d0 w1)), (.double (FP.dadd d1 w3)), (.double (FP.dadd d2 w2)), (.double (FP.dadd d3 w0))] (.double (0 : UInt64)) := Aq
          refine g_iinc C X197 (pc' := 31) d4_28 rfl (z := (4 : Int32)) (by decide) (l' := #[.val (.ref a), .val (.ref b), .val (.int (4 : Int32))]) rfl rfl ?_
          refine g_goto C X197 d4_31 (pc' := 2) (by decide) (by decide) ?_
          refine g_iloadN C X197 (pc' := 3) d4_2 rfl rfl ?_
          refine g_aloadN C X197 (pc' := 4) d4_3 rfl rfl rfl ?_
          refine g_getF C X197 (host := "") (Or.inl (hw _ (List.mem_of_getElem? (i := 16) rfl))) Via.refl e197 F1 d4_4 rfl ?_
          intro T198 X198 e198
          refine g_len C X198 (pc' := 8) e198 At d4_7 rfl ?_
          refine g_icmpY C X198 d4_8 (pc' := 34) (by decide) (by decide) (by decide) ?_
          have q0 := own_c0
          have q1 := own_c1
          have q2 := own_c2
          have q3 := own_c3
          have P0 : own_p 4 (3 : Int32) (0 : Int32) (2 : Int32) (1 : Int32) i0 i1 i2 i3 0 i1 := by unfold own_p; refine ⟨fun _ _ => ?_, fun _ _ => ?_, fun _ _ => ?_, fun _ _ => ?_, fun _ _ _ _ => ?_⟩ <;> omega
          have P1 : own_p 4 (3 : Int32) (0 : Int32) (2 : Int32) (1 : Int32) i0 i1 i2 i3 1 i3 := by unfold own_p; refine ⟨fun _ _ => ?_, fun _ _ => ?_, fun _ _ => ?_, fun _ _ => ?_, fun _ _ _ _ => ?_⟩ <;> omega
          have P2 : own_p 4 (3 : Int32) (0 : Int32) (2 : Int32) (1 : Int32) i0 i1 i2 i3 2 i2 := by unfold own_p; refine ⟨fun _ _ => ?_, fun _ _ => ?_, fun _ _ => ?_, fun _ _ => ?_, fun _ _ _ _ => ?_⟩ <;> omega
          have P3 : own_p 4 (3 : Int32) (0 : Int32) (2 : Int32) (1 : Int32) i0 i1 i2 i3 3 i0 := by unfold own_p; refine ⟨fun _ _ => ?_, fun _ _ => ?_, fun _ _ => ?_, fun _ _ => ?_, fun _ _ _ _ => ?_⟩ <;> omega
          exact g_return C X198 d4_34 ⟨rfl, N197, by rw [e198]; exact P197, FP.dadd d0 w1, FP.dadd d1 w3, FP.dadd d2 w2, FP.dadd d3 w0, i1, i3, i2, i0, D150, D154, D153, D149, P0, P1, P2, P3, by rw [e198]; exact Ad⟩ (by decide) (by decide)
        · exact absurd rfl hT.2.2.2.2.2.2.2.2.2
        · exact absurd rfl hT.2.2.2.2.2.2.1
      · exact absurd rfl hT.2.2.2.2.2.1
    · show Go p.tables e below _ T180 (mkF m 18 #[.val (.ref a), .val (.ref b), .val (.int (1 : Int32))] [(.int (1 : Int32)), (.ref b)])
      refine g_dup2 C X180 (pc' := 19) d4_18 rfl rfl rfl ?_
      refine g_daload C X180 (pc' := 20) e180 Ad (by decide) (by decide) 1 (by decide) rfl d4_19 rfl ?_
      refine g_aloadN C X180 (pc' := 21) d4_20 rfl rfl rfl ?_
      refine g_getF C X180 (host := "") (Or.inl (hw _ (List.mem_of_getElem? (i := 18) rfl))) Via.refl e180 F2 d4_21 rfl ?_
      intro T199 X199 e199
      refine g_iloadN C X199 (pc' := 25) d4_24 rfl rfl ?_
      refine g_daload C X199 (pc' := 26) e199 Aw (by decide) (by decide) 1 (by decide) rfl d4_25 rfl ?_
      have D155 : FP.Core.DInt (k1 + i1) (FP.dadd d1 w1) := dadd_D D1 W1 (by show _ ≤ 9007199254740992; omega)
      refine g_dadd C X199 (pc' := 27) d4_26 (nn_of_int D155) rfl ?_
      refine g_dastore C X199 (pc' := 28) e199 Ad (by decide) (by decide) 1 0 (by decide) (of_decide_eq_true rfl) d4_27 rfl ?_
      intro T200 h200 X200 e200 W200 Aq
      have F1 := F1.other W200 (Or.inl n_a)
      have F2 := F2.other W200 (Or.inl n_a)
      have At := At.other W200 n_ta
      have Aw := Aw.other W200 n_aw
      have Z200 : n0 ≤ h200.size := by rw [W200.size]; exact Z178
      have N200 := Fr.snoc X200 N178 z_b
      have P200 := P178.wr W200 (Or.inl (List.mem_of_getElem? (i := 0) rfl))
      have Ad : Arv Z h200 b kd .double (4 : Int32) [(.double d0), (.double (FP.dadd d1 w1)), (.double d2), (.double (FP.dadd d3 w0))] (.double (0 : UInt64)) := Aq
      refine g_iinc C X200 (pc' := 31) d4_28 rfl (z := (2 : Int32)) (by decide) (l' := #[.val (.ref a), .val (.ref b), .val (.int (2 : Int32))]) rfl rfl ?_
      refine g_goto C X200 d4_31 (pc' := 2) (by decide) (by decide) ?_
      refine g_iloadN C X200 (pc' := 3) d4_2 rfl rfl ?_
      refine g_aloadN C X200 (pc' := 4) d4_3 rfl rfl rfl ?_
      refine g_getF C X200 (host := "") (Or.inl (hw _ (List.mem_of_getElem? (i := 16) rfl))) Via.refl e200 F1 d4_4 rfl ?_
      intro T201 X201 e201
      refine g_len C X201 (pc' := 8) e201 At d4_7 rfl ?_
      refine g_icmpN C X201 d4_8 (by decide) rfl ?_
      refine g_aloadN C X201 (pc' := 12) d4_11 rfl rfl rfl ?_
      refine g_aloadN C X201 (pc' := 13) d4_12 rfl rfl rfl ?_
      refine g_getF C X201 (host := "") (Or.inl (hw _ (List.mem_of_getElem? (i := 16) rfl))) Via.refl e201 F1 d4_13 rfl ?_
      intro T202 X202 e202
      refine g_iloadN C X202 (pc' := 17) d4_16 rfl rfl ?_
      refine g_iaload C X202 (pc' := 18) e202 At (by decide) (by decide) 2 (by decide) rfl d4_17 rfl ?_
      rcases own_one hT.2.2.1 with rfl | rfl | rfl | rfl
      · show Go p.tables e below _ T202 (mkF m 18 #[.val (.ref a), .val (.ref b), .val (.int (2 : Int32))] [(.int (0 : Int32)), (.ref b)])
        refine g_dup2 C X202 (pc' := 19) d4_18 rfl rfl rfl ?_
        refine g_daload C X202 (pc' := 20) e202 Ad (by decide) (by decide) 0 (by decide) rfl d4_19 rfl ?_
        refine g_aloadN C X202 (pc' := 21) d4_20 rfl rfl rfl ?_
        refine g_getF C X202 (host := "") (Or.inl (hw _ (List.mem_of_getElem? (i := 18) rfl))) Via.refl e202 F2 d4_21 rfl ?_
        intro T203 X203 e203
        refine g_iloadN C X203 (pc' := 25) d4_24 rfl rfl ?_
        refine g_daload C X203 (pc' := 26) e203 Aw (by decide) (by decide) 2 (by decide) rfl d4_25 rfl ?_
        have D156 : FP.Core.DInt (k0 + i2) (FP.dadd d0 w2) := dadd_D D0 W2 (by show _ ≤ 9007199254740992; omega)
        refine g_dadd C X203 (pc' := 27) d4_26 (nn_of_int D156) rfl ?_
        refine g_dastore C X203 (pc' := 28) e203 Ad (by decide) (by decide) 0 0 (by decide) (of_decide_eq_true rfl) d4_27 rfl ?_
        intro T204 h204 X204 e204 W204 Aq
        have F1 := F1.other W204 (Or.inl n_a)
        have F2 := F2.other W204 (Or.inl n_a)
        have At := At.other W204 n_ta
        have Aw := Aw.other W204 n_aw
        have Z204 : n0 ≤ h204.size := by rw [W204.size]; exact Z200
        have N204 := Fr.snoc X204 N200 z_b
        have P204 := P200.wr W204 (Or.inl (List.mem_of_getElem? (i := 0) rfl))
        have Ad : Arv Z h204 b kd .double (4 : Int32) [(.double (FP.dadd d0 w2)), (.double (FP.dadd d1 w1)), (.double d2), (.double (FP.dadd d3 w0))] (.double (0 : UInt64)) := Aq
        refine g_iinc C X204 (pc' := 31) d4_28 rfl (z := (3 : Int32)) (by decide) (l' := #[.val (.ref a), .val (.ref b), .val (.int (3 : Int32))]) rfl rfl ?_
        refine g_goto C X204 d4_31 (pc' := 2) (by decide) (by decide) ?_
        refine g_iloadN C X204 (pc' := 3) d4_2 rfl rfl ?_
        refine g_aloadN C X204 (pc' := 4) d4_3 rfl rfl rfl ?_
        refine g_getF C X204 (host := "") (Or.inl (hw _ (List.mem_of_getElem? (i := 16) rfl))) Via.refl e204 F1 d4_4 rfl ?_
        intro T205 X205 e205
        refine g_len C X205 (pc' := 8) e205 At d4_7 rfl ?_
        refine g_icmpN C X205 d4_8 (by decide) rfl ?_
        refine g_aloadN C X205 (pc' := 12) d4_11 rfl rfl rfl ?_
        refine g_aloadN C X205 (pc' := 13) d4_12 rfl rfl rfl ?_
        refine g_getF C X205 (host := "") (Or.inl (hw _ (List.mem_of_getElem? (i := 16) rfl))) Via.refl e205 F1 d4_13 rfl ?_
        intro T206 X206 e206
        refine g_iloadN C X206 (pc' := 17) d4_16 rfl rfl ?_
        refine g_iaload C X206 (pc' := 18) e206 At (by decide) (by decide) 3 (by decide) rfl d4_17 rfl ?_
        rcases own_one hT.2.2.2.1 with rfl | rfl | rfl | rfl
        · exact absurd rfl hT.2.2.2.2.2.2.2.2.2
        · exact absurd rfl hT.2.2.2.2.2.2.2.2.1
        · show Go p.tables e below _ T206 (mkF m 18 #[.val (.ref a), .val (.ref b), .val (.int (3 : Int32))] [(.int (2 : Int32)), (.ref b)])
          refine g_dup2 C X206 (pc' := 19) d4_18 rfl rfl rfl ?_
          refine g_daload C X206 (pc' := 20) e206 Ad (by decide) (by decide) 2 (by decide) rfl d4_19 rfl ?_
          refine g_aloadN C X206 (pc' := 21) d4_20 rfl rfl rfl ?_
          refine g_getF C X206 (host := "") (Or.inl (hw _ (List.mem_of_getElem? (i := 18) rfl))) Via.refl e206 F2 d4_21 rfl ?_
          intro T207 X207 e207
          refine g_iloadN C X207 (pc' := 25) d4_24 rfl rfl ?_
          refine g_daload C X207 (pc' := 26) e207 Aw (by decide) (by decide) 3 (by decide) rfl d4_25 rfl ?_
          have D157 : FP.Core.DInt (k2 + i3) (FP.dadd d2 w3) := dadd_D D2 W3 (by show _ ≤ 9007199254740992; omega)
          refine g_dadd C X207 (pc' := 27) d4_26 (nn_of_int D157) rfl ?_
          refine g_dastore C X207 (pc' := 28) e207 Ad (by decide) (by decide) 2 0 (by decide) (of_decide_eq_true rfl) d4_27 rfl ?_
          intro T208 h208 X208 e208 W208 Aq
          have F1 := F1.other W208 (Or.inl n_a)
          have F2 := F2.other W208 (Or.inl n_a)
          have At := At.other W208 n_ta
          have Aw := Aw.other W208 n_aw
          have Z208 : n0 ≤ h208.size := by rw [W208.size]; exact Z204
          have N208 := Fr.snoc X208 N204 z_b
          have P208 := P204.wr W208 (Or.inl (List.mem_of_getElem? (i := 0) rfl))
          have Ad : Arv Z h208 b kd .double (4 : Int32) [(.double (FP.dadd d0 w2)), (.double (FP.dadd d1 w1)), (.double (FP.dadd d2 w3)), (.double (FP.dadd d3 w0))] (.double (0 : UInt64)) := Aq
          refine g_iinc C X208 (pc' := 31) d4_28 rfl (z := (4 : Int32)) (by decide) (l' := #[.val (.ref a), .val (.ref b), .val (.int (4 : Int32))]) rfl rfl ?_
          refine g_goto C X208 d4_31 (pc' := 2) (by decide) (by decide) ?_
          refine g_iloadN C X208 (pc' := 3) d4_2 rfl rfl ?_
          refine g_aloadN C X208 (pc' := 4) d4_3 rfl rfl rfl ?_
          refine g_getF C X208 (host := "") (Or.inl (hw _ (List.mem_of_getElem? (i := 16) rfl))) Via.refl e208 F1 d4_4 rfl ?_
          intro T209 X209 e209
          refine g_len C X209 (pc' := 8) e209 At d4_7 rfl ?_
          refine g_icmpY C X209 d4_8 (pc' := 34) (by decide) (by decide) (by decide) ?_
          have q0 := own_c0
          have q1 := own_c1
          have q2 := own_c2
          have q3 := own_c3
          have P0 : own_p 4 (3 : Int32) (1 : Int32) (0 : Int32) (2 : Int32) i0 i1 i2 i3 0 i2 := by unfold own_p; refine ⟨fun _ _ => ?_, fun _ _ => ?_, fun _ _ => ?_, fun _ _ => ?_, fun _ _ _ _ => ?_⟩ <;> omega
          have P1 : own_p 4 (3 : Int32) (1 : Int32) (0 : Int32) (2 : Int32) i0 i1 i2 i3 1 i1 := by unfold own_p; refine ⟨fun _ _ => ?_, fun _ _ => ?_, fun _ _ => ?_, fun _ _ => ?_, fun _ _ _ _ => ?_⟩ <;> omega
          have P2 : own_p 4 (3 : Int32) (1 : Int32) (0 : Int32) (2 : Int32) i0 i1 i2 i3 2 i3 := by unfold own_p; refine ⟨fun _ _ => ?_, fun _ _ => ?_, fun _ _ => ?_, fun _ _ => ?_, fun _ _ _ _ => ?_⟩ <;> omega
          have P3 : own_p 4 (3 : Int32) (1 : Int32) (0 : Int32) (2 : Int32) i0 i1 i2 i3 3 i0 := by unfold own_p; refine ⟨fun _ _ => ?_, fun _ _ => ?_, fun _ _ => ?_, fun _ _ => ?_, fun _ _ _ _ => ?_⟩ <;> omega
          exact g_return C X209 d4_34 ⟨rfl, N208, by rw [e209]; exact P208, FP.dadd d0 w2, FP.dadd d1 w1, FP.dadd d2 w3, FP.dadd d3 w0, i2, i1, i3, i0, D156, D155, D157, D149, P0, P1, P2, P3, by rw [e209]; exact Ad⟩ (by decide) (by decide)
        · exact absurd rfl hT.2.2.2.2.2.2.1
      · exact absurd rfl hT.2.2.2.2.2.2.2.1
      · show Go p.tables e below _ T202 (mkF m 18 #[.val (.ref a), .val (.ref b), .val (.int (2 : Int32))] [(.int (2 : Int32)), (.ref b)])
        refine g_dup2 C X202 (pc' := 19) d4_18 rfl rfl rfl ?_
        refine g_daload C X202 (pc' := 20) e202 Ad (by decide) (by decide) 2 (by decide) rfl d4_19 rfl ?_
        refine g_aloadN C X202 (pc' := 21) d4_20 rfl rfl rfl ?_
        refine g_getF C X202 (host := "") (Or.inl (hw _ (List.mem_of_getElem? (i := 18) rfl))) Via.refl e202 F2 d4_21 rfl ?_
        intro T210 X210 e210
        refine g_iloadN C X210 (pc' := 25) d4_24 rfl rfl ?_
        refine g_daload C X210 (pc' := 26) e210 Aw (by decide) (by decide) 2 (by decide) rfl d4_25 rfl ?_
        have D158 : FP.Core.DInt (k2 + i2) (FP.dadd d2 w2) := dadd_D D2 W2 (by show _ ≤ 9007199254740992; omega)
        refine g_dadd C X210 (pc' := 27) d4_26 (nn_of_int D158) rfl ?_
        refine g_dastore C X210 (pc' := 28) e210 Ad (by decide) (by decide) 2 0 (by decide) (of_decide_eq_true rfl) d4_27 rfl ?_
        intro T211 h211 X211 e211 W211 Aq
        have F1 := F1.other W211 (Or.inl n_a)
        have F2 := F2.other W211 (Or.inl n_a)
        have At := At.other W211 n_ta
        have Aw := Aw.other W211 n_aw
        have Z211 : n0 ≤ h211.size := by rw [W211.size]; exact Z200
        have N211 := Fr.snoc X211 N200 z_b
        have P211 := P200.wr W211 (Or.inl (List.mem_of_getElem? (i := 0) rfl))
        have Ad : Arv Z h211 b kd .double (4 : Int32) [(.double d0), (.double (FP.dadd d1 w1)), (.double (FP.dadd d2 w2)), (.double (FP.dadd d3 w0))] (.double (0 : UInt64)) := Aq
        refine g_iinc C X211 (pc' := 31) d4_28 rfl (z := (3 : Int32)) (by decide) (l' := #[.val (.ref a), .val (.ref b), .val (.int (3 : Int32))]) rfl rfl ?_
        refine g_goto C X211 d4_31 (pc' := 2) (by decide) (by decide) ?_
        refine g_iloadN C X211 (pc' := 3) d4_2 rfl rfl ?_
        refine g_aloadN C X211 (pc' := 4) d4_3 rfl rfl rfl ?_
        refine g_getF C X211 (host := "") (Or.inl (hw _ (List.mem_of_getElem? (i := 16) rfl))) Via.refl e211 F1 d4_4 rfl ?_
        intro T212 X212 e212
        refine g_len C X212 (pc' := 8) e212 At d4_7 rfl ?_
        refine g_icmpN C X212 d4_8 (by decide) rfl ?_
        refine g_aloadN C X212 (pc' := 12) d4_11 rfl rfl rfl ?_
        refine g_aloadN C X212 (pc' := 13) d4_12 rfl rfl rfl ?_
        refine g_getF C X212 (host := "") (Or.inl (hw _ (List.mem_of_getElem? (i := 16) rfl))) Via.refl e212 F1 d4_13 rfl ?_
        intro T213 X213 e213
        refine g_iloadN C X213 (pc' := 17) d4_16 rfl rfl ?_
        refine g_iaload C X213 (pc' := 18) e213 At (by decide) (by decide) 3 (by decide) rfl d4_17 rfl ?_
        rcases own_one hT.2.2.2.1 with rfl | rfl | rfl | rfl
        · show Go p.tables e below _ T213 (mkF m 18 #[.val (.ref a), .val (.ref b), .val (.int (3 : Int32))] [(.int (0 : Int32)), (.ref b)])
          refine g_dup2 C X213 (pc' := 19) d4_18 rfl rfl rfl ?_
          refine g_daload C X213 (pc' := 20) e213 Ad (by decide) (by decide) 0 (by decide) rfl d4_19 rfl ?_
          refine g_aloadN C X213 (pc' := 21) d4_20 rfl rfl rfl ?_
          refine g_getF C X213 (host := "") (Or.inl (hw _ (List.mem_of_getElem? (i := 18) rfl))) Via.refl e213 F2 d4_21 rfl ?_
          intro T214 X214 e214
          refine g_iloadN C X214 (pc' := 25) d4_24 rfl rfl ?_
          refine g_daload C X214 (pc' := 26) e214 Aw (by decide) (by decide) 3 (by decide) rfl d4_25 rfl ?_
          have D159 : FP.Core.DInt (k0 + i3) (FP.dadd d0 w3) := dadd_D D0 W3 (by show _ ≤ 9007199254740992; omega)
          refine g_dadd C X214 (pc' := 27) d4_26 (nn_of_int D159) rfl ?_
          refine g_dastore C X214 (pc' := 28) e214 Ad (by decide) (by decide) 0 0 (by decide) (of_decide_eq_true rfl) d4_27 rfl ?_
          intro T215 h215 X215 e215 W215 Aq
          have F1 := F1.other W215 (Or.inl n_a)
          have F2 := F2.other W215 (Or.inl n_a)
          have At := At.other W215 n_ta
          have Aw := Aw.other W215 n_aw
          have Z215 : n0 ≤ h215.size := by rw [W215.size]; exact Z211
          have N215 := Fr.snoc X215 N211 z_b
          have P215 := P211.wr W215 (Or.inl (List.mem_of_getElem? (i := 0) rfl))
          have Ad : Arv Z h215 b kd .double (4 : Int32) [(.double (FP.dadd d0 w3)), (.double (FP.dadd d1 w1)), (.double (FP.dadd d2 w2)), (.double (FP.dadd d3 w0))] (.double (0 : UInt64)) := Aq
          refine g_iinc C X215 (pc' := 31) d4_28 rfl (z := (4 : Int32)) (by decide) (l' := #[.val (.ref a), .val (.ref b), .val (.int (4 : Int32))]) rfl rfl ?_
          refine g_goto C X215 d4_31 (pc' := 2) (by decide) (by decide) ?_
          refine g_iloadN C X215 (pc' := 3) d4_2 rfl rfl ?_
          refine g_aloadN C X215 (pc' := 4) d4_3 rfl rfl rfl ?_
          refine g_getF C X215 (host := "") (Or.inl (hw _ (List.mem_of_getElem? (i := 16) rfl))) Via.refl e215 F1 d4_4 rfl ?_
          intro T216 X216 e216
          refine g_len C X216 (pc' := 8) e216 At d4_7 rfl ?_
          refine g_icmpY C X216 d4_8 (pc' := 34) (by decide) (by decide) (by decide) ?_
          have q0 := own_c0
          have q1 := own_c1
          have q2 := own_c2
          have q3 := own_c3
          have P0 : own_p 4 (3 : Int32) (1 : Int32) (2 : Int32) (0 : Int32) i0 i1 i2 i3 0 i3 := by unfold own_p; refine ⟨fun _ _ => ?_, fun _ _ => ?_, fun _ _ => ?_, fun _ _ => ?_, fun _ _ _ _ => ?_⟩ <;> omega
          have P1 : own_p 4 (3 : Int32) (1 : Int32) (2 : Int32) (0 : Int32) i0 i1 i2 i3 1 i1 := by unfold own_p; refine ⟨fun _ _ => ?_, fun _ _ => ?_, fun _ _ => ?_, fun _ _ => ?_, fun _ _ _ _ => ?_⟩ <;> omega
          have P2 : own_p 4 (3 : Int32) (1 : Int32) (2 : Int32) (0 : Int32) i0 i1 i2 i3 2 i2 := by unfold own_p; refine ⟨fun _ _ => ?_, fun _ _ => ?_, fun _ _ => ?_, fun _ _ => ?_, fun _ _ _ _ => ?_⟩ <;> omega
          have P3 : own_p 4 (3 : Int32) (1 : Int32) (2 : Int32) (0 : Int32) i0 i1 i2 i3 3 i0 := by unfold own_p; refine ⟨fun _ _ => ?_, fun _ _ => ?_, fun _ _ => ?_, fun _ _ => ?_, fun _ _ _ _ => ?_⟩ <;> omega
          exact g_return C X216 d4_34 ⟨rfl, N215, by rw [e216]; exact P215, FP.dadd d0 w3, FP.dadd d1 w1, FP.dadd d2 w2, FP.dadd d3 w0, i3, i1, i2, i0, D159, D155, D158, D149, P0, P1, P2, P3, by rw [e216]; exact Ad⟩ (by decide) (by decide)
        · exact absurd rfl hT.2.2.2.2.2.2.2.2.1
        · exact absurd rfl hT.2.2.2.2.2.2.2.2.2
        · exact absurd rfl hT.2.2.2.2.2.2.1
      · exact absurd rfl hT.2.2.2.2.2.1
    · show Go p.tables e below _ T180 (mkF m 18 #[.val (.ref a), .val (.ref b), .val (.int (1 : Int32))] [(.int (2 : Int32)), (.ref b)])
      refine g_dup2 C X180 (pc' := 19) d4_18 rfl rfl rfl ?_
      refine g_daload C X180 (pc' := 20) e180 Ad (by decide) (by decide) 2 (by decide) rfl d4_19 rfl ?_
      refine g_aloadN C X180 (pc' := 21) d4_20 rfl rfl rfl ?_
      refine g_getF C X180 (host := "") (Or.inl (hw _ (List.mem_of_getElem? (i := 18) rfl))) Via.refl e180 F2 d4_21 rfl ?_
      intro T217 X217 e217
      refine g_iloadN C X217 (pc' := 25) d4_24 rfl rfl ?_
      refine g_daload C X217 (pc' := 26) e217 Aw (by decide) (by decide) 1 (by decide) rfl d4_25 rfl ?_
      have D160 : FP.Core.DInt (k2 + i1) (FP.dadd d2 w1) := dadd_D D2 W1 (by show _ ≤ 9007199254740992; omega)
      refine g_dadd C X217 (pc' := 27) d4_26 (nn_of_int D160) rfl ?_
      refine g_dastore C X217 (pc' := 28) e217 Ad (by decide) (by decide) 2 0 (by decide) (of_decide_eq_true rfl) d4_27 rfl ?_
      intro T218 h218 X218 e218 W218 Aq
      have F1 := F1.other W218 (Or.inl n_a)
      have F2 := F2.other W218 (Or.inl n_a)
      have At := At.other W218 n_ta
      have Aw := Aw.other W218 n_aw
      have Z218 : n0 ≤ h218.size := by rw [W218.size]; exact Z178
      have N218 := Fr.snoc X218 N178 z_b
      have P218 := P178.wr W218 (Or.inl (List.mem_of_getElem? (i := 0) rfl))
      have Ad : Arv Z h218 b kd .double (4 : Int32) [(.double d0), (.double d1), (.double (FP.dadd d2 w1)), (.double (FP.dadd d3 w0))] (.double (0 : UInt64)) := Aq
      refine g_iinc C X218 (pc' := 31) d4_28 rfl (z := (2 : Int32)) (by decide) (l' := #[.val (.ref a), .val (.ref b), .val (.int (2 : Int32))]) rfl rfl ?_
      refine g_goto C X218 d4_31 (pc' := 2) (by decide) (by decide) ?_
      refine g_iloadN C X218 (pc' := 3) d4_2 rfl rfl ?_
      refine g_aloadN C X218 (pc' := 4) d4_3 rfl rfl rfl ?_
      refine g_getF C X218 (host := "") (Or.inl (hw _ (List.mem_of_getElem? (i := 16) rfl))) Via.refl e218 F1 d4_4 rfl ?_
      intro T219 X219 e219
      refine g_len C X219 (pc' := 8) e219 At d4_7 rfl ?_
      refine g_icmpN C X219 d4_8 (by decide) rfl ?_
      refine g_aloadN C X219 (pc' := 12) d4_11 rfl rfl rfl ?_
      refine g_aloadN C X219 (pc' := 13) d4_12 rfl rfl rfl ?_
      refine g_getF C X219 (host := "") (Or.inl (hw _ (List.mem_of_getElem? (i := 16) rfl))) Via.refl e219 F1 d4_13 rfl ?_
      intro T220 X220 e220
      refine g_iloadN C X220 (pc' := 17) d4_16 rfl rfl ?_
      refine g_iaload C X220 (pc' := 18) e220 At (by decide) (by decide) 2 (by decide) rfl d4_17 rfl ?_
      rcases own_one hT.2.2.1 with rfl | rfl | rfl | rfl
      · show Go p.tables e below _ T220 (mkF m 18 #[.val (.ref a), .val (.ref b), .val (.int (2 : Int32))] [(.int (0 : Int32)), (.ref b)])
        refine g_dup2 C X220 (pc' := 19) d4_18 rfl rfl rfl ?_
        refine g_daload C X220 (pc' := 20) e220 Ad (by decide) (by decide) 0 (by decide) rfl d4_19 rfl ?_
        refine g_aloadN C X220 (pc' := 21) d4_20 rfl rfl rfl ?_
        refine g_getF C X220 (host := "") (Or.inl (hw _ (List.mem_of_getElem? (i := 18) rfl))) Via.refl e220 F2 d4_21 rfl ?_
        intro T221 X221 e221
        refine g_iloadN C X221 (pc' := 25) d4_24 rfl rfl ?_
        refine g_daload C X221 (pc' := 26) e221 Aw (by decide) (by decide) 2 (by decide) rfl d4_25 rfl ?_
        have D161 : FP.Core.DInt (k0 + i2) (FP.dadd d0 w2) := dadd_D D0 W2 (by show _ ≤ 9007199254740992; omega)
        refine g_dadd C X221 (pc' := 27) d4_26 (nn_of_int D161) rfl ?_
        refine g_dastore C X221 (pc' := 28) e221 Ad (by decide) (by decide) 0 0 (by decide) (of_decide_eq_true rfl) d4_27 rfl ?_
        intro T222 h222 X222 e222 W222 Aq
        have F1 := F1.other W222 (Or.inl n_a)
        have F2 := F2.other W222 (Or.inl n_a)
        have At := At.other W222 n_ta
        have Aw := Aw.other W222 n_aw
        have Z222 : n0 ≤ h222.size := by rw [W222.size]; exact Z218
        have N222 := Fr.snoc X222 N218 z_b
        have P222 := P218.wr W222 (Or.inl (List.mem_of_getElem? (i := 0) rfl))
        have Ad : Arv Z h222 b kd .double (4 : Int32) [(.double (FP.dadd d0 w2)), (.double d1), (.double (FP.dadd d2 w1)), (.double (FP.dadd d3 w0))] (.double (0 : UInt64)) := Aq
        refine g_iinc C X222 (pc' := 31) d4_28 rfl (z := (3 : Int32)) (by decide) (l' := #[.val (.ref a), .val (.ref b), .val (.int (3 : Int32))]) rfl rfl ?_
        refine g_goto C X222 d4_31 (pc' := 2) (by decide) (by decide) ?_
        refine g_iloadN C X222 (pc' := 3) d4_2 rfl rfl ?_
        refine g_aloadN C X222 (pc' := 4) d4_3 rfl rfl rfl ?_
        refine g_getF C X222 (host := "") (Or.inl (hw _ (List.mem_of_getElem? (i := 16) rfl))) Via.refl e222 F1 d4_4 rfl ?_
        intro T223 X223 e223
        refine g_len C X223 (pc' := 8) e223 At d4_7 rfl ?_
        refine g_icmpN C X223 d4_8 (by decide) rfl ?_
        refine g_aloadN C X223 (pc' := 12) d4_11 rfl rfl rfl ?_
        refine g_aloadN C X223 (pc' := 13) d4_12 rfl rfl rfl ?_
        refine g_getF C X223 (host := "") (Or.inl (hw _ (List.mem_of_getElem? (i := 16) rfl))) Via.refl e223 F1 d4_13 rfl ?_
        intro T224 X224 e224
        refine g_iloadN C X224 (pc' := 17) d4_16 rfl rfl ?_
        refine g_iaload C X224 (pc' := 18) e224 At (by decide) (by decide) 3 (by decide) rfl d4_17 rfl ?_
        rcases own_one hT.2.2.2.1 with rfl | rfl | rfl | rfl
        · exact absurd rfl hT.2.2.2.2.2.2.2.2.2
        · show Go p.tables e below _ T224 (mkF m 18 #[.val (.ref a), .val (.ref b), .val (.int (3 : Int32))] [(.int (1 : Int32)), (.ref b)])
          refine g_dup2 C X224 (pc' := 19) d4_18 rfl rfl rfl ?_
          refine g_daload C X224 (pc' := 20) e224 Ad (by decide) (by decide) 1 (by decide) rfl d4_19 rfl ?_
          refine g_aloadN C X224 (pc' := 21) d4_20 rfl rfl rfl ?_
          refine g_getF C X224 (host := "") (Or.inl (hw _ (List.mem_of_getElem? (i := 18) rfl))) Via.refl e224 F2 d4_21 rfl ?_
          intro T225 X225 e225
          refine g_iloadN C X225 (pc' := 25) d4_24 rfl rfl ?_
          refine g_daload C X225 (pc' := 26) e225 Aw (by decide) (by decide) 3 (by decide) rfl d4_25 rfl ?_
          have D162 : FP.Core.DInt (k1 + i3) (FP.dadd d1 w3) := dadd_D D1 W3 (by show _ ≤ 9007199254740992; omega)
          refine g_dadd C X225 (pc' := 27) d4_26 (nn_of_int D162) rfl ?_
          refine g_dastore C X225 (pc' := 28) e225 Ad (by decide) (by decide) 1 0 (by decide) (of_decide_eq_true rfl) d4_27 rfl ?_
          intro T226 h226 X226 e226 W226 Aq
          have F1 := F1.other W226 (Or.inl n_a)
          have F2 := F2.other W226 (Or.inl n_a)
          have At := At.other W226 n_ta
          have Aw := Aw.other W226 n_aw
          have Z226 : n0 ≤ h226.size := by rw [W226.size]; exact Z222
          have N226 := Fr.snoc X226 N222 z_b
          have P226 := P222.wr W226 (Or.inl (List.mem_of_getElem? (i := 0) rfl))
          have Ad : Arv Z h226 b kd .double (4 : Int32) [(.double (FP.dadd d0 w2)), (.double (FP.dadd d1 w3)), (.double (FP.dadd d2 w1)), (.double (FP.dadd d3 w0))] (.double (0 : UInt64)) := Aq
          refine g_iinc C X226 (pc' := 31) d4_28 rfl (z := (4 : Int32)) (by decide) (l' := #[.val (.ref a), .val (.ref b), .val (.int (4 : Int32))]) rfl rfl ?_
          refine g_goto C X226 d4_31 (pc' := 2) (by decide) (by decide) ?_
          refine g_iloadN C X226 (pc' := 3) d4_2 rfl rfl ?_
          refine g_aloadN C X226 (pc' := 4) d4_3 rfl rfl rfl ?_
          refine g_getF C X226 (host := "") (Or.inl (hw _ (List.mem_of_getElem? (i := 16) rfl))) Via.refl e226 F1 d4_4 rfl ?_
          intro T227 X227 e227
          refine g_len C X227 (pc' := 8) e227 At d4_7 rfl ?_
          refine g_icmpY C X227 d4_8 (pc' := 34) (by decide) (by decide) (by decide) ?_
          have q0 := own_c0
          have q1 := own_c1
          have q2 := own_c2
          have q3 := own_c3
          have P0 : own_p 4 (3 : Int32) (2 : Int32) (0 : Int32) (1 : Int32) i0 i1 i2 i3 0 i2 := by unfold own_p; refine ⟨fun _ _ => ?_, fun _ _ => ?_, fun _ _ => ?_, fun _ _ => ?_, fun _ _ _ _ => ?_⟩ <;> omega
          have P1 : own_p 4 (3 : Int32) (2 : Int32) (0 : Int32) (1 : Int32) i0 i1 i2 i3 1 i3 := by unfold own_p; refine ⟨fun _ _ => ?_, fun _ _ => ?_, fun _ _ => ?_, fun _ _ => ?_, fun _ _ _ _ => ?_⟩ <;> omega
          have P2 : own_p 4 (3 : Int32) (2 : Int32) (0 : Int32) (1 : Int32) i0 i1 i2 i3 2 i1 := by unfold own_p; refine ⟨fun _ _ => ?_, fun _ _ => ?_, fun _ _ => ?_, fun _ _ => ?_, fun _ _ _ _ => ?_⟩ <;> omega
          have P3 : own_p 4 (3 : Int32) (2 : Int32) (0 : Int32) (1 : Int32) i0 i1 i2 i3 3 i0 := by unfold own_p; refine ⟨fun _ _ => ?_, fun _ _ => ?_, fun _ _ => ?_, fun _ _ => ?_, fun _ _ _ _ => ?_⟩ <;> omega
          exact g_return C X227 d4_34 ⟨rfl, N226, by rw [e227]; exact P226, FP.dadd d0 w2, FP.dadd d1 w3, FP.dadd d2 w1, FP.dadd d3 w0, i2, i3, i1, i0, D161, D162, D160, D149, P0, P1, P2, P3, by rw [e227]; exact Ad⟩ (by decide) (by decide)
        · exact absurd rfl hT.2.2.2.2.2.2.2.2.1
        · exact absurd rfl hT.2.2.2.2.2.2.1
      · show Go p.tables e below _ T220 (mkF m 18 #[.val (.ref a), .val (.ref b), .val (.int (2 : Int32))] [(.int (1 : Int32)), (.ref b)])
        refine g_dup2 C X220 (pc' := 19) d4_18 rfl rfl rfl ?_
        refine g_daload C X220 (pc' := 20) e220 Ad (by decide) (by decide) 1 (by decide) rfl d4_19 rfl ?_
        refine g_aloadN C X220 (pc' := 21) d4_20 rfl rfl rfl ?_
        refine g_getF C X220 (host := "") (Or.inl (hw _ (List.mem_of_getElem? (i := 18) rfl))) Via.refl e220 F2 d4_21 rfl ?_
        intro T228 X228 e228
        refine g_iloadN C X228 (pc' := 25) d4_24 rfl rfl ?_
        refine g_daload C X228 (pc' := 26) e228 Aw (by decide) (by decide) 2 (by decide) rfl d4_25 rfl ?_
        have D163 : FP.Core.DInt (k1 + i2) (FP.dadd d1 w2) := dadd_D D1 W2 (by show _ ≤ 9007199254740992; omega)
        refine g_dadd C X228 (pc' := 27) d4_26 (nn_of_int D163) rfl ?_
        refine g_dastore C X228 (pc' := 28) e228 Ad (by decide) (by decide) 1 0 (by decide) (of_decide_eq_true rfl) d4_27 rfl ?_
        intro T229 h229 X229 e229 W229 Aq
        have F1 := F1.other W229 (Or.inl n_a)
        have F2 := F2.other W229 (Or.inl n_a)
        have At := At.other W229 n_ta
        have Aw := Aw.other W229 n_aw
        have Z229 : n0 ≤ h229.size := by rw [W229.size]; exact Z218
        have N229 := Fr.snoc X229 N218 z_b
        have P229 := P218.wr W229 (Or.inl (List.mem_of_getElem? (i := 0) rfl))
        have Ad : Arv Z h229 b kd .double (4 : Int32) [(.double d0), (.double (FP.dadd d1 w2)), (.double (FP.dadd d2 w1)), (.double (FP.dadd d3 w0))] (.double (0 : UInt64)) := Aq
        refine g_iinc C X229 (pc' := 31) d4_28 rfl (z := (3 : Int32)) (by decide) (l' := #[.val (.ref a), .val (.ref b), .val (.int (3 : Int32))]) rfl rfl ?_
        refine g_goto C X229 d4_31 (pc' := 2) (by decide) (by decide) ?_
        refine g_iloadN C X229 (pc' := 3) d4_2 rfl rfl ?_
        refine g_aloadN C X229 (pc' := 4) d4_3 rfl rfl rfl ?_
        refine g_getF C X229 (host := "") (Or.inl (hw _ (List.mem_of_getElem? (i := 16) rfl))) Via.refl e229 F1 d4_4 rfl ?_
        intro T230 X230 e230
        refine g_len C X230 (pc' := 8) e230 At d4_7 rfl ?_
        refine g_icmpN C X230 d4_8 (by decide) rfl ?_
        refine g_aloadN C X230 (pc' := 12) d4_11 rfl rfl rfl ?_
        refine g_aloadN C X230 (pc' := 13) d4_12 rfl rfl rfl ?_
        refine g_getF C X230 (host := "") (Or.inl (hw _ (List.mem_of_getElem? (i := 16) rfl))) Via.refl e230 F1 d4_13 rfl ?_
        intro T231 X231 e231
        refine g_iloadN C X231 (pc' := 17) d4_16 rfl rfl ?_
        refine g_iaload C X231 (pc' := 18) e231 At (by decide) (by decide) 3 (by decide) rfl d4_17 rfl ?_
        rcases own_one hT.2.2.2.1 with rfl | rfl | rfl | rfl
        · show Go p.tables e below _ T231 (mkF m 18 #[.val (.ref a), .val (.ref b), .val (.int (3 : Int32))] [(.int (0 : Int32)), (.ref b)])
          refine g_dup2 C X231 (pc' := 19) d4_18 rfl rfl rfl ?_
          refine g_daload C X231 (pc' := 20) e231 Ad (by decide) (by decide) 0 (by decide) rfl d4_19 rfl ?_
          refine g_aloadN C X231 (pc' := 21) d4_20 rfl rfl rfl ?_
          refine g_getF C X231 (host := "") (Or.inl (hw _ (List.mem_of_getElem? (i := 18) rfl))) Via.refl e231 F2 d4_21 rfl ?_
          intro T232 X232 e232
          refine g_iloadN C X232 (pc' := 25) d4_24 rfl rfl ?_
          refine g_daload C X232 (pc' := 26) e232 Aw (by decide) (by decide) 3 (by decide) rfl d4_25 rfl ?_
          have D164 : FP.Core.DInt (k0 + i3) (FP.dadd d0 w3) := dadd_D D0 W3 (by show _ ≤ 9007199254740992; omega)
          refine g_dadd C X232 (pc' := 27) d4_26 (nn_of_int D164) rfl ?_
          refine g_dastore C X232 (pc' := 28) e232 Ad (by decide) (by decide) 0 0 (by decide) (of_decide_eq_true rfl) d4_27 rfl ?_
          intro T233 h233 X233 e233 W233 Aq
          have F1 := F1.other W233 (Or.inl n_a)
          have F2 := F2.other W233 (Or.inl n_a)
          have At := At.other W233 n_ta
          have Aw := Aw.other W233 n_aw
          have Z233 : n0 ≤ h233.size := by rw [W233.size]; exact Z229
          have N233 := Fr.snoc X233 N229 z_b
          have P233 := P229.wr W233 (Or.inl (List.mem_of_getElem? (i := 0) rfl))
          have Ad : Arv Z h233 b kd .double (4 : Int32) [(.double (FP.dadd d0 w3)), (.double (FP.dadd d1 w2)), (.double (FP.dadd d2 w1)), (.double (FP.dadd d3 w0))] (.double (0 : UInt64)) := Aq
          refine g_iinc C X233 (pc' := 31) d4_28 rfl (z := (4 : Int32)) (by decide) (l' := #[.val (.ref a), .val (.ref b), .val (.int (4 : Int32))]) rfl rfl ?_
          refine g_goto C X233 d4_31 (pc' := 2) (by decide) (by decide) ?_
          refine g_iloadN C X233 (pc' := 3) d4_2 rfl rfl ?_
          refine g_aloadN C X233 (pc' := 4) d4_3 rfl rfl rfl ?_
          refine g_getF C X233 (host := "") (Or.inl (hw _ (List.mem_of_getElem? (i := 16) rfl))) Via.refl e233 F1 d4_4 rfl ?_
          intro T234 X234 e234
          refine g_len C X234 (pc' := 8) e234 At d4_7 rfl ?_
          refine g_icmpY C X234 d4_8 (pc' := 34) (by decide) (by decide) (by decide) ?_
          have q0 := own_c0
          have q1 := own_c1
          have q2 := own_c2
          have q3 := own_c3
          have P0 : own_p 4 (3 : Int32) (2 : Int32) (1 : Int32) (0 : Int32) i0 i1 i2 i3 0 i3 := by unfold own_p; refine ⟨fun _ _ => ?_, fun _ _ => ?_, fun _ _ => ?_, fun _ _ => ?_, fun _ _ _ _ => ?_⟩ <;> omega
          have P1 : own_p 4 (3 : Int32) (2 : Int32) (1 : Int32) (0 : Int32) i0 i1 i2 i3 1 i2 := by unfold own_p; refine ⟨fun _ _ => ?_, fun _ _ => ?_, fun _ _ => ?_, fun _ _ => ?_, fun _ _ _ _ => ?_⟩ <;> omega
          have P2 : own_p 4 (3 : Int32) (2 : Int32) (1 : Int32) (0 : Int32) i0 i1 i2 i3 2 i1 := by unfold own_p; refine ⟨fun _ _ => ?_, fun _ _ => ?_, fun _ _ => ?_, fun _ _ => ?_, fun _ _ _ _ => ?_⟩ <;> omega
          have P3 : own_p 4 (3 : Int32) (2 : Int32) (1 : Int32) (0 : Int32) i0 i1 i2 i3 3 i0 := by unfold own_p; refine ⟨fun _ _ => ?_, fun _ _ => ?_, fun _ _ => ?_, fun _ _ => ?_, fun _ _ _ _ => ?_⟩ <;> omega
          exact g_return C X234 d4_34 ⟨rfl, N233, by rw [e234]; exact P233, FP.dadd d0 w3, FP.dadd d1 w2, FP.dadd d2 w1, FP.dadd d3 w0, i3, i2, i1, i0, D164, D163, D160, D149, P0, P1, P2, P3, by rw [e234]; exact Ad⟩ (by decide) (by decide)
        · exact absurd rfl hT.2.2.2.2.2.2.2.2.2
        · exact absurd rfl hT.2.2.2.2.2.2.2.2.1
        · exact absurd rfl hT.2.2.2.2.2.2.1
      · exact absurd rfl hT.2.2.2.2.2.2.2.1
      · exact absurd rfl hT.2.2.2.2.2.1
    · exact absurd rfl hT.2.2.2.2.1
set_option maxRecDepth 65536 in
set_option maxHeartbeats 40000000 in
theorem c_exp4 (l : Launch) (Z : State) (a0 : Array Value) (hw : ∀ d ∈ tables_1, d.before a0 Z = true) (h : Heap) (ta aw b : Addr) (kt kw kd : ClassId) (t0 t1 t2 t3 : Int32) (i0 i1 i2 i3 : Int) (hT : own_four t0 t1 t2 t3) (w0 : UInt64) (W0 : FP.Core.DInt i0 w0) (R0 : -2147483648 ≤ i0 ∧ i0 < 2147483648) (w1 : UInt64) (W1 : FP.Core.DInt i1 w1) (R1 : -2147483648 ≤ i1 ∧ i1 < 2147483648) (w2 : UInt64) (W2 : FP.Core.DInt i2 w2) (R2 : -2147483648 ≤ i2 ∧ i2 < 2147483648) (w3 : UInt64) (W3 : FP.Core.DInt i3 w3) (R3 : -2147483648 ≤ i3 ∧ i3 < 2147483648) (d0 d1 d2 d3 : UInt64) (j : Int32) (hj : 0 ≤ j.toInt ∧ j.toInt < 4) (y : UInt64) (k : Int) (Dy : FP.Core.DInt k y) (S : -2147483648 ≤ k ∧ k < 2147483648) (hg : [Value.double d0, .double d1, .double d2, .double d3].getD j.toNatClampNeg (Value.double (0 : UInt64)) = Value.double y) (At : Arv Z h ta kt .int (4 : Int32) [.int t0, .int t1, .int t2, .int t3] (.int (0 : Int32))) (Aw : Arv Z h aw kw .double (4 : Int32) [.double w0, .double w1, .double w2, .double w3] (.double (0 : UInt64))) (Ad : Arv Z h b kd .double (4 : Int32) [.double d0, .double d1, .double d2, .double d3] (.double (0 : UInt64))) :
    Con l Z (⟨"com/example/kenning/kenning/retrieval/VectorAddToPinLaw", "expected", "(II[I[D[D)D"⟩ : MethodName) method_3_code 7 (some .double) ⟨0, 0, 0, 0⟩ #[.int j, .int (4 : Int32), .ref ta, .ref aw, .ref b] h (fun v h' L => ∃ r A, v = some (.double r) ∧ FP.Core.DInt (k + A) r ∧ own_p 4 t0 t1 t2 t3 i0 i1 i2 i3 j.toInt A ∧ L = [] ∧ h' = h) := by
  refine con_of_go pnE (fun m => efE m j _ ta aw b) ?_
  intro p e s m below meth c T0 C X0 e0
  refine g_dconst0 C X0 (pc' := 1) d5_0 rfl rfl ?_
  refine g_dstore C X0 (pc' := 3) d5_1 (x := FP.dconst0) rfl (l' := #[.val (.int j), .val (.int (4 : Int32)), .val (.ref ta), .val (.ref aw), .val (.ref b), .val (.double FP.dconst0), .second]) rfl rfl ?_
  refine g_iloadN C X0 (pc' := 4) d5_3 rfl rfl ?_
  refine g_ifN C X0 d5_4 (by decide) rfl ?_
  refine g_aloadN C X0 (pc' := 8) d5_7 rfl rfl rfl ?_
  refine g_iconst C X0 (pc' := 9) d5_8 (v := (0 : Int32)) (by decide) rfl ?_
  refine g_iaload C X0 (pc' := 10) e0 At (by decide) (by decide) 0 (by decide) rfl d5_9 rfl ?_
  refine g_iloadN C X0 (pc' := 11) d5_10 rfl rfl ?_
  refine g_icmp C X0 d5_11 (pc' := 19) (pc'' := 14) (by decide) (by decide) rfl (fun c11 => ?_) (fun c11 => ?_)
  · have c11 : ¬ (t0.toInt = j.toInt) := c11
    refine g_iloadN C X0 (pc' := 20) d5_19 rfl rfl ?_
    refine g_iconst C X0 (pc' := 21) d5_20 (v := (1 : Int32)) (by decide) rfl ?_
    refine g_icmpN C X0 d5_21 (by decide) rfl ?_
    refine g_aloadN C X0 (pc' := 25) d5_24 rfl rfl rfl ?_
    refine g_iconst C X0 (pc' := 26) d5_25 (v := (1 : Int32)) (by decide) rfl ?_
    refine g_iaload C X0 (pc' := 27) e0 At (by decide) (by decide) 1 (by decide) rfl d5_26 rfl ?_
    refine g_iloadN C X0 (pc' := 28) d5_27 rfl rfl ?_
    refine g_icmp C X0 d5_28 (pc' := 36) (pc'' := 31) (by decide) (by decide) rfl (fun c28 => ?_) (fun c28 => ?_)
    · have c28 : ¬ (t1.toInt = j.toInt) := c28
      refine g_iloadN C X0 (pc' := 37) d5_36 rfl rfl ?_
      refine g_iconst C X0 (pc' := 38) d5_37 (v := (2 : Int32)) (by decide) rfl ?_
      refine g_icmpN C X0 d5_38 (by decide) rfl ?_
      refine g_aloadN C X0 (pc' := 42) d5_41 rfl rfl rfl ?_
      refine g_iconst C X0 (pc' := 43) d5_42 (v := (2 : Int32)) (by decide) rfl ?_
      refine g_iaload C X0 (pc' := 44) e0 At (by decide) (by decide) 2 (by decide) rfl d5_43 rfl ?_
      refine g_iloadN C X0 (pc' := 45) d5_44 rfl rfl ?_
      refine g_icmp C X0 d5_45 (pc' := 53) (pc'' := 48) (by decide) (by decide) rfl (fun c45 => ?_) (fun c45 => ?_)
      · have c45 : ¬ (t2.toInt = j.toInt) := c45
        refine g_iloadN C X0 (pc' := 54) d5_53 rfl rfl ?_
        refine g_iconst C X0 (pc' := 55) d5_54 (v := (3 : Int32)) (by decide) rfl ?_
        refine g_icmpN C X0 d5_55 (by decide) rfl ?_
        refine g_aloadN C X0 (pc' := 59) d5_58 rfl rfl rfl ?_
        refine g_iconst C X0 (pc' := 60) d5_59 (v := (3 : Int32)) (by decide) rfl ?_
        refine g_iaload C X0 (pc' := 61) e0 At (by decide) (by decide) 3 (by decide) rfl d5_60 rfl ?_
        refine g_iloadN C X0 (pc' := 62) d5_61 rfl rfl ?_
        refine g_icmp C X0 d5_62 (pc' := 70) (pc'' := 65) (by decide) (by decide) rfl (fun c62 => ?_) (fun c62 => ?_)
        · have c62 : ¬ (t3.toInt = j.toInt) := c62
          refine g_aload C X0 (pc' := 72) d5_70 rfl rfl rfl ?_
          refine g_iloadN C X0 (pc' := 73) d5_72 rfl rfl ?_
          refine g_daload C X0 (pc' := 74) e0 Ad hj.1 hj.2 j.toNatClampNeg rfl hg d5_73 rfl ?_
          refine g_dload C X0 (pc' := 76) d5_74 rfl rfl ?_
          have D101 : FP.Core.DInt (k + 0) (FP.dadd y FP.dconst0) := dadd_D Dy dint_zero (by show _ ≤ 9007199254740992; omega)
          refine g_dadd C X0 (pc' := 77) d5_76 (nn_of_int D101) rfl ?_
          have P : own_p 4 t0 t1 t2 t3 i0 i1 i2 i3 j.toInt 0 := by unfold own_p; unfold own_four at hT; refine ⟨fun _ _ => ?_, fun _ _ => ?_, fun _ _ => ?_, fun _ _ => ?_, fun _ _ _ _ => ?_⟩ <;> omega
          exact g_dreturn C X0 d5_77 ⟨_, 0, rfl, D101, P, rfl, e0⟩ (by decide) (by decide)
        · have c62 : t3.toInt = j.toInt := Decidable.not_not.mp c62
          refine g_aloadN C X0 (pc' := 66) d5_65 rfl rfl rfl ?_
          refine g_iconst C X0 (pc' := 67) d5_66 (v := (3 : Int32)) (by decide) rfl ?_
          refine g_daload C X0 (pc' := 68) e0 Aw (by decide) (by decide) 3 (by decide) rfl d5_67 rfl ?_
          refine g_dstore C X0 (pc' := 70) d5_68 (x := w3) rfl (l' := #[.val (.int j), .val (.int (4 : Int32)), .val (.ref ta), .val (.ref aw), .val (.ref b), .val (.double w3), .second]) rfl rfl ?_
          refine g_aload C X0 (pc' := 72) d5_70 rfl rfl rfl ?_
          refine g_iloadN C X0 (pc' := 73) d5_72 rfl rfl ?_
          refine g_daload C X0 (pc' := 74) e0 Ad hj.1 hj.2 j.toNatClampNeg rfl hg d5_73 rfl ?_
          refine g_dload C X0 (pc' := 76) d5_74 rfl rfl ?_
          have D102 : FP.Core.DInt (k + i3) (FP.dadd y w3) := dadd_D Dy W3 (by show _ ≤ 9007199254740992; omega)
          refine g_dadd C X0 (pc' := 77) d5_76 (nn_of_int D102) rfl ?_
          have P : own_p 4 t0 t1 t2 t3 i0 i1 i2 i3 j.toInt i3 := by unfold own_p; unfold own_four at hT; refine ⟨fun _ _ => ?_, fun _ _ => ?_, fun _ _ => ?_, fun _ _ => ?_, fun _ _ _ _ => ?_⟩ <;> omega
          exact g_dreturn C X0 d5_77 ⟨_, i3, rfl, D102, P, rfl, e0⟩ (by decide) (by decide)
      · have c45 : t2.toInt = j.toInt := Decidable.not_not.mp c45
        refine g_aloadN C X0 (pc' := 49) d5_48 rfl rfl rfl ?_
        refine g_iconst C X0 (pc' := 50) d5_49 (v := (2 : Int32)) (by decide) rfl ?_
        refine g_daload C X0 (pc' := 51) e0 Aw (by decide) (by decide) 2 (by decide) rfl d5_50 rfl ?_
        refine g_dstore C X0 (pc' := 53) d5_51 (x := w2) rfl (l' := #[.val (.int j), .val (.int (4 : Int32)), .val (.ref ta), .val (.ref aw), .val (.ref b), .val (.double w2), .second]) rfl rfl ?_
        refine g_iloadN C X0 (pc' := 54) d5_53 rfl rfl ?_
        refine g_iconst C X0 (pc' := 55) d5_54 (v := (3 : Int32)) (by decide) rfl ?_
        refine g_icmpN C X0 d5_55 (by decide) rfl ?_
        refine g_aloadN C X0 (pc' := 59) d5_58 rfl rfl rfl ?_
        refine g_iconst C X0 (pc' := 60) d5_59 (v := (3 : Int32)) (by decide) rfl ?_
        refine g_iaload C X0 (pc' := 61) e0 At (by decide) (by decide) 3 (by decide) rfl d5_60 rfl ?_
        refine g_iloadN C X0 (pc' := 62) d5_61 rfl rfl ?_
        refine g_icmp C X0 d5_62 (pc' := 70) (pc'' := 65) (by decide) (by decide) rfl (fun c62 => ?_) (fun c62 => ?_)
        · have c62 : ¬ (t3.toInt = j.toInt) := c62
          refine g_aload C X0 (pc' := 72) d5_70 rfl rfl rfl ?_
          refine g_iloadN C X0 (pc' := 73) d5_72 rfl rfl ?_
          refine g_daload C X0 (pc' := 74) e0 Ad hj.1 hj.2 j.toNatClampNeg rfl hg d5_73 rfl ?_
          refine g_dload C X0 (pc' := 76) d5_74 rfl rfl ?_
          have D103 : FP.Core.DInt (k + i2) (FP.dadd y w2) := dadd_D Dy W2 (by show _ ≤ 9007199254740992; omega)
          refine g_dadd C X0 (pc' := 77) d5_76 (nn_of_int D103) rfl ?_
          have P : own_p 4 t0 t1 t2 t3 i0 i1 i2 i3 j.toInt i2 := by unfold own_p; unfold own_four at hT; refine ⟨fun _ _ => ?_, fun _ _ => ?_, fun _ _ => ?_, fun _ _ => ?_, fun _ _ _ _ => ?_⟩ <;> omega
          exact g_dreturn C X0 d5_77 ⟨_, i2, rfl, D103, P, rfl, e0⟩ (by decide) (by decide)
        · have c62 : t3.toInt = j.toInt := Decidable.not_not.mp c62
          refine g_aloadN C X0 (pc' := 66) d5_65 rfl rfl rfl ?_
          refine g_iconst C X0 (pc' := 67) d5_66 (v := (3 : Int32)) (by decide) rfl ?_
          refine g_daload C X0 (pc' := 68) e0 Aw (by decide) (by decide) 3 (by decide) rfl d5_67 rfl ?_
          refine g_dstore C X0 (pc' := 70) d5_68 (x := w3) rfl (l' := #[.val (.int j), .val (.int (4 : Int32)), .val (.ref ta), .val (.ref aw), .val (.ref b), .val (.double w3), .second]) rfl rfl ?_
          refine g_aload C X0 (pc' := 72) d5_70 rfl rfl rfl ?_
          refine g_iloadN C X0 (pc' := 73) d5_72 rfl rfl ?_
          refine g_daload C X0 (pc' := 74) e0 Ad hj.1 hj.2 j.toNatClampNeg rfl hg d5_73 rfl ?_
          refine g_dload C X0 (pc' := 76) d5_74 rfl rfl ?_
          have D104 : FP.Core.DInt (k + i3) (FP.dadd y w3) := dadd_D Dy W3 (by show _ ≤ 9007199254740992; omega)
          refine g_dadd C X0 (pc' := 77) d5_76 (nn_of_int D104) rfl ?_
          have P : own_p 4 t0 t1 t2 t3 i0 i1 i2 i3 j.toInt i3 := by unfold own_p; unfold own_four at hT; refine ⟨fun _ _ => ?_, fun _ _ => ?_, fun _ _ => ?_, fun _ _ => ?_, fun _ _ _ _ => ?_⟩ <;> omega
          exact g_dreturn C X0 d5_77 ⟨_, i3, rfl, D104, P, rfl, e0⟩ (by decide) (by decide)
    · have c28 : t1.toInt = j.toInt := Decidable.not_not.mp c28
      refine g_aloadN C X0 (pc' := 32) d5_31 rfl rfl rfl ?_
      refine g_iconst C X0 (pc' := 33) d5_32 (v := (1 : Int32)) (by decide) rfl ?_
      refine g_daload C X0 (pc' := 34) e0 Aw (by decide) (by decide) 1 (by decide) rfl d5_33 rfl ?_
      refine g_dstore C X0 (pc' := 36) d5_34 (x := w1) rfl (l' := #[.val (.int j), .val (.int (4 : Int32)), .val (.ref ta), .val (.ref aw), .val (.ref b), .val (.double w1), .second]) rfl rfl ?_
      refine g_iloadN C X0 (pc' := 37) d5_36 rfl rfl ?_
      refine g_iconst C X0 (pc' := 38) d5_37 (v := (2 : Int32)) (by decide) rfl ?_
      refine g_icmpN C X0 d5_38 (by decide) rfl ?_
      refine g_aloadN C X0 (pc' := 42) d5_41 rfl rfl rfl ?_
      refine g_iconst C X0 (pc' := 43) d5_42 (v := (2 : Int32)) (by decide) rfl ?_
      refine g_iaload C X0 (pc' := 44) e0 At (by decide) (by decide) 2 (by decide) rfl d5_43 rfl ?_
      refine g_iloadN C X0 (pc' := 45) d5_44 rfl rfl ?_
      refine g_icmp C X0 d5_45 (pc' := 53) (pc'' := 48) (by decide) (by decide) rfl (fun c45 => ?_) (fun c45 => ?_)
      · have c45 : ¬ (t2.toInt = j.toInt) := c45
        refine g_iloadN C X0 (pc' := 54) d5_53 rfl rfl ?_
        refine g_iconst C X0 (pc' := 55) d5_54 (v := (3 : Int32)) (by decide) rfl ?_
        refine g_icmpN C X0 d5_55 (by decide) rfl ?_
        refine g_aloadN C X0 (pc' := 59) d5_58 rfl rfl rfl ?_
        refine g_iconst C X0 (pc' := 60) d5_59 (v := (3 : Int32)) (by decide) rfl ?_
        refine g_iaload C X0 (pc' := 61) e0 At (by decide) (by decide) 3 (by decide) rfl d5_60 rfl ?_
        refine g_iloadN C X0 (pc' := 62) d5_61 rfl rfl ?_
        refine g_icmp C X0 d5_62 (pc' := 70) (pc'' := 65) (by decide) (by decide) rfl (fun c62 => ?_) (fun c62 => ?_)
        · have c62 : ¬ (t3.toInt = j.toInt) := c62
          refine g_aload C X0 (pc' := 72) d5_70 rfl rfl rfl ?_
          refine g_iloadN C X0 (pc' := 73) d5_72 rfl rfl ?_
          refine g_daload C X0 (pc' := 74) e0 Ad hj.1 hj.2 j.toNatClampNeg rfl hg d5_73 rfl ?_
          refine g_dload C X0 (pc' := 76) d5_74 rfl rfl ?_
          have D105 : FP.Core.DInt (k + i1) (FP.dadd y w1) := dadd_D Dy W1 (by show _ ≤ 9007199254740992; omega)
          refine g_dadd C X0 (pc' := 77) d5_76 (nn_of_int D105) rfl ?_
          have P : own_p 4 t0 t1 t2 t3 i0 i1 i2 i3 j.toInt i1 := by unfold own_p; unfold own_four at hT; refine ⟨fun _ _ => ?_, fun _ _ => ?_, fun _ _ => ?_, fun _ _ => ?_, fun _ _ _ _ => ?_⟩ <;> omega
          exact g_dreturn C X0 d5_77 ⟨_, i1, rfl, D105, P, rfl, e0⟩ (by decide) (by decide)
        · have c62 : t3.toInt = j.toInt := Decidable.not_not.mp c62
          refine g_aloadN C X0 (pc' := 66) d5_65 rfl rfl rfl ?_
          refine g_iconst C X0 (pc' := 67) d5_66 (v := (3 : Int32)) (by decide) rfl ?_
          refine g_daload C X0 (pc' := 68) e0 Aw (by decide) (by decide) 3 (by decide) rfl d5_67 rfl ?_
          refine g_dstore C X0 (pc' := 70) d5_68 (x := w3) rfl (l' := #[.val (.int j), .val (.int (4 : Int32)), .val (.ref ta), .val (.ref aw), .val (.ref b), .val (.double w3), .second]) rfl rfl ?_
          refine g_aload C X0 (pc' := 72) d5_70 rfl rfl rfl ?_
          refine g_iloadN C X0 (pc' := 73) d5_72 rfl rfl ?_
          refine g_daload C X0 (pc' := 74) e0 Ad hj.1 hj.2 j.toNatClampNeg rfl hg d5_73 rfl ?_
          refine g_dload C X0 (pc' := 76) d5_74 rfl rfl ?_
          have D106 : FP.Core.DInt (k + i3) (FP.dadd y w3) := dadd_D Dy W3 (by show _ ≤ 9007199254740992; omega)
          refine g_dadd C X0 (pc' := 77) d5_76 (nn_of_int D106) rfl ?_
          have P : own_p 4 t0 t1 t2 t3 i0 i1 i2 i3 j.toInt i3 := by unfold own_p; unfold own_four at hT; refine ⟨fun _ _ => ?_, fun _ _ => ?_, fun _ _ => ?_, fun _ _ => ?_, fun _ _ _ _ => ?_⟩ <;> omega
          exact g_dreturn C X0 d5_77 ⟨_, i3, rfl, D106, P, rfl, e0⟩ (by decide) (by decide)
      · have c45 : t2.toInt = j.toInt := Decidable.not_not.mp c45
        refine g_aloadN C X0 (pc' := 49) d5_48 rfl rfl rfl ?_
        refine g_iconst C X0 (pc' := 50) d5_49 (v := (2 : Int32)) (by decide) rfl ?_
        refine g_daload C X0 (pc' := 51) e0 Aw (by decide) (by decide) 2 (by decide) rfl d5_50 rfl ?_
        refine g_dstore C X0 (pc' := 53) d5_51 (x := w2) rfl (l' := #[.val (.int j), .val (.int (4 : Int32)), .val (.ref ta), .val (.ref aw), .val (.ref b), .val (.double w2), .second]) rfl rfl ?_
        refine g_iloadN C X0 (pc' := 54) d5_53 rfl rfl ?_
        refine g_iconst C X0 (pc' := 55) d5_54 (v := (3 : Int32)) (by decide) rfl ?_
        refine g_icmpN C X0 d5_55 (by decide) rfl ?_
        refine g_aloadN C X0 (pc' := 59) d5_58 rfl rfl rfl ?_
        refine g_iconst C X0 (pc' := 60) d5_59 (v := (3 : Int32)) (by decide) rfl ?_
        refine g_iaload C X0 (pc' := 61) e0 At (by decide) (by decide) 3 (by decide) rfl d5_60 rfl ?_
        refine g_iloadN C X0 (pc' := 62) d5_61 rfl rfl ?_
        refine g_icmp C X0 d5_62 (pc' := 70) (pc'' := 65) (by decide) (by decide) rfl (fun c62 => ?_) (fun c62 => ?_)
        · have c62 : ¬ (t3.toInt = j.toInt) := c62
          refine g_aload C X0 (pc' := 72) d5_70 rfl rfl rfl ?_
          refine g_iloadN C X0 (pc' := 73) d5_72 rfl rfl ?_
          refine g_daload C X0 (pc' := 74) e0 Ad hj.1 hj.2 j.toNatClampNeg rfl hg d5_73 rfl ?_
          refine g_dload C X0 (pc' := 76) d5_74 rfl rfl ?_
          have D107 : FP.Core.DInt (k + i2) (FP.dadd y w2) := dadd_D Dy W2 (by show _ ≤ 9007199254740992; omega)
          refine g_dadd C X0 (pc' := 77) d5_76 (nn_of_int D107) rfl ?_
          have P : own_p 4 t0 t1 t2 t3 i0 i1 i2 i3 j.toInt i2 := by unfold own_p; unfold own_four at hT; refine ⟨fun _ _ => ?_, fun _ _ => ?_, fun _ _ => ?_, fun _ _ => ?_, fun _ _ _ _ => ?_⟩ <;> omega
          exact g_dreturn C X0 d5_77 ⟨_, i2, rfl, D107, P, rfl, e0⟩ (by decide) (by decide)
        · have c62 : t3.toInt = j.toInt := Decidable.not_not.mp c62
          refine g_aloadN C X0 (pc' := 66) d5_65 rfl rfl rfl ?_
          refine g_iconst C X0 (pc' := 67) d5_66 (v := (3 : Int32)) (by decide) rfl ?_
          refine g_daload C X0 (pc' := 68) e0 Aw (by decide) (by decide) 3 (by decide) rfl d5_67 rfl ?_
          refine g_dstore C X0 (pc' := 70) d5_68 (x := w3) rfl (l' := #[.val (.int j), .val (.int (4 : Int32)), .val (.ref ta), .val (.ref aw), .val (.ref b), .val (.double w3), .second]) rfl rfl ?_
          refine g_aload C X0 (pc' := 72) d5_70 rfl rfl rfl ?_
          refine g_iloadN C X0 (pc' := 73) d5_72 rfl rfl ?_
          refine g_daload C X0 (pc' := 74) e0 Ad hj.1 hj.2 j.toNatClampNeg rfl hg d5_73 rfl ?_
          refine g_dload C X0 (pc' := 76) d5_74 rfl rfl ?_
          have D108 : FP.Core.DInt (k + i3) (FP.dadd y w3) := dadd_D Dy W3 (by show _ ≤ 9007199254740992; omega)
          refine g_dadd C X0 (pc' := 77) d5_76 (nn_of_int D108) rfl ?_
          have P : own_p 4 t0 t1 t2 t3 i0 i1 i2 i3 j.toInt i3 := by unfold own_p; unfold own_four at hT; refine ⟨fun _ _ => ?_, fun _ _ => ?_, fun _ _ => ?_, fun _ _ => ?_, fun _ _ _ _ => ?_⟩ <;> omega
          exact g_dreturn C X0 d5_77 ⟨_, i3, rfl, D108, P, rfl, e0⟩ (by decide) (by decide)
  · have c11 : t0.toInt = j.toInt := Decidable.not_not.mp c11
    refine g_aloadN C X0 (pc' := 15) d5_14 rfl rfl rfl ?_
    refine g_iconst C X0 (pc' := 16) d5_15 (v := (0 : Int32)) (by decide) rfl ?_
    refine g_daload C X0 (pc' := 17) e0 Aw (by decide) (by decide) 0 (by decide) rfl d5_16 rfl ?_
    refine g_dstore C X0 (pc' := 19) d5_17 (x := w0) rfl (l' := #[.val (.int j), .val (.int (4 : Int32)), .val (.ref ta), .val (.ref aw), .val (.ref b), .val (.double w0), .second]) rfl rfl ?_
    refine g_iloadN C X0 (pc' := 20) d5_19 rfl rfl ?_
    refine g_iconst C X0 (pc' := 21) d5_20 (v := (1 : Int32)) (by decide) rfl ?_
    refine g_icmpN C X0 d5_21 (by decide) rfl ?_
    refine g_aloadN C X0 (pc' := 25) d5_24 rfl rfl rfl ?_
    refine g_iconst C X0 (pc' := 26) d5_25 (v := (1 : Int32)) (by decide) rfl ?_
    refine g_iaload C X0 (pc' := 27) e0 At (by decide) (by decide) 1 (by decide) rfl d5_26 rfl ?_
    refine g_iloadN C X0 (pc' := 28) d5_27 rfl rfl ?_
    refine g_icmp C X0 d5_28 (pc' := 36) (pc'' := 31) (by decide) (by decide) rfl (fun c28 => ?_) (fun c28 => ?_)
    · have c28 : ¬ (t1.toInt = j.toInt) := c28
      refine g_iloadN C X0 (pc' := 37) d5_36 rfl rfl ?_
      refine g_iconst C X0 (pc' := 38) d5_37 (v := (2 : Int32)) (by decide) rfl ?_
      refine g_icmpN C X0 d5_38 (by decide) rfl ?_
      refine g_aloadN C X0 (pc' := 42) d5_41 rfl rfl rfl ?_
      refine g_iconst C X0 (pc' := 43) d5_42 (v := (2 : Int32)) (by decide) rfl ?_
      refine g_iaload C X0 (pc' := 44) e0 At (by decide) (by decide) 2 (by decide) rfl d5_43 rfl ?_
      refine g_iloadN C X0 (pc' := 45) d5_44 rfl rfl ?_
      refine g_icmp C X0 d5_45 (pc' := 53) (pc'' := 48) (by decide) (by decide) rfl (fun c45 => ?_) (fun c45 => ?_)
      · have c45 : ¬ (t2.toInt = j.toInt) := c45
        refine g_iloadN C X0 (pc' := 54) d5_53 rfl rfl ?_
        refine g_iconst C X0 (pc' := 55) d5_54 (v := (3 : Int32)) (by decide) rfl ?_
        refine g_icmpN C X0 d5_55 (by decide) rfl ?_
        refine g_aloadN C X0 (pc' := 59) d5_58 rfl rfl rfl ?_
        refine g_iconst C X0 (pc' := 60) d5_59 (v := (3 : Int32)) (by decide) rfl ?_
        refine g_iaload C X0 (pc' := 61) e0 At (by decide) (by decide) 3 (by decide) rfl d5_60 rfl ?_
        refine g_iloadN C X0 (pc' := 62) d5_61 rfl rfl ?_
        refine g_icmp C X0 d5_62 (pc' := 70) (pc'' := 65) (by decide) (by decide) rfl (fun c62 => ?_) (fun c62 => ?_)
        · have c62 : ¬ (t3.toInt = j.toInt) := c62
          refine g_aload C X0 (pc' := 72) d5_70 rfl rfl rfl ?_
          refine g_iloadN C X0 (pc' := 73) d5_72 rfl rfl ?_
          refine g_daload C X0 (pc' := 74) e0 Ad hj.1 hj.2 j.toNatClampNeg rfl hg d5_73 rfl ?_
          refine g_dload C X0 (pc' := 76) d5_74 rfl rfl ?_
          have D109 : FP.Core.DInt (k + i0) (FP.dadd y w0) := dadd_D Dy W0 (by show _ ≤ 9007199254740992; omega)
          refine g_dadd C X0 (pc' := 77) d5_76 (nn_of_int D109) rfl ?_
          have P : own_p 4 t0 t1 t2 t3 i0 i1 i2 i3 j.toInt i0 := by unfold own_p; unfold own_four at hT; refine ⟨fun _ _ => ?_, fun _ _ => ?_, fun _ _ => ?_, fun _ _ => ?_, fun _ _ _ _ => ?_⟩ <;> omega
          exact g_dreturn C X0 d5_77 ⟨_, i0, rfl, D109, P, rfl, e0⟩ (by decide) (by decide)
        · have c62 : t3.toInt = j.toInt := Decidable.not_not.mp c62
          refine g_aloadN C X0 (pc' := 66) d5_65 rfl rfl rfl ?_
          refine g_iconst C X0 (pc' := 67) d5_66 (v := (3 : Int32)) (by decide) rfl ?_
          refine g_daload C X0 (pc' := 68) e0 Aw (by decide) (by decide) 3 (by decide) rfl d5_67 rfl ?_
          refine g_dstore C X0 (pc' := 70) d5_68 (x := w3) rfl (l' := #[.val (.int j), .val (.int (4 : Int32)), .val (.ref ta), .val (.ref aw), .val (.ref b), .val (.double w3), .second]) rfl rfl ?_
          refine g_aload C X0 (pc' := 72) d5_70 rfl rfl rfl ?_
          refine g_iloadN C X0 (pc' := 73) d5_72 rfl rfl ?_
          refine g_daload C X0 (pc' := 74) e0 Ad hj.1 hj.2 j.toNatClampNeg rfl hg d5_73 rfl ?_
          refine g_dload C X0 (pc' := 76) d5_74 rfl rfl ?_
          have D110 : FP.Core.DInt (k + i3) (FP.dadd y w3) := dadd_D Dy W3 (by show _ ≤ 9007199254740992; omega)
          refine g_dadd C X0 (pc' := 77) d5_76 (nn_of_int D110) rfl ?_
          have P : own_p 4 t0 t1 t2 t3 i0 i1 i2 i3 j.toInt i3 := by unfold own_p; unfold own_four at hT; refine ⟨fun _ _ => ?_, fun _ _ => ?_, fun _ _ => ?_, fun _ _ => ?_, fun _ _ _ _ => ?_⟩ <;> omega
          exact g_dreturn C X0 d5_77 ⟨_, i3, rfl, D110, P, rfl, e0⟩ (by decide) (by decide)
      · have c45 : t2.toInt = j.toInt := Decidable.not_not.mp c45
        refine g_aloadN C X0 (pc' := 49) d5_48 rfl rfl rfl ?_
        refine g_iconst C X0 (pc' := 50) d5_49 (v := (2 : Int32)) (by decide) rfl ?_
        refine g_daload C X0 (pc' := 51) e0 Aw (by decide) (by decide) 2 (by decide) rfl d5_50 rfl ?_
        refine g_dstore C X0 (pc' := 53) d5_51 (x := w2) rfl (l' := #[.val (.int j), .val (.int (4 : Int32)), .val (.ref ta), .val (.ref aw), .val (.ref b), .val (.double w2), .second]) rfl rfl ?_
        refine g_iloadN C X0 (pc' := 54) d5_53 rfl rfl ?_
        refine g_iconst C X0 (pc' := 55) d5_54 (v := (3 : Int32)) (by decide) rfl ?_
        refine g_icmpN C X0 d5_55 (by decide) rfl ?_
        refine g_aloadN C X0 (pc' := 59) d5_58 rfl rfl rfl ?_
        refine g_iconst C X0 (pc' := 60) d5_59 (v := (3 : Int32)) (by decide) rfl ?_
        refine g_iaload C X0 (pc' := 61) e0 At (by decide) (by decide) 3 (by decide) rfl d5_60 rfl ?_
        refine g_iloadN C X0 (pc' := 62) d5_61 rfl rfl ?_
        refine g_icmp C X0 d5_62 (pc' := 70) (pc'' := 65) (by decide) (by decide) rfl (fun c62 => ?_) (fun c62 => ?_)
        · have c62 : ¬ (t3.toInt = j.toInt) := c62
          refine g_aload C X0 (pc' := 72) d5_70 rfl rfl rfl ?_
          refine g_iloadN C X0 (pc' := 73) d5_72 rfl rfl ?_
          refine g_daload C X0 (pc' := 74) e0 Ad hj.1 hj.2 j.toNatClampNeg rfl hg d5_73 rfl ?_
          refine g_dload C X0 (pc' := 76) d5_74 rfl rfl ?_
          have D111 : FP.Core.DInt (k + i2) (FP.dadd y w2) := dadd_D Dy W2 (by show _ ≤ 9007199254740992; omega)
          refine g_dadd C X0 (pc' := 77) d5_76 (nn_of_int D111) rfl ?_
          have P : own_p 4 t0 t1 t2 t3 i0 i1 i2 i3 j.toInt i2 := by unfold own_p; unfold own_four at hT; refine ⟨fun _ _ => ?_, fun _ _ => ?_, fun _ _ => ?_, fun _ _ => ?_, fun _ _ _ _ => ?_⟩ <;> omega
          exact g_dreturn C X0 d5_77 ⟨_, i2, rfl, D111, P, rfl, e0⟩ (by decide) (by decide)
        · have c62 : t3.toInt = j.toInt := Decidable.not_not.mp c62
          refine g_aloadN C X0 (pc' := 66) d5_65 rfl rfl rfl ?_
          refine g_iconst C X0 (pc' := 67) d5_66 (v := (3 : Int32)) (by decide) rfl ?_
          refine g_daload C X0 (pc' := 68) e0 Aw (by decide) (by decide) 3 (by decide) rfl d5_67 rfl ?_
          refine g_dstore C X0 (pc' := 70) d5_68 (x := w3) rfl (l' := #[.val (.int j), .val (.int (4 : Int32)), .val (.ref ta), .val (.ref aw), .val (.ref b), .val (.double w3), .second]) rfl rfl ?_
          refine g_aload C X0 (pc' := 72) d5_70 rfl rfl rfl ?_
          refine g_iloadN C X0 (pc' := 73) d5_72 rfl rfl ?_
          refine g_daload C X0 (pc' := 74) e0 Ad hj.1 hj.2 j.toNatClampNeg rfl hg d5_73 rfl ?_
          refine g_dload C X0 (pc' := 76) d5_74 rfl rfl ?_
          have D112 : FP.Core.DInt (k + i3) (FP.dadd y w3) := dadd_D Dy W3 (by show _ ≤ 9007199254740992; omega)
          refine g_dadd C X0 (pc' := 77) d5_76 (nn_of_int D112) rfl ?_
          have P : own_p 4 t0 t1 t2 t3 i0 i1 i2 i3 j.toInt i3 := by unfold own_p; unfold own_four at hT; refine ⟨fun _ _ => ?_, fun _ _ => ?_, fun _ _ => ?_, fun _ _ => ?_, fun _ _ _ _ => ?_⟩ <;> omega
          exact g_dreturn C X0 d5_77 ⟨_, i3, rfl, D112, P, rfl, e0⟩ (by decide) (by decide)
    · have c28 : t1.toInt = j.toInt := Decidable.not_not.mp c28
      refine g_aloadN C X0 (pc' := 32) d5_31 rfl rfl rfl ?_
      refine g_iconst C X0 (pc' := 33) d5_32 (v := (1 : Int32)) (by decide) rfl ?_
      refine g_daload C X0 (pc' := 34) e0 Aw (by decide) (by decide) 1 (by decide) rfl d5_33 rfl ?_
      refine g_dstore C X0 (pc' := 36) d5_34 (x := w1) rfl (l' := #[.val (.int j), .val (.int (4 : Int32)), .val (.ref ta), .val (.ref aw), .val (.ref b), .val (.double w1), .second]) rfl rfl ?_
      refine g_iloadN C X0 (pc' := 37) d5_36 rfl rfl ?_
      refine g_iconst C X0 (pc' := 38) d5_37 (v := (2 : Int32)) (by decide) rfl ?_
      refine g_icmpN C X0 d5_38 (by decide) rfl ?_
      refine g_aloadN C X0 (pc' := 42) d5_41 rfl rfl rfl ?_
      refine g_iconst C X0 (pc' := 43) d5_42 (v := (2 : Int32)) (by decide) rfl ?_
      refine g_iaload C X0 (pc' := 44) e0 At (by decide) (by decide) 2 (by decide) rfl d5_43 rfl ?_
      refine g_iloadN C X0 (pc' := 45) d5_44 rfl rfl ?_
      refine g_icmp C X0 d5_45 (pc' := 53) (pc'' := 48) (by decide) (by decide) rfl (fun c45 => ?_) (fun c45 => ?_)
      · have c45 : ¬ (t2.toInt = j.toInt) := c45
        refine g_iloadN C X0 (pc' := 54) d5_53 rfl rfl ?_
        refine g_iconst C X0 (pc' := 55) d5_54 (v := (3 : Int32)) (by decide) rfl ?_
        refine g_icmpN C X0 d5_55 (by decide) rfl ?_
        refine g_aloadN C X0 (pc' := 59) d5_58 rfl rfl rfl ?_
        refine g_iconst C X0 (pc' := 60) d5_59 (v := (3 : Int32)) (by decide) rfl ?_
        refine g_iaload C X0 (pc' := 61) e0 At (by decide) (by decide) 3 (by decide) rfl d5_60 rfl ?_
        refine g_iloadN C X0 (pc' := 62) d5_61 rfl rfl ?_
        refine g_icmp C X0 d5_62 (pc' := 70) (pc'' := 65) (by decide) (by decide) rfl (fun c62 => ?_) (fun c62 => ?_)
        · have c62 : ¬ (t3.toInt = j.toInt) := c62
          refine g_aload C X0 (pc' := 72) d5_70 rfl rfl rfl ?_
          refine g_iloadN C X0 (pc' := 73) d5_72 rfl rfl ?_
          refine g_daload C X0 (pc' := 74) e0 Ad hj.1 hj.2 j.toNatClampNeg rfl hg d5_73 rfl ?_
          refine g_dload C X0 (pc' := 76) d5_74 rfl rfl ?_
          have D113 : FP.Core.DInt (k + i1) (FP.dadd y w1) := dadd_D Dy W1 (by show _ ≤ 9007199254740992; omega)
          refine g_dadd C X0 (pc' := 77) d5_76 (nn_of_int D113) rfl ?_
          have P : own_p 4 t0 t1 t2 t3 i0 i1 i2 i3 j.toInt i1 := by unfold own_p; unfold own_four at hT; refine ⟨fun _ _ => ?_, fun _ _ => ?_, fun _ _ => ?_, fun _ _ => ?_, fun _ _ _ _ => ?_⟩ <;> omega
          exact g_dreturn C X0 d5_77 ⟨_, i1, rfl, D113, P, rfl, e0⟩ (by decide) (by decide)
        · have c62 : t3.toInt = j.toInt := Decidable.not_not.mp c62
          refine g_aloadN C X0 (pc' := 66) d5_65 rfl rfl rfl ?_
          refine g_iconst C X0 (pc' := 67) d5_66 (v := (3 : Int32)) (by decide) rfl ?_
          refine g_daload C X0 (pc' := 68) e0 Aw (by decide) (by decide) 3 (by decide) rfl d5_67 rfl ?_
          refine g_dstore C X0 (pc' := 70) d5_68 (x := w3) rfl (l' := #[.val (.int j), .val (.int (4 : Int32)), .val (.ref ta), .val (.ref aw), .val (.ref b), .val (.double w3), .second]) rfl rfl ?_
          refine g_aload C X0 (pc' := 72) d5_70 rfl rfl rfl ?_
          refine g_iloadN C X0 (pc' := 73) d5_72 rfl rfl ?_
          refine g_daload C X0 (pc' := 74) e0 Ad hj.1 hj.2 j.toNatClampNeg rfl hg d5_73 rfl ?_
          refine g_dload C X0 (pc' := 76) d5_74 rfl rfl ?_
          have D114 : FP.Core.DInt (k + i3) (FP.dadd y w3) := dadd_D Dy W3 (by show _ ≤ 9007199254740992; omega)
          refine g_dadd C X0 (pc' := 77) d5_76 (nn_of_int D114) rfl ?_
          have P : own_p 4 t0 t1 t2 t3 i0 i1 i2 i3 j.toInt i3 := by unfold own_p; unfold own_four at hT; refine ⟨fun _ _ => ?_, fun _ _ => ?_, fun _ _ => ?_, fun _ _ => ?_, fun _ _ _ _ => ?_⟩ <;> omega
          exact g_dreturn C X0 d5_77 ⟨_, i3, rfl, D114, P, rfl, e0⟩ (by decide) (by decide)
      · have c45 : t2.toInt = j.toInt := Decidable.not_not.mp c45
        refine g_aloadN C X0 (pc' := 49) d5_48 rfl rfl rfl ?_
        refine g_iconst C X0 (pc' := 50) d5_49 (v := (2 : Int32)) (by decide) rfl ?_
        refine g_daload C X0 (pc' := 51) e0 Aw (by decide) (by decide) 2 (by decide) rfl d5_50 rfl ?_
        refine g_dstore C X0 (pc' := 53) d5_51 (x := w2) rfl (l' := #[.val (.int j), .val (.int (4 : Int32)), .val (.ref ta), .val (.ref aw), .val (.ref b), .val (.double w2), .second]) rfl rfl ?_
        refine g_iloadN C X0 (pc' := 54) d5_53 rfl rfl ?_
        refine g_iconst C X0 (pc' := 55) d5_54 (v := (3 : Int32)) (by decide) rfl ?_
        refine g_icmpN C X0 d5_55 (by decide) rfl ?_
        refine g_aloadN C X0 (pc' := 59) d5_58 rfl rfl rfl ?_
        refine g_iconst C X0 (pc' := 60) d5_59 (v := (3 : Int32)) (by decide) rfl ?_
        refine g_iaload C X0 (pc' := 61) e0 At (by decide) (by decide) 3 (by decide) rfl d5_60 rfl ?_
        refine g_iloadN C X0 (pc' := 62) d5_61 rfl rfl ?_
        refine g_icmp C X0 d5_62 (pc' := 70) (pc'' := 65) (by decide) (by decide) rfl (fun c62 => ?_) (fun c62 => ?_)
        · have c62 : ¬ (t3.toInt = j.toInt) := c62
          refine g_aload C X0 (pc' := 72) d5_70 rfl rfl rfl ?_
          refine g_iloadN C X0 (pc' := 73) d5_72 rfl rfl ?_
          refine g_daload C X0 (pc' := 74) e0 Ad hj.1 hj.2 j.toNatClampNeg rfl hg d5_73 rfl ?_
          refine g_dload C X0 (pc' := 76) d5_74 rfl rfl ?_
          have D115 : FP.Core.DInt (k + i2) (FP.dadd y w2) := dadd_D Dy W2 (by show _ ≤ 9007199254740992; omega)
          refine g_dadd C X0 (pc' := 77) d5_76 (nn_of_int D115) rfl ?_
          have P : own_p 4 t0 t1 t2 t3 i0 i1 i2 i3 j.toInt i2 := by unfold own_p; unfold own_four at hT; refine ⟨fun _ _ => ?_, fun _ _ => ?_, fun _ _ => ?_, fun _ _ => ?_, fun _ _ _ _ => ?_⟩ <;> omega
          exact g_dreturn C X0 d5_77 ⟨_, i2, rfl, D115, P, rfl, e0⟩ (by decide) (by decide)
        · have c62 : t3.toInt = j.toInt := Decidable.not_not.mp c62
          refine g_aloadN C X0 (pc' := 66) d5_65 rfl rfl rfl ?_
          refine g_iconst C X0 (pc' := 67) d5_66 (v := (3 : Int32)) (by decide) rfl ?_
          refine g_daload C X0 (pc' := 68) e0 Aw (by decide) (by decide) 3 (by decide) rfl d5_67 rfl ?_
          refine g_dstore C X0 (pc' := 70) d5_68 (x := w3) rfl (l' := #[.val (.int j), .val (.int (4 : Int32)), .val (.ref ta), .val (.ref aw), .val (.ref b), .val (.double w3), .second]) rfl rfl ?_
          refine g_aload C X0 (pc' := 72) d5_70 rfl rfl rfl ?_
          refine g_iloadN C X0 (pc' := 73) d5_72 rfl rfl ?_
          refine g_daload C X0 (pc' := 74) e0 Ad hj.1 hj.2 j.toNatClampNeg rfl hg d5_73 rfl ?_
          refine g_dload C X0 (pc' := 76) d5_74 rfl rfl ?_
          have D116 : FP.Core.DInt (k + i3) (FP.dadd y w3) := dadd_D Dy W3 (by show _ ≤ 9007199254740992; omega)
          refine g_dadd C X0 (pc' := 77) d5_76 (nn_of_int D116) rfl ?_
          have P : own_p 4 t0 t1 t2 t3 i0 i1 i2 i3 j.toInt i3 := by unfold own_p; unfold own_four at hT; refine ⟨fun _ _ => ?_, fun _ _ => ?_, fun _ _ => ?_, fun _ _ => ?_, fun _ _ _ _ => ?_⟩ <;> omega
          exact g_dreturn C X0 d5_77 ⟨_, i3, rfl, D116, P, rfl, e0⟩ (by decide) (by decide)
theorem own_n (x : Int32) : (x &&& 7) % 5 = 0 ∨ (x &&& 7) % 5 = 1 ∨ (x &&& 7) % 5 = 2 ∨ (x &&& 7) % 5 = 3 ∨ (x &&& 7) % 5 = 4 := by
  have h1 := c_and x 7 (by decide)
  have h2 := (c_irem (x &&& 7) 5 5 (by decide)).1 h1.1
  have e0 : (0 : Int32).toInt = 0 := by decide
  have e1 : (1 : Int32).toInt = 1 := by decide
  have e2 : (2 : Int32).toInt = 2 := by decide
  have e3 : (3 : Int32).toInt = 3 := by decide
  have e4 : (4 : Int32).toInt = 4 := by decide
  simp only [← Int32.toInt_inj]
  omega
theorem own_t0 (x : Int32) : 0 ≤ (x &&& 3).toInt ∧ (x &&& 3).toInt < 4 := by
  have h1 := c_and x 3 (by decide)
  have e3 : (3 : Int32).toInt = 3 := by decide
  omega
theorem own_t1 (a b : Int32) (ha : 0 ≤ a.toInt ∧ a.toInt < 4) : (0 ≤ ((a + 1 + (b &&& 3) % 3) &&& 3).toInt ∧ ((a + 1 + (b &&& 3) % 3) &&& 3).toInt < 4) ∧ ¬ ((a + 1 + (b &&& 3) % 3) &&& 3).toInt = a.toInt := by
  have h1 := c_and b 3 (by decide)
  have h2 := (c_irem (b &&& 3) 3 3 (by decide)).1 h1.1
  have e3 : (3 : Int32).toInt = 3 := by decide
  have e1 : (1 : Int32).toInt = 1 := by decide
  have h3 := c_iadd a 1
  have h4 := rng32 (a + 1)
  have h5 := c_iadd (a + 1) ((b &&& 3) % 3)
  have h6 := rng32 (a + 1 + (b &&& 3) % 3)
  have h7 := c_mask (a + 1 + (b &&& 3) % 3) 3 2 (by decide) (by decide)
  have h8 : ((2 ^ 2 : Nat) : Int) = 4 := by decide
  rw [h8] at h7
  omega
theorem own_hi {a b l : Int32} (ha : 0 ≤ a.toInt ∧ a.toInt < 4) (hb : 0 ≤ b.toInt ∧ b.toInt < 4) (hl : 0 ≤ l.toInt ∧ l.toInt < 3) : (6 - a - b - l).toInt = 6 - a.toInt - b.toInt - l.toInt := by
  have e6 : (6 : Int32).toInt = 6 := by decide
  have h1 := c_isub 6 a
  have h2 := rng32 (6 - a)
  have h3 := c_isub (6 - a) b
  have h4 := rng32 (6 - a - b)
  have h5 := c_isub (6 - a - b) l
  have h6 := rng32 (6 - a - b - l)
  omega
set_option maxRecDepth 65536 in
set_option maxHeartbeats 40000000 in
theorem law (l : Launch) (Z : State) (a0 : Array Value) (hw : ∀ d ∈ tables_1, d.before a0 Z = true) (p0 : Int32) (p1 p2 p3 p4 : Int64) (h : Heap) (n0 : Nat) (Z0 : n0 ≤ h.size) :
    Con l Z x code maxLocals ret room_1 #[.int p0, .long p1, .long p2, .long p3, .long p4] h (fun v _ L => v = some (.int 1) ∧ Fr n0 L) := by
  refine con_of_go pn0 (fun m => ef0 m p0 p1 p2 p3 p4) ?_
  intro p e s m below meth c T0 C X0 e0
  refine g_iloadN C X0 (pc' := 1) at_0 rfl rfl ?_
  refine g_bipush C X0 (pc' := 3) at_1 (v := (7 : Int32)) (by decide) rfl ?_
  refine g_iand C X0 (pc' := 4) at_3 rfl ?_
  refine g_iconst C X0 (pc' := 5) at_4 (v := (5 : Int32)) (by decide) rfl ?_
  refine g_irem C X0 (pc' := 6) at_5 (by decide) rfl ?_
  obtain ⟨i1, e_i1⟩ : ∃ z : Int32, z = (p0 &&& (7 : Int32)) % (5 : Int32) := ⟨_, rfl⟩
  refine g_istore C X0 (pc' := 8) at_6 (x := i1) e_i1 (l' := #[.val (.int p0), .val (.long p1), .second, .val (.long p2), .second, .val (.long p3), .second, .val (.long p4), .second, .val (.int i1), .unset, .unset, .unset, .unset, .unset, .unset, .unset, .unset, .unset, .unset, .unset, .unset, .unset, .unset, .unset]) rfl rfl ?_
  refine g_iloadN C X0 (pc' := 9) at_8 rfl rfl ?_
  refine g_iconst C X0 (pc' := 10) at_9 (v := (3 : Int32)) (by decide) rfl ?_
  refine g_iushr C X0 (pc' := 11) at_10 rfl ?_
  refine g_iconst C X0 (pc' := 12) at_11 (v := (3 : Int32)) (by decide) rfl ?_
  refine g_iand C X0 (pc' := 13) at_12 rfl ?_
  obtain ⟨i2, e_i2⟩ : ∃ z : Int32, z = (XT.ushr p0 (3 : Int32)) &&& (3 : Int32) := ⟨_, rfl⟩
  refine g_istore C X0 (pc' := 15) at_13 (x := i2) e_i2 (l' := #[.val (.int p0), .val (.long p1), .second, .val (.long p2), .second, .val (.long p3), .second, .val (.long p4), .second, .val (.int i1), .val (.int i2), .unset, .unset, .unset, .unset, .unset, .unset, .unset, .unset, .unset, .unset, .unset, .unset, .unset, .unset]) rfl rfl ?_
  have bt0 := own_t0 (XT.ushr p0 (3 : Int32))
  rw [← e_i2] at bt0
  refine g_iload C X0 (pc' := 17) at_15 rfl rfl ?_
  refine g_iconst C X0 (pc' := 18) at_17 (v := (1 : Int32)) (by decide) rfl ?_
  refine g_iadd C X0 (pc' := 19) at_18 rfl ?_
  refine g_iloadN C X0 (pc' := 20) at_19 rfl rfl ?_
  refine g_iconst C X0 (pc' := 21) at_20 (v := (5 : Int32)) (by decide) rfl ?_
  refine g_iushr C X0 (pc' := 22) at_21 rfl ?_
  refine g_iconst C X0 (pc' := 23) at_22 (v := (3 : Int32)) (by decide) rfl ?_
  refine g_iand C X0 (pc' := 24) at_23 rfl ?_
  refine g_iconst C X0 (pc' := 25) at_24 (v := (3 : Int32)) (by decide) rfl ?_
  refine g_irem C X0 (pc' := 26) at_25 (by decide) rfl ?_
  refine g_iadd C X0 (pc' := 27) at_26 rfl ?_
  refine g_iconst C X0 (pc' := 28) at_27 (v := (3 : Int32)) (by decide) rfl ?_
  refine g_iand C X0 (pc' := 29) at_28 rfl ?_
  obtain ⟨i3, e_i3⟩ : ∃ z : Int32, z = ((i2 + (1 : Int32)) + (((XT.ushr p0 (5 : Int32)) &&& (3 : Int32)) % (3 : Int32))) &&& (3 : Int32) := ⟨_, rfl⟩
  refine g_istore C X0 (pc' := 31) at_29 (x := i3) e_i3 (l' := #[.val (.int p0), .val (.long p1), .second, .val (.long p2), .second, .val (.long p3), .second, .val (.long p4), .second, .val (.int i1), .val (.int i2), .val (.int i3), .unset, .unset, .unset, .unset, .unset, .unset, .unset, .unset, .unset, .unset, .unset, .unset, .unset]) rfl rfl ?_
  have bt1 := own_t1 i2 (XT.ushr p0 (5 : Int32)) bt0
  rw [← e_i3] at bt1
  have J62 : ∀ zl : Int32, (0 ≤ zl.toInt ∧ zl.toInt < 3 ∧ ¬ zl.toInt = i2.toInt ∧ ¬ zl.toInt = i3.toInt) → Go p.tables e below (End s (fun v _ L => v = some (.int 1) ∧ Fr n0 L) room_1.cells room_1.slots) T0 (mkF m 62 #[.val (.int p0), .val (.long p1), .second, .val (.long p2), .second, .val (.long p3), .second, .val (.long p4), .second, .val (.int i1), .val (.int i2), .val (.int i3), .unset, .unset, .unset, .unset, .unset, .unset, .unset, .unset, .unset, .unset, .unset, .unset, .unset] [(.int zl)]) := by
    intro zl q_zl
    refine g_istore C X0 (pc' := 64) at_62 (x := zl) rfl (l' := #[.val (.int p0), .val (.long p1), .second, .val (.long p2), .second, .val (.long p3), .second, .val (.long p4), .second, .val (.int i1), .val (.int i2), .val (.int i3), .val (.int zl), .unset, .unset, .unset, .unset, .unset, .unset, .unset, .unset, .unset, .unset, .unset, .unset]) rfl rfl ?_
    refine g_bipush C X0 (pc' := 66) at_64 (v := (6 : Int32)) (by decide) rfl ?_
    refine g_iload C X0 (pc' := 68) at_66 rfl rfl ?_
    refine g_isub C X0 (pc' := 69) at_68 rfl ?_
    refine g_iload C X0 (pc' := 71) at_69 rfl rfl ?_
    refine g_isub C X0 (pc' := 72) at_71 rfl ?_
    refine g_iload C X0 (pc' := 74) at_72 rfl rfl ?_
    refine g_isub C X0 (pc' := 75) at_74 rfl ?_
    obtain ⟨i4, e_i4⟩ : ∃ z : Int32, z = (((6 : Int32) - i2) - i3) - zl := ⟨_, rfl⟩
    refine g_istore C X0 (pc' := 77) at_75 (x := i4) e_i4 (l' := #[.val (.int p0), .val (.long p1), .second, .val (.long p2), .second, .val (.long p3), .second, .val (.long p4), .second, .val (.int i1), .val (.int i2), .val (.int i3), .val (.int zl), .val (.int i4), .unset, .unset, .unset, .unset, .unset, .unset, .unset, .unset, .unset, .unset, .unset]) rfl rfl ?_
    have ehi := own_hi (a := i2) (b := i3) (l := zl) bt0 bt1.1 (by omega)
    rw [← e_i4] at ehi
    have bf : own_four i2 i3 i4 zl ∧ own_four i2 i3 zl i4 := by unfold own_four; omega
    refine g_iloadN C X0 (pc' := 78) at_77 rfl rfl ?_
    refine g_bipush C X0 (pc' := 80) at_78 (v := (7 : Int32)) (by decide) rfl ?_
    refine g_iushr C X0 (pc' := 81) at_80 rfl ?_
    refine g_iconst C X0 (pc' := 82) at_81 (v := (1 : Int32)) (by decide) rfl ?_
    refine g_iand C X0 (pc' := 83) at_82 rfl ?_
    have J121 : ∀ (zf tz2 tz3 : Int32), own_four i2 i3 tz2 tz3 → Go p.tables e below (End s (fun v _ L => v = some (.int 1) ∧ Fr n0 L) room_1.cells room_1.slots) T0 (mkF m 121 #[.val (.int p0), .val (.long p1), .second, .val (.long p2), .second, .val (.long p3), .second, .val (.long p4), .second, .val (.int i1), .val (.int i2), .val (.int i3), .val (.int zl), .val (.int i4), .val (.int zf), .val (.int tz2), .val (.int tz3), .unset, .unset, .unset, .unset, .unset, .unset, .unset, .unset] []) := by
      intro zf tz2 tz3 hT
      have nn := own_n p0
      rw [← e_i1] at nn
      clear e_i1
      rcases nn with rfl | rfl | rfl | rfl | rfl
      · show Go p.tables e below _ T0 (mkF m 121 #[.val (.int p0), .val (.long p1), .second, .val (.long p2), .second, .val (.long p3), .second, .val (.long p4), .second, .val (.int (0 : Int32)), .val (.int i2), .val (.int i3), .val (.int zl), .val (.int i4), .val (.int zf), .val (.int tz2), .val (.int tz3), .unset, .unset, .unset, .unset, .unset, .unset, .unset, .unset] [])
        refine g_iconst C X0 (pc' := 122) at_121 (v := (4 : Int32)) (by decide) rfl ?_
        refine g_newP C X0 (aty := .int) (hw _ (List.mem_of_getElem? (i := 0) rfl)) e0 at_122 (by decide) 4 (by decide) (by decide) (by decide) (by decide) rfl ?_
        intro T1 h1 a1 k1 g1 X1 e1 E1 A1
        have z_a1 : n0 ≤ a1 := by rw [g1]; exact Z0
        have Z1 : n0 ≤ h1.size := Nat.le_trans Z0 E1.1
        have A1 : Arv Z h1 a1 k1 .int (4 : Int32) [] (.int (0 : Int32)) := A1
        refine g_dup C X1 (pc' := 125) at_124 rfl rfl ?_
        refine g_iconst C X1 (pc' := 126) at_125 (v := (0 : Int32)) (by decide) rfl ?_
        refine g_iload C X1 (pc' := 128) at_126 rfl rfl ?_
        refine g_iastore C X1 (pc' := 129) e1 A1 (by decide) (by decide) 0 1 (by decide) (of_decide_eq_true rfl) at_128 rfl ?_
        intro T2 h2 X2 e2 W2 Aq
        have Z2 : n0 ≤ h2.size := by rw [W2.size]; exact Z1
        have N2 := Fr.snoc X2 (Fr.nil n0) z_a1
        have A1 : Arv Z h2 a1 k1 .int (4 : Int32) [(.int i2)] (.int (0 : Int32)) := Aq
        refine g_dup C X2 (pc' := 130) at_129 rfl rfl ?_
        refine g_iconst C X2 (pc' := 131) at_130 (v := (1 : Int32)) (by decide) rfl ?_
        refine g_iload C X2 (pc' := 133) at_131 rfl rfl ?_
        refine g_iastore C X2 (pc' := 134) e2 A1 (by decide) (by decide) 1 1 (by decide) (of_decide_eq_true rfl) at_133 rfl ?_
        intro T3 h3 X3 e3 W3 Aq
        have Z3 : n0 ≤ h3.size := by rw [W3.size]; exact Z2
        have N3 := Fr.snoc X3 N2 z_a1
        have A1 : Arv Z h3 a1 k1 .int (4 : Int32) [(.int i2), (.int i3)] (.int (0 : Int32)) := Aq
        refine g_dup C X3 (pc' := 135) at_134 rfl rfl ?_
        refine g_iconst C X3 (pc' := 136) at_135 (v := (2 : Int32)) (by decide) rfl ?_
        refine g_iload C X3 (pc' := 138) at_136 rfl rfl ?_
        refine g_iastore C X3 (pc' := 139) e3 A1 (by decide) (by decide) 2 1 (by decide) (of_decide_eq_true rfl) at_138 rfl ?_
        intro T4 h4 X4 e4 W4 Aq
        have Z4 : n0 ≤ h4.size := by rw [W4.size]; exact Z3
        have N4 := Fr.snoc X4 N3 z_a1
        have A1 : Arv Z h4 a1 k1 .int (4 : Int32) [(.int i2), (.int i3), (.int tz2)] (.int (0 : Int32)) := Aq
        refine g_dup C X4 (pc' := 140) at_139 rfl rfl ?_
        refine g_iconst C X4 (pc' := 141) at_140 (v := (3 : Int32)) (by decide) rfl ?_
        refine g_iload C X4 (pc' := 143) at_141 rfl rfl ?_
        refine g_iastore C X4 (pc' := 144) e4 A1 (by decide) (by decide) 3 1 (by decide) (of_decide_eq_true rfl) at_143 rfl ?_
        intro T5 h5 X5 e5 W5 Aq
        have Z5 : n0 ≤ h5.size := by rw [W5.size]; exact Z4
        have N5 := Fr.snoc X5 N4 z_a1
        have A1 : Arv Z h5 a1 k1 .int (4 : Int32) [(.int i2), (.int i3), (.int tz2), (.int tz3)] (.int (0 : Int32)) := Aq
        refine g_astore C X5 (pc' := 146) at_144 rfl (l' := #[.val (.int p0), .val (.long p1), .second, .val (.long p2), .second, .val (.long p3), .second, .val (.long p4), .second, .val (.int (0 : Int32)), .val (.int i2), .val (.int i3), .val (.int zl), .val (.int i4), .val (.int zf), .val (.int tz2), .val (.int tz3), .val (.ref a1), .unset, .unset, .unset, .unset, .unset, .unset, .unset]) rfl rfl ?_
        refine g_iconst C X5 (pc' := 147) at_146 (v := (4 : Int32)) (by decide) rfl ?_
        refine g_newP C X5 (aty := .double) (hw _ (List.mem_of_getElem? (i := 1) rfl)) e5 at_147 (by decide) 4 (by decide) (by decide) (by decide) (by decide) rfl ?_
        intro T6 h6 a6 k6 g6 X6 e6 E6 A6
        have ne_a1_a6 : a1 ≠ a6 := Nat.ne_of_lt (by rw [g6]; exact A1.lt)
        have z_a6 : n0 ≤ a6 := by rw [g6]; exact Z5
        have A1 := A1.ext E6
        have Z6 : n0 ≤ h6.size := Nat.le_trans Z5 E6.1
        have A6 : Arv Z h6 a6 k6 .double (4 : Int32) [] (.double (0 : UInt64)) := A6
        refine g_dup C X6 (pc' := 150) at_149 rfl rfl ?_
        refine g_iconst C X6 (pc' := 151) at_150 (v := (0 : Int32)) (by decide) rfl ?_
        refine g_lloadN C X6 (pc' := 152) at_151 rfl rfl ?_
        refine g_l2i C X6 (pc' := 153) at_152 rfl ?_
        obtain ⟨i5, e_i5⟩ : ∃ z : Int32, z = p1.toInt32 := ⟨_, rfl⟩
        rw [← e_i5]
        clear e_i5
        have rg_i5 := rng32 i5
        refine g_i2d C X6 (pc' := 154) at_153 rfl ?_
        refine g_dastore C X6 (pc' := 155) e6 A6 (by decide) (by decide) 0 1 (by decide) (of_decide_eq_true rfl) at_154 rfl ?_
        intro T7 h7 X7 e7 W7 Aq
        have A1 := A1.other W7 ne_a1_a6
        have Z7 : n0 ≤ h7.size := by rw [W7.size]; exact Z6
        have N7 := Fr.snoc X7 N5 z_a6
        have A6 : Arv Z h7 a6 k6 .double (4 : Int32) [(.double (FP.i2d i5))] (.double (0 : UInt64)) := Aq
        refine g_dup C X7 (pc' := 156) at_155 rfl rfl ?_
        refine g_iconst C X7 (pc' := 157) at_156 (v := (1 : Int32)) (by decide) rfl ?_
        refine g_lloadN C X7 (pc' := 158) at_157 rfl rfl ?_
        refine g_bipush C X7 (pc' := 160) at_158 (v := (32 : Int32)) (by decide) rfl ?_
        refine g_lushr C X7 (pc' := 161) at_160 rfl ?_
        refine g_l2i C X7 (pc' := 162) at_161 rfl ?_
        obtain ⟨i6, e_i6⟩ : ∃ z : Int32, z = (XT.ushrL p1 (32 : Int32)).toInt32 := ⟨_, rfl⟩
        rw [← e_i6]
        clear e_i6
        have rg_i6 := rng32 i6
        refine g_i2d C X7 (pc' := 163) at_162 rfl ?_
        refine g_dastore C X7 (pc' := 164) e7 A6 (by decide) (by decide) 1 1 (by decide) (of_decide_eq_true rfl) at_163 rfl ?_
        intro T8 h8 X8 e8 W8 Aq
        have A1 := A1.other W8 ne_a1_a6
        have Z8 : n0 ≤ h8.size := by rw [W8.size]; exact Z7
        have N8 := Fr.snoc X8 N7 z_a6
        have A6 : Arv Z h8 a6 k6 .double (4 : Int32) [(.double (FP.i2d i5)), (.double (FP.i2d i6))] (.double (0 : UInt64)) := Aq
        refine g_dup C X8 (pc' := 165) at_164 rfl rfl ?_
        refine g_iconst C X8 (pc' := 166) at_165 (v := (2 : Int32)) (by decide) rfl ?_
        refine g_lloadN C X8 (pc' := 167) at_166 rfl rfl ?_
        refine g_l2i C X8 (pc' := 168) at_167 rfl ?_
        obtain ⟨i7, e_i7⟩ : ∃ z : Int32, z = p2.toInt32 := ⟨_, rfl⟩
        rw [← e_i7]
        clear e_i7
        have rg_i7 := rng32 i7
        refine g_i2d C X8 (pc' := 169) at_168 rfl ?_
        refine g_dastore C X8 (pc' := 170) e8 A6 (by decide) (by decide) 2 1 (by decide) (of_decide_eq_true rfl) at_169 rfl ?_
        intro T9 h9 X9 e9 W9 Aq
        have A1 := A1.other W9 ne_a1_a6
        have Z9 : n0 ≤ h9.size := by rw [W9.size]; exact Z8
        have N9 := Fr.snoc X9 N8 z_a6
        have A6 : Arv Z h9 a6 k6 .double (4 : Int32) [(.double (FP.i2d i5)), (.double (FP.i2d i6)), (.double (FP.i2d i7))] (.double (0 : UInt64)) := Aq
        refine g_dup C X9 (pc' := 171) at_170 rfl rfl ?_
        refine g_iconst C X9 (pc' := 172) at_171 (v := (3 : Int32)) (by decide) rfl ?_
        refine g_lloadN C X9 (pc' := 173) at_172 rfl rfl ?_
        refine g_bipush C X9 (pc' := 175) at_173 (v := (32 : Int32)) (by decide) rfl ?_
        refine g_lushr C X9 (pc' := 176) at_175 rfl ?_
        refine g_l2i C X9 (pc' := 177) at_176 rfl ?_
        obtain ⟨i8, e_i8⟩ : ∃ z : Int32, z = (XT.ushrL p2 (32 : Int32)).toInt32 := ⟨_, rfl⟩
        rw [← e_i8]
        clear e_i8
        have rg_i8 := rng32 i8
        refine g_i2d C X9 (pc' := 178) at_177 rfl ?_
        refine g_dastore C X9 (pc' := 179) e9 A6 (by decide) (by decide) 3 1 (by decide) (of_decide_eq_true rfl) at_178 rfl ?_
        intro T10 h10 X10 e10 W10 Aq
        have A1 := A1.other W10 ne_a1_a6
        have Z10 : n0 ≤ h10.size := by rw [W10.size]; exact Z9
        have N10 := Fr.snoc X10 N9 z_a6
        have A6 : Arv Z h10 a6 k6 .double (4 : Int32) [(.double (FP.i2d i5)), (.double (FP.i2d i6)), (.double (FP.i2d i7)), (.double (FP.i2d i8))] (.double (0 : UInt64)) := Aq
        refine g_astore C X10 (pc' := 181) at_179 rfl (l' := #[.val (.int p0), .val (.long p1), .second, .val (.long p2), .second, .val (.long p3), .second, .val (.long p4), .second, .val (.int (0 : Int32)), .val (.int i2), .val (.int i3), .val (.int zl), .val (.int i4), .val (.int zf), .val (.int tz2), .val (.int tz3), .val (.ref a1), .val (.ref a6), .unset, .unset, .unset, .unset, .unset, .unset]) rfl rfl ?_
        refine g_iconst C X10 (pc' := 182) at_181 (v := (4 : Int32)) (by decide) rfl ?_
        refine g_newP C X10 (aty := .double) (hw _ (List.mem_of_getElem? (i := 1) rfl)) e10 at_182 (by decide) 4 (by decide) (by decide) (by decide) (by decide) rfl ?_
        intro T11 h11 a11 k11 g11 X11 e11 E11 A11
        have ne_a1_a11 : a1 ≠ a11 := Nat.ne_of_lt (by rw [g11]; exact A1.lt)
        have ne_a6_a11 : a6 ≠ a11 := Nat.ne_of_lt (by rw [g11]; exact A6.lt)
        have z_a11 : n0 ≤ a11 := by rw [g11]; exact Z10
        have A1 := A1.ext E11
        have A6 := A6.ext E11
        have Z11 : n0 ≤ h11.size := Nat.le_trans Z10 E11.1
        have A11 : Arv Z h11 a11 k11 .double (4 : Int32) [] (.double (0 : UInt64)) := A11
        refine g_dup C X11 (pc' := 185) at_184 rfl rfl ?_
        refine g_iconst C X11 (pc' := 186) at_185 (v := (0 : Int32)) (by decide) rfl ?_
        refine g_lload C X11 (pc' := 188) at_186 rfl rfl ?_
        refine g_l2i C X11 (pc' := 189) at_188 rfl ?_
        obtain ⟨i9, e_i9⟩ : ∃ z : Int32, z = p3.toInt32 := ⟨_, rfl⟩
        rw [← e_i9]
        clear e_i9
        have rg_i9 := rng32 i9
        refine g_i2d C X11 (pc' := 190) at_189 rfl ?_
        refine g_dastore C X11 (pc' := 191) e11 A11 (by decide) (by decide) 0 1 (by decide) (of_decide_eq_true rfl) at_190 rfl ?_
        intro T12 h12 X12 e12 W12 Aq
        have A1 := A1.other W12 ne_a1_a11
        have A6 := A6.other W12 ne_a6_a11
        have Z12 : n0 ≤ h12.size := by rw [W12.size]; exact Z11
        have N12 := Fr.snoc X12 N10 z_a11
        have A11 : Arv Z h12 a11 k11 .double (4 : Int32) [(.double (FP.i2d i9))] (.double (0 : UInt64)) := Aq
        refine g_dup C X12 (pc' := 192) at_191 rfl rfl ?_
        refine g_iconst C X12 (pc' := 193) at_192 (v := (1 : Int32)) (by decide) rfl ?_
        refine g_lload C X12 (pc' := 195) at_193 rfl rfl ?_
        refine g_bipush C X12 (pc' := 197) at_195 (v := (32 : Int32)) (by decide) rfl ?_
        refine g_lushr C X12 (pc' := 198) at_197 rfl ?_
        refine g_l2i C X12 (pc' := 199) at_198 rfl ?_
        obtain ⟨i10, e_i10⟩ : ∃ z : Int32, z = (XT.ushrL p3 (32 : Int32)).toInt32 := ⟨_, rfl⟩
        rw [← e_i10]
        clear e_i10
        have rg_i10 := rng32 i10
        refine g_i2d C X12 (pc' := 200) at_199 rfl ?_
        refine g_dastore C X12 (pc' := 201) e12 A11 (by decide) (by decide) 1 1 (by decide) (of_decide_eq_true rfl) at_200 rfl ?_
        intro T13 h13 X13 e13 W13 Aq
        have A1 := A1.other W13 ne_a1_a11
        have A6 := A6.other W13 ne_a6_a11
        have Z13 : n0 ≤ h13.size := by rw [W13.size]; exact Z12
        have N13 := Fr.snoc X13 N12 z_a11
        have A11 : Arv Z h13 a11 k11 .double (4 : Int32) [(.double (FP.i2d i9)), (.double (FP.i2d i10))] (.double (0 : UInt64)) := Aq
        refine g_dup C X13 (pc' := 202) at_201 rfl rfl ?_
        refine g_iconst C X13 (pc' := 203) at_202 (v := (2 : Int32)) (by decide) rfl ?_
        refine g_lload C X13 (pc' := 205) at_203 rfl rfl ?_
        refine g_l2i C X13 (pc' := 206) at_205 rfl ?_
        obtain ⟨i11, e_i11⟩ : ∃ z : Int32, z = p4.toInt32 := ⟨_, rfl⟩
        rw [← e_i11]
        clear e_i11
        have rg_i11 := rng32 i11
        refine g_i2d C X13 (pc' := 207) at_206 rfl ?_
        refine g_dastore C X13 (pc' := 208) e13 A11 (by decide) (by decide) 2 1 (by decide) (of_decide_eq_true rfl) at_207 rfl ?_
        intro T14 h14 X14 e14 W14 Aq
        have A1 := A1.other W14 ne_a1_a11
        have A6 := A6.other W14 ne_a6_a11
        have Z14 : n0 ≤ h14.size := by rw [W14.size]; exact Z13
        have N14 := Fr.snoc X14 N13 z_a11
        have A11 : Arv Z h14 a11 k11 .double (4 : Int32) [(.double (FP.i2d i9)), (.double (FP.i2d i10)), (.double (FP.i2d i11))] (.double (0 : UInt64)) := Aq
        refine g_dup C X14 (pc' := 209) at_208 rfl rfl ?_
        refine g_iconst C X14 (pc' := 210) at_209 (v := (3 : Int32)) (by decide) rfl ?_
        refine g_lload C X14 (pc' := 212) at_210 rfl rfl ?_
        refine g_bipush C X14 (pc' := 214) at_212 (v := (32 : Int32)) (by decide) rfl ?_
        refine g_lushr C X14 (pc' := 215) at_214 rfl ?_
        refine g_l2i C X14 (pc' := 216) at_215 rfl ?_
        obtain ⟨i12, e_i12⟩ : ∃ z : Int32, z = (XT.ushrL p4 (32 : Int32)).toInt32 := ⟨_, rfl⟩
        rw [← e_i12]
        clear e_i12
        have rg_i12 := rng32 i12
        refine g_i2d C X14 (pc' := 217) at_216 rfl ?_
        refine g_dastore C X14 (pc' := 218) e14 A11 (by decide) (by decide) 3 1 (by decide) (of_decide_eq_true rfl) at_217 rfl ?_
        intro T15 h15 X15 e15 W15 Aq
        have A1 := A1.other W15 ne_a1_a11
        have A6 := A6.other W15 ne_a6_a11
        have Z15 : n0 ≤ h15.size := by rw [W15.size]; exact Z14
        have N15 := Fr.snoc X15 N14 z_a11
        have A11 : Arv Z h15 a11 k11 .double (4 : Int32) [(.double (FP.i2d i9)), (.double (FP.i2d i10)), (.double (FP.i2d i11)), (.double (FP.i2d i12))] (.double (0 : UInt64)) := Aq
        refine g_astore C X15 (pc' := 220) at_218 rfl (l' := #[.val (.int p0), .val (.long p1), .second, .val (.long p2), .second, .val (.long p3), .second, .val (.long p4), .second, .val (.int (0 : Int32)), .val (.int i2), .val (.int i3), .val (.int zl), .val (.int i4), .val (.int zf), .val (.int tz2), .val (.int tz3), .val (.ref a1), .val (.ref a6), .val (.ref a11), .unset, .unset, .unset, .unset, .unset]) rfl rfl ?_
        refine g_iload C X15 (pc' := 222) at_220 rfl rfl ?_
        refine g_newP C X15 (aty := .int) (hw _ (List.mem_of_getElem? (i := 0) rfl)) e15 at_222 (by decide) 0 (by decide) (by decide) (by decide) (by decide) rfl ?_
        intro T16 h16 a16 k16 g16 X16 e16 E16 A16
        have ne_a1_a16 : a1 ≠ a16 := Nat.ne_of_lt (by rw [g16]; exact A1.lt)
        have ne_a11_a16 : a11 ≠ a16 := Nat.ne_of_lt (by rw [g16]; exact A11.lt)
        have ne_a6_a16 : a6 ≠ a16 := Nat.ne_of_lt (by rw [g16]; exact A6.lt)
        have z_a16 : n0 ≤ a16 := by rw [g16]; exact Z15
        have A1 := A1.ext E16
        have A6 := A6.ext E16
        have A11 := A11.ext E16
        have Z16 : n0 ≤ h16.size := Nat.le_trans Z15 E16.1
        have A16 : Arv Z h16 a16 k16 .int (0 : Int32) [] (.int (0 : Int32)) := A16
        refine g_astore C X16 (pc' := 226) at_224 rfl (l' := #[.val (.int p0), .val (.long p1), .second, .val (.long p2), .second, .val (.long p3), .second, .val (.long p4), .second, .val (.int (0 : Int32)), .val (.int i2), .val (.int i3), .val (.int zl), .val (.int i4), .val (.int zf), .val (.int tz2), .val (.int tz3), .val (.ref a1), .val (.ref a6), .val (.ref a11), .val (.ref a16), .unset, .unset, .unset, .unset]) rfl rfl ?_
        refine g_iload C X16 (pc' := 228) at_226 rfl rfl ?_
        refine g_newP C X16 (aty := .double) (hw _ (List.mem_of_getElem? (i := 1) rfl)) e16 at_228 (by decide) 0 (by decide) (by decide) (by decide) (by decide) rfl ?_
        intro T17 h17 a17 k17 g17 X17 e17 E17 A17
        have ne_a1_a17 : a1 ≠ a17 := Nat.ne_of_lt (by rw [g17]; exact A1.lt)
        have ne_a11_a17 : a11 ≠ a17 := Nat.ne_of_lt (by rw [g17]; exact A11.lt)
        have ne_a16_a17 : a16 ≠ a17 := Nat.ne_of_lt (by rw [g17]; exact A16.lt)
        have ne_a6_a17 : a6 ≠ a17 := Nat.ne_of_lt (by rw [g17]; exact A6.lt)
        have z_a17 : n0 ≤ a17 := by rw [g17]; exact Z16
        have A1 := A1.ext E17
        have A6 := A6.ext E17
        have A11 := A11.ext E17
        have A16 := A16.ext E17
        have Z17 : n0 ≤ h17.size := Nat.le_trans Z16 E17.1
        have A17 : Arv Z h17 a17 k17 .double (0 : Int32) [] (.double (0 : UInt64)) := A17
        refine g_astore C X17 (pc' := 232) at_230 rfl (l' := #[.val (.int p0), .val (.long p1), .second, .val (.long p2), .second, .val (.long p3), .second, .val (.long p4), .second, .val (.int (0 : Int32)), .val (.int i2), .val (.int i3), .val (.int zl), .val (.int i4), .val (.int zf), .val (.int tz2), .val (.int tz3), .val (.ref a1), .val (.ref a6), .val (.ref a11), .val (.ref a16), .val (.ref a17), .unset, .unset, .unset]) rfl rfl ?_
        refine g_iload C X17 (pc' := 234) at_232 rfl rfl ?_
        refine g_ifY C X17 at_234 (pc' := 251) (by decide) (by decide) (by decide) ?_
        refine g_iload C X17 (pc' := 253) at_251 rfl rfl ?_
        refine g_iconst C X17 (pc' := 254) at_253 (v := (1 : Int32)) (by decide) rfl ?_
        refine g_icmpY C X17 at_254 (pc' := 271) (by decide) (by decide) (by decide) ?_
        refine g_iload C X17 (pc' := 273) at_271 rfl rfl ?_
        refine g_iconst C X17 (pc' := 274) at_273 (v := (2 : Int32)) (by decide) rfl ?_
        refine g_icmpY C X17 at_274 (pc' := 291) (by decide) (by decide) (by decide) ?_
        refine g_iload C X17 (pc' := 293) at_291 rfl rfl ?_
        refine g_iconst C X17 (pc' := 294) at_293 (v := (3 : Int32)) (by decide) rfl ?_
        refine g_icmpY C X17 at_294 (pc' := 311) (by decide) (by decide) (by decide) ?_
        refine g_iconst C X17 (pc' := 312) at_311 (v := (4 : Int32)) (by decide) rfl ?_
        refine g_newP C X17 (aty := .double) (hw _ (List.mem_of_getElem? (i := 1) rfl)) e17 at_312 (by decide) 4 (by decide) (by decide) (by decide) (by decide) rfl ?_
        intro T18 h18 a18 k18 g18 X18 e18 E18 A18
        have ne_a1_a18 : a1 ≠ a18 := Nat.ne_of_lt (by rw [g18]; exact A1.lt)
        have ne_a11_a18 : a11 ≠ a18 := Nat.ne_of_lt (by rw [g18]; exact A11.lt)
        have ne_a16_a18 : a16 ≠ a18 := Nat.ne_of_lt (by rw [g18]; exact A16.lt)
        have ne_a17_a18 : a17 ≠ a18 := Nat.ne_of_lt (by rw [g18]; exact A17.lt)
        have ne_a6_a18 : a6 ≠ a18 := Nat.ne_of_lt (by rw [g18]; exact A6.lt)
        have z_a18 : n0 ≤ a18 := by rw [g18]; exact Z17
        have A1 := A1.ext E18
        have A6 := A6.ext E18
        have A11 := A11.ext E18
        have A16 := A16.ext E18
        have A17 := A17.ext E18
        have Z18 : n0 ≤ h18.size := Nat.le_trans Z17 E18.1
        have A18 : Arv Z h18 a18 k18 .double (4 : Int32) [] (.double (0 : UInt64)) := A18
        refine g_dup C X18 (pc' := 315) at_314 rfl rfl ?_
        refine g_iconst C X18 (pc' := 316) at_315 (v := (0 : Int32)) (by decide) rfl ?_
        refine g_aload C X18 (pc' := 318) at_316 rfl rfl rfl ?_
        refine g_iconst C X18 (pc' := 319) at_318 (v := (0 : Int32)) (by decide) rfl ?_
        refine g_daload C X18 (pc' := 320) e18 A11 (by decide) (by decide) 0 (by decide) rfl at_319 rfl ?_
        refine g_dastore C X18 (pc' := 321) e18 A18 (by decide) (by decide) 0 1 (by decide) (of_decide_eq_true rfl) at_320 rfl ?_
        intro T19 h19 X19 e19 W19 Aq
        have A1 := A1.other W19 ne_a1_a18
        have A6 := A6.other W19 ne_a6_a18
        have A11 := A11.other W19 ne_a11_a18
        have A16 := A16.other W19 ne_a16_a18
        have A17 := A17.other W19 ne_a17_a18
        have Z19 : n0 ≤ h19.size := by rw [W19.size]; exact Z18
        have N19 := Fr.snoc X19 N15 z_a18
        have A18 : Arv Z h19 a18 k18 .double (4 : Int32) [(.double (FP.i2d i9))] (.double (0 : UInt64)) := Aq
        refine g_dup C X19 (pc' := 322) at_321 rfl rfl ?_
        refine g_iconst C X19 (pc' := 323) at_322 (v := (1 : Int32)) (by decide) rfl ?_
        refine g_aload C X19 (pc' := 325) at_323 rfl rfl rfl ?_
        refine g_iconst C X19 (pc' := 326) at_325 (v := (1 : Int32)) (by decide) rfl ?_
        refine g_daload C X19 (pc' := 327) e19 A11 (by decide) (by decide) 1 (by decide) rfl at_326 rfl ?_
        refine g_dastore C X19 (pc' := 328) e19 A18 (by decide) (by decide) 1 1 (by decide) (of_decide_eq_true rfl) at_327 rfl ?_
        intro T20 h20 X20 e20 W20 Aq
        have A1 := A1.other W20 ne_a1_a18
        have A6 := A6.other W20 ne_a6_a18
        have A11 := A11.other W20 ne_a11_a18
        have A16 := A16.other W20 ne_a16_a18
        have A17 := A17.other W20 ne_a17_a18
        have Z20 : n0 ≤ h20.size := by rw [W20.size]; exact Z19
        have N20 := Fr.snoc X20 N19 z_a18
        have A18 : Arv Z h20 a18 k18 .double (4 : Int32) [(.double (FP.i2d i9)), (.double (FP.i2d i10))] (.double (0 : UInt64)) := Aq
        refine g_dup C X20 (pc' := 329) at_328 rfl rfl ?_
        refine g_iconst C X20 (pc' := 330) at_329 (v := (2 : Int32)) (by decide) rfl ?_
        refine g_aload C X20 (pc' := 332) at_330 rfl rfl rfl ?_
        refine g_iconst C X20 (pc' := 333) at_332 (v := (2 : Int32)) (by decide) rfl ?_
        refine g_daload C X20 (pc' := 334) e20 A11 (by decide) (by decide) 2 (by decide) rfl at_333 rfl ?_
        refine g_dastore C X20 (pc' := 335) e20 A18 (by decide) (by decide) 2 1 (by decide) (of_decide_eq_true rfl) at_334 rfl ?_
        intro T21 h21 X21 e21 W21 Aq
        have A1 := A1.other W21 ne_a1_a18
        have A6 := A6.other W21 ne_a6_a18
        have A11 := A11.other W21 ne_a11_a18
        have A16 := A16.other W21 ne_a16_a18
        have A17 := A17.other W21 ne_a17_a18
        have Z21 : n0 ≤ h21.size := by rw [W21.size]; exact Z20
        have N21 := Fr.snoc X21 N20 z_a18
        have A18 : Arv Z h21 a18 k18 .double (4 : Int32) [(.double (FP.i2d i9)), (.double (FP.i2d i10)), (.double (FP.i2d i11))] (.double (0 : UInt64)) := Aq
        refine g_dup C X21 (pc' := 336) at_335 rfl rfl ?_
        refine g_iconst C X21 (pc' := 337) at_336 (v := (3 : Int32)) (by decide) rfl ?_
        refine g_aload C X21 (pc' := 339) at_337 rfl rfl rfl ?_
        refine g_iconst C X21 (pc' := 340) at_339 (v := (3 : Int32)) (by decide) rfl ?_
        refine g_daload C X21 (pc' := 341) e21 A11 (by decide) (by decide) 3 (by decide) rfl at_340 rfl ?_
        refine g_dastore C X21 (pc' := 342) e21 A18 (by decide) (by decide) 3 1 (by decide) (of_decide_eq_true rfl) at_341 rfl ?_
        intro T22 h22 X22 e22 W22 Aq
        have A1 := A1.other W22 ne_a1_a18
        have A6 := A6.other W22 ne_a6_a18
        have A11 := A11.other W22 ne_a11_a18
        have A16 := A16.other W22 ne_a16_a18
        have A17 := A17.other W22 ne_a17_a18
        have Z22 : n0 ≤ h22.size := by rw [W22.size]; exact Z21
        have N22 := Fr.snoc X22 N21 z_a18
        have A18 : Arv Z h22 a18 k18 .double (4 : Int32) [(.double (FP.i2d i9)), (.double (FP.i2d i10)), (.double (FP.i2d i11)), (.double (FP.i2d i12))] (.double (0 : UInt64)) := Aq
        refine g_astore C X22 (pc' := 344) at_342 rfl (l' := #[.val (.int p0), .val (.long p1), .second, .val (.long p2), .second, .val (.long p3), .second, .val (.long p4), .second, .val (.int (0 : Int32)), .val (.int i2), .val (.int i3), .val (.int zl), .val (.int i4), .val (.int zf), .val (.int tz2), .val (.int tz3), .val (.ref a1), .val (.ref a6), .val (.ref a11), .val (.ref a16), .val (.ref a17), .val (.ref a18), .unset, .unset]) rfl rfl ?_
        refine g_new C X22 (hw _ (List.mem_of_getElem? (i := 2) rfl)) (hw _ (List.mem_of_getElem? (i := 3) rfl)) (hw _ (List.mem_of_getElem? (i := 4) rfl)) e22 at_344 (by decide) (by decide) rfl ?_
        intro T23 h23 a23 g23 X23 e23 E23 A23 D23
        have ne_a1_a23 : a1 ≠ a23 := Nat.ne_of_lt (by rw [g23]; exact A1.lt)
        have ne_a11_a23 : a11 ≠ a23 := Nat.ne_of_lt (by rw [g23]; exact A11.lt)
        have ne_a16_a23 : a16 ≠ a23 := Nat.ne_of_lt (by rw [g23]; exact A16.lt)
        have ne_a17_a23 : a17 ≠ a23 := Nat.ne_of_lt (by rw [g23]; exact A17.lt)
        have ne_a18_a23 : a18 ≠ a23 := Nat.ne_of_lt (by rw [g23]; exact A18.lt)
        have ne_a6_a23 : a6 ≠ a23 := Nat.ne_of_lt (by rw [g23]; exact A6.lt)
        have z_a23 : n0 ≤ a23 := by rw [g23]; exact Z22
        have A1 := A1.ext E23
        have A6 := A6.ext E23
        have A11 := A11.ext E23
        have A16 := A16.ext E23
        have A17 := A17.ext E23
        have A18 := A18.ext E23
        have Z23 : n0 ≤ h23.size := Nat.le_trans Z22 E23.1
        refine g_dup C X23 (pc' := 348) at_347 rfl rfl ?_
        refine g_aload C X23 (pc' := 350) at_348 rfl rfl rfl ?_
        refine g_aload C X23 (pc' := 352) at_350 rfl rfl rfl ?_
        have F23_terms : ∃ w, Fld Z h23 a23 "com/example/kenning/kenning/retrieval/KMeans$Vector" "terms" "[I" w := ⟨_, D23 (Or.inr (hw _ (List.mem_of_getElem? (i := 17) rfl))) (ty := (.array .int)) (by decide)⟩
        have F23_weights : ∃ w, Fld Z h23 a23 "com/example/kenning/kenning/retrieval/KMeans$Vector" "weights" "[D" w := ⟨_, D23 (Or.inr (hw _ (List.mem_of_getElem? (i := 19) rfl))) (ty := (.array .double)) (by decide)⟩
        refine g_callI C X23 (c_init l Z a0 hw h23 n0 Z23 a23 z_a23 a16 a17 A23 F23_terms F23_weights) rfl (hw _ (List.mem_of_getElem? (i := 5) rfl)) (hw _ (List.mem_of_getElem? (i := 6) rfl)) (hw _ (List.mem_of_getElem? (i := 4) rfl)) (hw _ (List.mem_of_getElem? (i := 7) rfl)) (by decide) e23 at_352 rfl pdI a23 [(.ref a16), (.ref a17)] [(.ref a23)] rfl rfl rfl 1 rfl (by decide) (by decide) (by decide) (by decide) rfl ?_
        rintro _ T24 L24 X24 ⟨rfl, M24, K24, Aq, Ft24, Fw24⟩
        have A1 := A1.keep K24 (ninS ne_a1_a23 nin0)
        have A6 := A6.keep K24 (ninS ne_a6_a23 nin0)
        have A11 := A11.keep K24 (ninS ne_a11_a23 nin0)
        have A16 := A16.keep K24 (ninS ne_a16_a23 nin0)
        have A17 := A17.keep K24 (ninS ne_a17_a23 nin0)
        have A18 := A18.keep K24 (ninS ne_a18_a23 nin0)
        have A23 := A23.keep K24
        have Z24 : n0 ≤ T24.heap.size := Nat.le_trans Z23 K24.1
        have N24 := Fr.app N22 M24
        obtain ⟨h24, e24⟩ : ∃ z, T24.heap = z := ⟨_, rfl⟩
        rw [e24] at A1 A6 A11 A16 A17 A18 A23 Ft24 Fw24 Z24
        show Go p.tables e below _ T24 (mkF m 355 #[.val (.int p0), .val (.long p1), .second, .val (.long p2), .second, .val (.long p3), .second, .val (.long p4), .second, .val (.int (0 : Int32)), .val (.int i2), .val (.int i3), .val (.int zl), .val (.int i4), .val (.int zf), .val (.int tz2), .val (.int tz3), .val (.ref a1), .val (.ref a6), .val (.ref a11), .val (.ref a16), .val (.ref a17), .val (.ref a18), .unset, .unset] [(.ref a23)])
        refine g_aload C X24 (pc' := 357) at_355 rfl rfl rfl ?_
        refine g_callV C X24 (c_add0 l Z a0 hw h24 n0 Z24 a23 a18 a16 a17 z_a18 (Ne.symm ne_a18_a23) ne_a16_a18 ne_a17_a18 k16 k17 k18 i2 i3 tz2 tz3 i5.toInt i6.toInt i7.toInt i8.toInt hT (FP.i2d i9) _ (i2d_D i9) rg_i9 (FP.i2d i10) _ (i2d_D i10) rg_i10 (FP.i2d i11) _ (i2d_D i11) rg_i11 (FP.i2d i12) _ (i2d_D i12) rg_i12 Ft24 Fw24 A16 A17 A18) (hw _ (List.mem_of_getElem? (i := 20) rfl)) (hw _ (List.mem_of_getElem? (i := 21) rfl)) (hw _ (List.mem_of_getElem? (i := 23) rfl)) (hw _ (List.mem_of_getElem? (i := 22) rfl)) (hw _ (List.mem_of_getElem? (i := 4) rfl)) (hw _ (List.mem_of_getElem? (i := 24) rfl)) (by decide) e24 A23 at_357 rfl pdD [(.ref a18)] [] rfl rfl rfl 0 rfl (by decide) (by decide) (by decide) (by decide) rfl ?_
        rintro _ T25 L25 X25 ⟨rfl, M25, K25, z0, z1, z2, z3', b0, b1, b2, b3, Dz0, Dz1, Dz2, Dz3, Pb0, Pb1, Pb2, Pb3, V25⟩
        have A1 := A1.keep K25 (ninS ne_a1_a18 nin0)
        have A6 := A6.keep K25 (ninS ne_a6_a18 nin0)
        have A11 := A11.keep K25 (ninS ne_a11_a18 nin0)
        have A16 := A16.keep K25 (ninS ne_a16_a18 nin0)
        have A17 := A17.keep K25 (ninS ne_a17_a18 nin0)
        have A23 := A23.keep K25
        have Ft24 := Ft24.keep K25 (ninS (Ne.symm ne_a18_a23) nin0)
        have Fw24 := Fw24.keep K25 (ninS (Ne.symm ne_a18_a23) nin0)
        have Z25 : n0 ≤ T25.heap.size := Nat.le_trans Z24 K25.1
        have N25 := Fr.app N24 M25
        obtain ⟨h25, e25⟩ : ∃ z, T25.heap = z := ⟨_, rfl⟩
        rw [e25] at A1 A6 A11 A16 A17 A23 Ft24 Fw24 V25 Z25
        show Go p.tables e below _ T25 (mkF m 360 #[.val (.int p0), .val (.long p1), .second, .val (.long p2), .second, .val (.long p3), .second, .val (.long p4), .second, .val (.int (0 : Int32)), .val (.int i2), .val (.int i3), .val (.int zl), .val (.int i4), .val (.int zf), .val (.int tz2), .val (.int tz3), .val (.ref a1), .val (.ref a6), .val (.ref a11), .val (.ref a16), .val (.ref a17), .val (.ref a18), .unset, .unset] [])
        refine g_aload C X25 (pc' := 362) at_360 rfl rfl rfl ?_
        refine g_len C X25 (pc' := 363) e25 V25 at_362 rfl ?_
        refine g_iconst C X25 (pc' := 364) at_363 (v := (4 : Int32)) (by decide) rfl ?_
        refine g_icmpN C X25 at_364 (by decide) rfl ?_
        refine g_aload C X25 (pc' := 369) at_367 rfl rfl rfl ?_
        refine g_iconst C X25 (pc' := 370) at_369 (v := (0 : Int32)) (by decide) rfl ?_
        refine g_daload C X25 (pc' := 371) e25 V25 (by decide) (by decide) 0 (by decide) rfl at_370 rfl ?_
        refine g_iconst C X25 (pc' := 372) at_371 (v := (0 : Int32)) (by decide) rfl ?_
        refine g_iload C X25 (pc' := 374) at_372 rfl rfl ?_
        refine g_aload C X25 (pc' := 376) at_374 rfl rfl rfl ?_
        refine g_aload C X25 (pc' := 378) at_376 rfl rfl rfl ?_
        refine g_aload C X25 (pc' := 380) at_378 rfl rfl rfl ?_
        refine g_callS C X25 (c_exp0 l Z a0 hw h25 a1 a6 a11 k1 k6 k11 i2 i3 tz2 tz3 i5.toInt i6.toInt i7.toInt i8.toInt hT (FP.i2d i5) (i2d_D i5) rg_i5 (FP.i2d i6) (i2d_D i6) rg_i6 (FP.i2d i7) (i2d_D i7) rg_i7 (FP.i2d i8) (i2d_D i8) rg_i8 (FP.i2d i9) (FP.i2d i10) (FP.i2d i11) (FP.i2d i12) (0 : Int32) (by decide) (FP.i2d i9) _ (i2d_D i9) rg_i9 rfl A1 A6 A11) (hw _ (List.mem_of_getElem? (i := 25) rfl)) (hw _ (List.mem_of_getElem? (i := 26) rfl)) (hw _ (List.mem_of_getElem? (i := 27) rfl)) (hw _ (List.mem_of_getElem? (i := 28) rfl)) (by decide) e25 at_380 rfl pdE [(.int (0 : Int32)), (.int (0 : Int32)), (.ref a1), (.ref a6), (.ref a11)] [(.double z0)] rfl rfl rfl 2 rfl (by decide) (by decide) (by decide) (by decide) rfl ?_
        rintro _ T26 _ X26 ⟨r26, A_26, rfl, D_r26, P_26, rfl, e26⟩
        rw [List.append_nil] at X26
        have ea : A_26 = b0 := own_uniq P_26 Pb0
        rw [ea] at D_r26
        show Go p.tables e below _ T26 (mkF m 383 #[.val (.int p0), .val (.long p1), .second, .val (.long p2), .second, .val (.long p3), .second, .val (.long p4), .second, .val (.int (0 : Int32)), .val (.int i2), .val (.int i3), .val (.int zl), .val (.int i4), .val (.int zf), .val (.int tz2), .val (.int tz3), .val (.ref a1), .val (.ref a6), .val (.ref a11), .val (.ref a16), .val (.ref a17), .val (.ref a18), .unset, .unset] [(.double r26), (.double z0)])
        refine g_dcmpV C X26 at_383 (v := (0 : Int32)) ((dcmp_cmpI Dz0 D_r26 _).trans (cmpI_self _)) rfl ?_
        refine g_ifN C X26 at_384 (by decide) rfl ?_
        refine g_aload C X26 (pc' := 389) at_387 rfl rfl rfl ?_
        refine g_iconst C X26 (pc' := 390) at_389 (v := (1 : Int32)) (by decide) rfl ?_
        refine g_daload C X26 (pc' := 391) e26 V25 (by decide) (by decide) 1 (by decide) rfl at_390 rfl ?_
        refine g_iconst C X26 (pc' := 392) at_391 (v := (1 : Int32)) (by decide) rfl ?_
        refine g_iload C X26 (pc' := 394) at_392 rfl rfl ?_
        refine g_aload C X26 (pc' := 396) at_394 rfl rfl rfl ?_
        refine g_aload C X26 (pc' := 398) at_396 rfl rfl rfl ?_
        refine g_aload C X26 (pc' := 400) at_398 rfl rfl rfl ?_
        refine g_callS C X26 (c_exp0 l Z a0 hw h25 a1 a6 a11 k1 k6 k11 i2 i3 tz2 tz3 i5.toInt i6.toInt i7.toInt i8.toInt hT (FP.i2d i5) (i2d_D i5) rg_i5 (FP.i2d i6) (i2d_D i6) rg_i6 (FP.i2d i7) (i2d_D i7) rg_i7 (FP.i2d i8) (i2d_D i8) rg_i8 (FP.i2d i9) (FP.i2d i10) (FP.i2d i11) (FP.i2d i12) (1 : Int32) (by decide) (FP.i2d i10) _ (i2d_D i10) rg_i10 rfl A1 A6 A11) (hw _ (List.mem_of_getElem? (i := 25) rfl)) (hw _ (List.mem_of_getElem? (i := 26) rfl)) (hw _ (List.mem_of_getElem? (i := 27) rfl)) (hw _ (List.mem_of_getElem? (i := 28) rfl)) (by decide) e26 at_400 rfl pdE [(.int (1 : Int32)), (.int (0 : Int32)), (.ref a1), (.ref a6), (.ref a11)] [(.double z1)] rfl rfl rfl 2 rfl (by decide) (by decide) (by decide) (by decide) rfl ?_
        rintro _ T27 _ X27 ⟨r27, A_27, rfl, D_r27, P_27, rfl, e27⟩
        rw [List.append_nil] at X27
        have ea : A_27 = b1 := own_uniq P_27 Pb1
        rw [ea] at D_r27
        show Go p.tables e below _ T27 (mkF m 403 #[.val (.int p0), .val (.long p1), .second, .val (.long p2), .second, .val (.long p3), .second, .val (.long p4), .second, .val (.int (0 : Int32)), .val (.int i2), .val (.int i3), .val (.int zl), .val (.int i4), .val (.int zf), .val (.int tz2), .val (.int tz3), .val (.ref a1), .val (.ref a6), .val (.ref a11), .val (.ref a16), .val (.ref a17), .val (.ref a18), .unset, .unset] [(.double r27), (.double z1)])
        refine g_dcmpV C X27 at_403 (v := (0 : Int32)) ((dcmp_cmpI Dz1 D_r27 _).trans (cmpI_self _)) rfl ?_
        refine g_ifN C X27 at_404 (by decide) rfl ?_
        refine g_aload C X27 (pc' := 409) at_407 rfl rfl rfl ?_
        refine g_iconst C X27 (pc' := 410) at_409 (v := (2 : Int32)) (by decide) rfl ?_
        refine g_daload C X27 (pc' := 411) e27 V25 (by decide) (by decide) 2 (by decide) rfl at_410 rfl ?_
        refine g_iconst C X27 (pc' := 412) at_411 (v := (2 : Int32)) (by decide) rfl ?_
        refine g_iload C X27 (pc' := 414) at_412 rfl rfl ?_
        refine g_aload C X27 (pc' := 416) at_414 rfl rfl rfl ?_
        refine g_aload C X27 (pc' := 418) at_416 rfl rfl rfl ?_
        refine g_aload C X27 (pc' := 420) at_418 rfl rfl rfl ?_
        refine g_callS C X27 (c_exp0 l Z a0 hw h25 a1 a6 a11 k1 k6 k11 i2 i3 tz2 tz3 i5.toInt i6.toInt i7.toInt i8.toInt hT (FP.i2d i5) (i2d_D i5) rg_i5 (FP.i2d i6) (i2d_D i6) rg_i6 (FP.i2d i7) (i2d_D i7) rg_i7 (FP.i2d i8) (i2d_D i8) rg_i8 (FP.i2d i9) (FP.i2d i10) (FP.i2d i11) (FP.i2d i12) (2 : Int32) (by decide) (FP.i2d i11) _ (i2d_D i11) rg_i11 rfl A1 A6 A11) (hw _ (List.mem_of_getElem? (i := 25) rfl)) (hw _ (List.mem_of_getElem? (i := 26) rfl)) (hw _ (List.mem_of_getElem? (i := 27) rfl)) (hw _ (List.mem_of_getElem? (i := 28) rfl)) (by decide) e27 at_420 rfl pdE [(.int (2 : Int32)), (.int (0 : Int32)), (.ref a1), (.ref a6), (.ref a11)] [(.double z2)] rfl rfl rfl 2 rfl (by decide) (by decide) (by decide) (by decide) rfl ?_
        rintro _ T28 _ X28 ⟨r28, A_28, rfl, D_r28, P_28, rfl, e28⟩
        rw [List.append_nil] at X28
        have ea : A_28 = b2 := own_uniq P_28 Pb2
        rw [ea] at D_r28
        show Go p.tables e below _ T28 (mkF m 423 #[.val (.int p0), .val (.long p1), .second, .val (.long p2), .second, .val (.long p3), .second, .val (.long p4), .second, .val (.int (0 : Int32)), .val (.int i2), .val (.int i3), .val (.int zl), .val (.int i4), .val (.int zf), .val (.int tz2), .val (.int tz3), .val (.ref a1), .val (.ref a6), .val (.ref a11), .val (.ref a16), .val (.ref a17), .val (.ref a18), .unset, .unset] [(.double r28), (.double z2)])
        refine g_dcmpV C X28 at_423 (v := (0 : Int32)) ((dcmp_cmpI Dz2 D_r28 _).trans (cmpI_self _)) rfl ?_
        refine g_ifN C X28 at_424 (by decide) rfl ?_
        refine g_aload C X28 (pc' := 429) at_427 rfl rfl rfl ?_
        refine g_iconst C X28 (pc' := 430) at_429 (v := (3 : Int32)) (by decide) rfl ?_
        refine g_daload C X28 (pc' := 431) e28 V25 (by decide) (by decide) 3 (by decide) rfl at_430 rfl ?_
        refine g_iconst C X28 (pc' := 432) at_431 (v := (3 : Int32)) (by decide) rfl ?_
        refine g_iload C X28 (pc' := 434) at_432 rfl rfl ?_
        refine g_aload C X28 (pc' := 436) at_434 rfl rfl rfl ?_
        refine g_aload C X28 (pc' := 438) at_436 rfl rfl rfl ?_
        refine g_aload C X28 (pc' := 440) at_438 rfl rfl rfl ?_
        refine g_callS C X28 (c_exp0 l Z a0 hw h25 a1 a6 a11 k1 k6 k11 i2 i3 tz2 tz3 i5.toInt i6.toInt i7.toInt i8.toInt hT (FP.i2d i5) (i2d_D i5) rg_i5 (FP.i2d i6) (i2d_D i6) rg_i6 (FP.i2d i7) (i2d_D i7) rg_i7 (FP.i2d i8) (i2d_D i8) rg_i8 (FP.i2d i9) (FP.i2d i10) (FP.i2d i11) (FP.i2d i12) (3 : Int32) (by decide) (FP.i2d i12) _ (i2d_D i12) rg_i12 rfl A1 A6 A11) (hw _ (List.mem_of_getElem? (i := 25) rfl)) (hw _ (List.mem_of_getElem? (i := 26) rfl)) (hw _ (List.mem_of_getElem? (i := 27) rfl)) (hw _ (List.mem_of_getElem? (i := 28) rfl)) (by decide) e28 at_440 rfl pdE [(.int (3 : Int32)), (.int (0 : Int32)), (.ref a1), (.ref a6), (.ref a11)] [(.double z3')] rfl rfl rfl 2 rfl (by decide) (by decide) (by decide) (by decide) rfl ?_
        rintro _ T29 _ X29 ⟨r29, A_29, rfl, D_r29, P_29, rfl, e29⟩
        rw [List.append_nil] at X29
        have ea : A_29 = b3 := own_uniq P_29 Pb3
        rw [ea] at D_r29
        show Go p.tables e below _ T29 (mkF m 443 #[.val (.int p0), .val (.long p1), .second, .val (.long p2), .second, .val (.long p3), .second, .val (.long p4), .second, .val (.int (0 : Int32)), .val (.int i2), .val (.int i3), .val (.int zl), .val (.int i4), .val (.int zf), .val (.int tz2), .val (.int tz3), .val (.ref a1), .val (.ref a6), .val (.ref a11), .val (.ref a16), .val (.ref a17), .val (.ref a18), .unset, .unset] [(.double r29), (.double z3')])
        refine g_dcmpV C X29 at_443 (v := (0 : Int32)) ((dcmp_cmpI Dz3 D_r29 _).trans (cmpI_self _)) rfl ?_
        refine g_ifN C X29 at_444 (by decide) rfl ?_
        refine g_iconst C X29 (pc' := 448) at_447 (v := (1 : Int32)) (by decide) rfl ?_
        refine g_goto C X29 at_448 (pc' := 452) (by decide) (by decide) ?_
        refine g_istore C X29 (pc' := 454) at_452 (x := (1 : Int32)) rfl (l' := #[.val (.int p0), .val (.long p1), .second, .val (.long p2), .second, .val (.long p3), .second, .val (.long p4), .second, .val (.int (0 : Int32)), .val (.int i2), .val (.int i3), .val (.int zl), .val (.int i4), .val (.int zf), .val (.int tz2), .val (.int tz3), .val (.ref a1), .val (.ref a6), .val (.ref a11), .val (.ref a16), .val (.ref a17), .val (.ref a18), .val (.int (1 : Int32)), .unset]) rfl rfl ?_
        refine g_aload C X29 (pc' := 456) at_454 rfl rfl rfl ?_
        refine g_len C X29 (pc' := 457) e29 A16 at_456 rfl ?_
        refine g_iload C X29 (pc' := 459) at_457 rfl rfl ?_
        refine g_icmpN C X29 at_459 (by decide) rfl ?_
        refine g_aload C X29 (pc' := 464) at_462 rfl rfl rfl ?_
        refine g_len C X29 (pc' := 465) e29 A17 at_464 rfl ?_
        refine g_iload C X29 (pc' := 467) at_465 rfl rfl ?_
        refine g_icmpN C X29 at_467 (by decide) rfl ?_
        refine g_iload C X29 (pc' := 472) at_470 rfl rfl ?_
        refine g_iconst C X29 (pc' := 473) at_472 (v := (1 : Int32)) (by decide) rfl ?_
        refine g_icmpY C X29 at_473 (pc' := 497) (by decide) (by decide) (by decide) ?_
        refine g_iload C X29 (pc' := 499) at_497 rfl rfl ?_
        refine g_iconst C X29 (pc' := 500) at_499 (v := (2 : Int32)) (by decide) rfl ?_
        refine g_icmpY C X29 at_500 (pc' := 524) (by decide) (by decide) (by decide) ?_
        refine g_iload C X29 (pc' := 526) at_524 rfl rfl ?_
        refine g_iconst C X29 (pc' := 527) at_526 (v := (3 : Int32)) (by decide) rfl ?_
        refine g_icmpY C X29 at_527 (pc' := 551) (by decide) (by decide) (by decide) ?_
        refine g_iload C X29 (pc' := 553) at_551 rfl rfl ?_
        refine g_iconst C X29 (pc' := 554) at_553 (v := (4 : Int32)) (by decide) rfl ?_
        refine g_icmpY C X29 at_554 (pc' := 578) (by decide) (by decide) (by decide) ?_
        refine g_iconst C X29 (pc' := 579) at_578 (v := (1 : Int32)) (by decide) rfl ?_
        refine g_goto C X29 at_579 (pc' := 583) (by decide) (by decide) ?_
        refine g_istore C X29 (pc' := 585) at_583 (x := (1 : Int32)) rfl (l' := #[.val (.int p0), .val (.long p1), .second, .val (.long p2), .second, .val (.long p3), .second, .val (.long p4), .second, .val (.int (0 : Int32)), .val (.int i2), .val (.int i3), .val (.int zl), .val (.int i4), .val (.int zf), .val (.int tz2), .val (.int tz3), .val (.ref a1), .val (.ref a6), .val (.ref a11), .val (.ref a16), .val (.ref a17), .val (.ref a18), .val (.int (1 : Int32)), .val (.int (1 : Int32))]) rfl rfl ?_
        refine g_iload C X29 (pc' := 587) at_585 rfl rfl ?_
        refine g_ifN C X29 at_587 (by decide) rfl ?_
        refine g_iload C X29 (pc' := 592) at_590 rfl rfl ?_
        refine g_ifN C X29 at_592 (by decide) rfl ?_
        refine g_iconst C X29 (pc' := 596) at_595 (v := (1 : Int32)) (by decide) rfl ?_
        refine g_goto C X29 at_596 (pc' := 600) (by decide) (by decide) ?_
        exact g_zreturn C X29 at_600 (w := 1) (by decide) ⟨rfl, N25⟩ (by decide) (by decide)
      · show Go p.tables e below _ T0 (mkF m 121 #[.val (.int p0), .val (.long p1), .second, .val (.long p2), .second, .val (.long p3), .second, .val (.long p4), .second, .val (.int (1 : Int32)), .val (.int i2), .val (.int i3), .val (.int zl), .val (.int i4), .val (.int zf), .val (.int tz2), .val (.int tz3), .unset, .unset, .unset, .unset, .unset, .unset, .unset, .unset] [])
        refine g_iconst C X0 (pc' := 122) at_121 (v := (4 : Int32)) (by decide) rfl ?_
        refine g_newP C X0 (aty := .int) (hw _ (List.mem_of_getElem? (i := 0) rfl)) e0 at_122 (by decide) 4 (by decide) (by decide) (by decide) (by decide) rfl ?_
        intro T30 h30 a30 k30 g30 X30 e30 E30 A30
        have z_a30 : n0 ≤ a30 := by rw [g30]; exact Z0
        have Z30 : n0 ≤ h30.size := Nat.le_trans Z0 E30.1
        have A30 : Arv Z h30 a30 k30 .int (4 : Int32) [] (.int (0 : Int32)) := A30
        refine g_dup C X30 (pc' := 125) at_124 rfl rfl ?_
        refine g_iconst C X30 (pc' := 126) at_125 (v := (0 : Int32)) (by decide) rfl ?_
        refine g_iload C X30 (pc' := 128) at_126 rfl rfl ?_
        refine g_iastore C X30 (pc' := 129) e30 A30 (by decide) (by decide) 0 1 (by decide) (of_decide_eq_true rfl) at_128 rfl ?_
        intro T31 h31 X31 e31 W31 Aq
        have Z31 : n0 ≤ h31.size := by rw [W31.size]; exact Z30
        have N31 := Fr.snoc X31 (Fr.nil n0) z_a30
        have A30 : Arv Z h31 a30 k30 .int (4 : Int32) [(.int i2)] (.int (0 : Int32)) := Aq
        refine g_dup C X31 (pc' := 130) at_129 rfl rfl ?_
        refine g_iconst C X31 (pc' := 131) at_130 (v := (1 : Int32)) (by decide) rfl ?_
        refine g_iload C X31 (pc' := 133) at_131 rfl rfl ?_
        refine g_iastore C X31 (pc' := 134) e31 A30 (by decide) (by decide) 1 1 (by decide) (of_decide_eq_true rfl) at_133 rfl ?_
        intro T32 h32 X32 e32 W32 Aq
        have Z32 : n0 ≤ h32.size := by rw [W32.size]; exact Z31
        have N32 := Fr.snoc X32 N31 z_a30
        have A30 : Arv Z h32 a30 k30 .int (4 : Int32) [(.int i2), (.int i3)] (.int (0 : Int32)) := Aq
        refine g_dup C X32 (pc' := 135) at_134 rfl rfl ?_
        refine g_iconst C X32 (pc' := 136) at_135 (v := (2 : Int32)) (by decide) rfl ?_
        refine g_iload C X32 (pc' := 138) at_136 rfl rfl ?_
        refine g_iastore C X32 (pc' := 139) e32 A30 (by decide) (by decide) 2 1 (by decide) (of_decide_eq_true rfl) at_138 rfl ?_
        intro T33 h33 X33 e33 W33 Aq
        have Z33 : n0 ≤ h33.size := by rw [W33.size]; exact Z32
        have N33 := Fr.snoc X33 N32 z_a30
        have A30 : Arv Z h33 a30 k30 .int (4 : Int32) [(.int i2), (.int i3), (.int tz2)] (.int (0 : Int32)) := Aq
        refine g_dup C X33 (pc' := 140) at_139 rfl rfl ?_
        refine g_iconst C X33 (pc' := 141) at_140 (v := (3 : Int32)) (by decide) rfl ?_
        refine g_iload C X33 (pc' := 143) at_141 rfl rfl ?_
        refine g_iastore C X33 (pc' := 144) e33 A30 (by decide) (by decide) 3 1 (by decide) (of_decide_eq_true rfl) at_143 rfl ?_
        intro T34 h34 X34 e34 W34 Aq
        have Z34 : n0 ≤ h34.size := by rw [W34.size]; exact Z33
        have N34 := Fr.snoc X34 N33 z_a30
        have A30 : Arv Z h34 a30 k30 .int (4 : Int32) [(.int i2), (.int i3), (.int tz2), (.int tz3)] (.int (0 : Int32)) := Aq
        refine g_astore C X34 (pc' := 146) at_144 rfl (l' := #[.val (.int p0), .val (.long p1), .second, .val (.long p2), .second, .val (.long p3), .second, .val (.long p4), .second, .val (.int (1 : Int32)), .val (.int i2), .val (.int i3), .val (.int zl), .val (.int i4), .val (.int zf), .val (.int tz2), .val (.int tz3), .val (.ref a30), .unset, .unset, .unset, .unset, .unset, .unset, .unset]) rfl rfl ?_
        refine g_iconst C X34 (pc' := 147) at_146 (v := (4 : Int32)) (by decide) rfl ?_
        refine g_newP C X34 (aty := .double) (hw _ (List.mem_of_getElem? (i := 1) rfl)) e34 at_147 (by decide) 4 (by decide) (by decide) (by decide) (by decide) rfl ?_
        intro T35 h35 a35 k35 g35 X35 e35 E35 A35
        have ne_a30_a35 : a30 ≠ a35 := Nat.ne_of_lt (by rw [g35]; exact A30.lt)
        have z_a35 : n0 ≤ a35 := by rw [g35]; exact Z34
        have A30 := A30.ext E35
        have Z35 : n0 ≤ h35.size := Nat.le_trans Z34 E35.1
        have A35 : Arv Z h35 a35 k35 .double (4 : Int32) [] (.double (0 : UInt64)) := A35
        refine g_dup C X35 (pc' := 150) at_149 rfl rfl ?_
        refine g_iconst C X35 (pc' := 151) at_150 (v := (0 : Int32)) (by decide) rfl ?_
        refine g_lloadN C X35 (pc' := 152) at_151 rfl rfl ?_
        refine g_l2i C X35 (pc' := 153) at_152 rfl ?_
        obtain ⟨i13, e_i13⟩ : ∃ z : Int32, z = p1.toInt32 := ⟨_, rfl⟩
        rw [← e_i13]
        clear e_i13
        have rg_i13 := rng32 i13
        refine g_i2d C X35 (pc' := 154) at_153 rfl ?_
        refine g_dastore C X35 (pc' := 155) e35 A35 (by decide) (by decide) 0 1 (by decide) (of_decide_eq_true rfl) at_154 rfl ?_
        intro T36 h36 X36 e36 W36 Aq
        have A30 := A30.other W36 ne_a30_a35
        have Z36 : n0 ≤ h36.size := by rw [W36.size]; exact Z35
        have N36 := Fr.snoc X36 N34 z_a35
        have A35 : Arv Z h36 a35 k35 .double (4 : Int32) [(.double (FP.i2d i13))] (.double (0 : UInt64)) := Aq
        refine g_dup C X36 (pc' := 156) at_155 rfl rfl ?_
        refine g_iconst C X36 (pc' := 157) at_156 (v := (1 : Int32)) (by decide) rfl ?_
        refine g_lloadN C X36 (pc' := 158) at_157 rfl rfl ?_
        refine g_bipush C X36 (pc' := 160) at_158 (v := (32 : Int32)) (by decide) rfl ?_
        refine g_lushr C X36 (pc' := 161) at_160 rfl ?_
        refine g_l2i C X36 (pc' := 162) at_161 rfl ?_
        obtain ⟨i14, e_i14⟩ : ∃ z : Int32, z = (XT.ushrL p1 (32 : Int32)).toInt32 := ⟨_, rfl⟩
        rw [← e_i14]
        clear e_i14
        have rg_i14 := rng32 i14
        refine g_i2d C X36 (pc' := 163) at_162 rfl ?_
        refine g_dastore C X36 (pc' := 164) e36 A35 (by decide) (by decide) 1 1 (by decide) (of_decide_eq_true rfl) at_163 rfl ?_
        intro T37 h37 X37 e37 W37 Aq
        have A30 := A30.other W37 ne_a30_a35
        have Z37 : n0 ≤ h37.size := by rw [W37.size]; exact Z36
        have N37 := Fr.snoc X37 N36 z_a35
        have A35 : Arv Z h37 a35 k35 .double (4 : Int32) [(.double (FP.i2d i13)), (.double (FP.i2d i14))] (.double (0 : UInt64)) := Aq
        refine g_dup C X37 (pc' := 165) at_164 rfl rfl ?_
        refine g_iconst C X37 (pc' := 166) at_165 (v := (2 : Int32)) (by decide) rfl ?_
        refine g_lloadN C X37 (pc' := 167) at_166 rfl rfl ?_
        refine g_l2i C X37 (pc' := 168) at_167 rfl ?_
        obtain ⟨i15, e_i15⟩ : ∃ z : Int32, z = p2.toInt32 := ⟨_, rfl⟩
        rw [← e_i15]
        clear e_i15
        have rg_i15 := rng32 i15
        refine g_i2d C X37 (pc' := 169) at_168 rfl ?_
        refine g_dastore C X37 (pc' := 170) e37 A35 (by decide) (by decide) 2 1 (by decide) (of_decide_eq_true rfl) at_169 rfl ?_
        intro T38 h38 X38 e38 W38 Aq
        have A30 := A30.other W38 ne_a30_a35
        have Z38 : n0 ≤ h38.size := by rw [W38.size]; exact Z37
        have N38 := Fr.snoc X38 N37 z_a35
        have A35 : Arv Z h38 a35 k35 .double (4 : Int32) [(.double (FP.i2d i13)), (.double (FP.i2d i14)), (.double (FP.i2d i15))] (.double (0 : UInt64)) := Aq
        refine g_dup C X38 (pc' := 171) at_170 rfl rfl ?_
        refine g_iconst C X38 (pc' := 172) at_171 (v := (3 : Int32)) (by decide) rfl ?_
        refine g_lloadN C X38 (pc' := 173) at_172 rfl rfl ?_
        refine g_bipush C X38 (pc' := 175) at_173 (v := (32 : Int32)) (by decide) rfl ?_
        refine g_lushr C X38 (pc' := 176) at_175 rfl ?_
        refine g_l2i C X38 (pc' := 177) at_176 rfl ?_
        obtain ⟨i16, e_i16⟩ : ∃ z : Int32, z = (XT.ushrL p2 (32 : Int32)).toInt32 := ⟨_, rfl⟩
        rw [← e_i16]
        clear e_i16
        have rg_i16 := rng32 i16
        refine g_i2d C X38 (pc' := 178) at_177 rfl ?_
        refine g_dastore C X38 (pc' := 179) e38 A35 (by decide) (by decide) 3 1 (by decide) (of_decide_eq_true rfl) at_178 rfl ?_
        intro T39 h39 X39 e39 W39 Aq
        have A30 := A30.other W39 ne_a30_a35
        have Z39 : n0 ≤ h39.size := by rw [W39.size]; exact Z38
        have N39 := Fr.snoc X39 N38 z_a35
        have A35 : Arv Z h39 a35 k35 .double (4 : Int32) [(.double (FP.i2d i13)), (.double (FP.i2d i14)), (.double (FP.i2d i15)), (.double (FP.i2d i16))] (.double (0 : UInt64)) := Aq
        refine g_astore C X39 (pc' := 181) at_179 rfl (l' := #[.val (.int p0), .val (.long p1), .second, .val (.long p2), .second, .val (.long p3), .second, .val (.long p4), .second, .val (.int (1 : Int32)), .val (.int i2), .val (.int i3), .val (.int zl), .val (.int i4), .val (.int zf), .val (.int tz2), .val (.int tz3), .val (.ref a30), .val (.ref a35), .unset, .unset, .unset, .unset, .unset, .unset]) rfl rfl ?_
        refine g_iconst C X39 (pc' := 182) at_181 (v := (4 : Int32)) (by decide) rfl ?_
        refine g_newP C X39 (aty := .double) (hw _ (List.mem_of_getElem? (i := 1) rfl)) e39 at_182 (by decide) 4 (by decide) (by decide) (by decide) (by decide) rfl ?_
        intro T40 h40 a40 k40 g40 X40 e40 E40 A40
        have ne_a30_a40 : a30 ≠ a40 := Nat.ne_of_lt (by rw [g40]; exact A30.lt)
        have ne_a35_a40 : a35 ≠ a40 := Nat.ne_of_lt (by rw [g40]; exact A35.lt)
        have z_a40 : n0 ≤ a40 := by rw [g40]; exact Z39
        have A30 := A30.ext E40
        have A35 := A35.ext E40
        have Z40 : n0 ≤ h40.size := Nat.le_trans Z39 E40.1
        have A40 : Arv Z h40 a40 k40 .double (4 : Int32) [] (.double (0 : UInt64)) := A40
        refine g_dup C X40 (pc' := 185) at_184 rfl rfl ?_
        refine g_iconst C X40 (pc' := 186) at_185 (v := (0 : Int32)) (by decide) rfl ?_
        refine g_lload C X40 (pc' := 188) at_186 rfl rfl ?_
        refine g_l2i C X40 (pc' := 189) at_188 rfl ?_
        obtain ⟨i17, e_i17⟩ : ∃ z : Int32, z = p3.toInt32 := ⟨_, rfl⟩
        rw [← e_i17]
        clear e_i17
        have rg_i17 := rng32 i17
        refine g_i2d C X40 (pc' := 190) at_189 rfl ?_
        refine g_dastore C X40 (pc' := 191) e40 A40 (by decide) (by decide) 0 1 (by decide) (of_decide_eq_true rfl) at_190 rfl ?_
        intro T41 h41 X41 e41 W41 Aq
        have A30 := A30.other W41 ne_a30_a40
        have A35 := A35.other W41 ne_a35_a40
        have Z41 : n0 ≤ h41.size := by rw [W41.size]; exact Z40
        have N41 := Fr.snoc X41 N39 z_a40
        have A40 : Arv Z h41 a40 k40 .double (4 : Int32) [(.double (FP.i2d i17))] (.double (0 : UInt64)) := Aq
        refine g_dup C X41 (pc' := 192) at_191 rfl rfl ?_
        refine g_iconst C X41 (pc' := 193) at_192 (v := (1 : Int32)) (by decide) rfl ?_
        refine g_lload C X41 (pc' := 195) at_193 rfl rfl ?_
        refine g_bipush C X41 (pc' := 197) at_195 (v := (32 : Int32)) (by decide) rfl ?_
        refine g_lushr C X41 (pc' := 198) at_197 rfl ?_
        refine g_l2i C X41 (pc' := 199) at_198 rfl ?_
        obtain ⟨i18, e_i18⟩ : ∃ z : Int32, z = (XT.ushrL p3 (32 : Int32)).toInt32 := ⟨_, rfl⟩
        rw [← e_i18]
        clear e_i18
        have rg_i18 := rng32 i18
        refine g_i2d C X41 (pc' := 200) at_199 rfl ?_
        refine g_dastore C X41 (pc' := 201) e41 A40 (by decide) (by decide) 1 1 (by decide) (of_decide_eq_true rfl) at_200 rfl ?_
        intro T42 h42 X42 e42 W42 Aq
        have A30 := A30.other W42 ne_a30_a40
        have A35 := A35.other W42 ne_a35_a40
        have Z42 : n0 ≤ h42.size := by rw [W42.size]; exact Z41
        have N42 := Fr.snoc X42 N41 z_a40
        have A40 : Arv Z h42 a40 k40 .double (4 : Int32) [(.double (FP.i2d i17)), (.double (FP.i2d i18))] (.double (0 : UInt64)) := Aq
        refine g_dup C X42 (pc' := 202) at_201 rfl rfl ?_
        refine g_iconst C X42 (pc' := 203) at_202 (v := (2 : Int32)) (by decide) rfl ?_
        refine g_lload C X42 (pc' := 205) at_203 rfl rfl ?_
        refine g_l2i C X42 (pc' := 206) at_205 rfl ?_
        obtain ⟨i19, e_i19⟩ : ∃ z : Int32, z = p4.toInt32 := ⟨_, rfl⟩
        rw [← e_i19]
        clear e_i19
        have rg_i19 := rng32 i19
        refine g_i2d C X42 (pc' := 207) at_206 rfl ?_
        refine g_dastore C X42 (pc' := 208) e42 A40 (by decide) (by decide) 2 1 (by decide) (of_decide_eq_true rfl) at_207 rfl ?_
        intro T43 h43 X43 e43 W43 Aq
        have A30 := A30.other W43 ne_a30_a40
        have A35 := A35.other W43 ne_a35_a40
        have Z43 : n0 ≤ h43.size := by rw [W43.size]; exact Z42
        have N43 := Fr.snoc X43 N42 z_a40
        have A40 : Arv Z h43 a40 k40 .double (4 : Int32) [(.double (FP.i2d i17)), (.double (FP.i2d i18)), (.double (FP.i2d i19))] (.double (0 : UInt64)) := Aq
        refine g_dup C X43 (pc' := 209) at_208 rfl rfl ?_
        refine g_iconst C X43 (pc' := 210) at_209 (v := (3 : Int32)) (by decide) rfl ?_
        refine g_lload C X43 (pc' := 212) at_210 rfl rfl ?_
        refine g_bipush C X43 (pc' := 214) at_212 (v := (32 : Int32)) (by decide) rfl ?_
        refine g_lushr C X43 (pc' := 215) at_214 rfl ?_
        refine g_l2i C X43 (pc' := 216) at_215 rfl ?_
        obtain ⟨i20, e_i20⟩ : ∃ z : Int32, z = (XT.ushrL p4 (32 : Int32)).toInt32 := ⟨_, rfl⟩
        rw [← e_i20]
        clear e_i20
        have rg_i20 := rng32 i20
        refine g_i2d C X43 (pc' := 217) at_216 rfl ?_
        refine g_dastore C X43 (pc' := 218) e43 A40 (by decide) (by decide) 3 1 (by decide) (of_decide_eq_true rfl) at_217 rfl ?_
        intro T44 h44 X44 e44 W44 Aq
        have A30 := A30.other W44 ne_a30_a40
        have A35 := A35.other W44 ne_a35_a40
        have Z44 : n0 ≤ h44.size := by rw [W44.size]; exact Z43
        have N44 := Fr.snoc X44 N43 z_a40
        have A40 : Arv Z h44 a40 k40 .double (4 : Int32) [(.double (FP.i2d i17)), (.double (FP.i2d i18)), (.double (FP.i2d i19)), (.double (FP.i2d i20))] (.double (0 : UInt64)) := Aq
        refine g_astore C X44 (pc' := 220) at_218 rfl (l' := #[.val (.int p0), .val (.long p1), .second, .val (.long p2), .second, .val (.long p3), .second, .val (.long p4), .second, .val (.int (1 : Int32)), .val (.int i2), .val (.int i3), .val (.int zl), .val (.int i4), .val (.int zf), .val (.int tz2), .val (.int tz3), .val (.ref a30), .val (.ref a35), .val (.ref a40), .unset, .unset, .unset, .unset, .unset]) rfl rfl ?_
        refine g_iload C X44 (pc' := 222) at_220 rfl rfl ?_
        refine g_newP C X44 (aty := .int) (hw _ (List.mem_of_getElem? (i := 0) rfl)) e44 at_222 (by decide) 1 (by decide) (by decide) (by decide) (by decide) rfl ?_
        intro T45 h45 a45 k45 g45 X45 e45 E45 A45
        have ne_a30_a45 : a30 ≠ a45 := Nat.ne_of_lt (by rw [g45]; exact A30.lt)
        have ne_a35_a45 : a35 ≠ a45 := Nat.ne_of_lt (by rw [g45]; exact A35.lt)
        have ne_a40_a45 : a40 ≠ a45 := Nat.ne_of_lt (by rw [g45]; exact A40.lt)
        have z_a45 : n0 ≤ a45 := by rw [g45]; exact Z44
        have A30 := A30.ext E45
        have A35 := A35.ext E45
        have A40 := A40.ext E45
        have Z45 : n0 ≤ h45.size := Nat.le_trans Z44 E45.1
        have A45 : Arv Z h45 a45 k45 .int (1 : Int32) [] (.int (0 : Int32)) := A45
        refine g_astore C X45 (pc' := 226) at_224 rfl (l' := #[.val (.int p0), .val (.long p1), .second, .val (.long p2), .second, .val (.long p3), .second, .val (.long p4), .second, .val (.int (1 : Int32)), .val (.int i2), .val (.int i3), .val (.int zl), .val (.int i4), .val (.int zf), .val (.int tz2), .val (.int tz3), .val (.ref a30), .val (.ref a35), .val (.ref a40), .val (.ref a45), .unset, .unset, .unset, .unset]) rfl rfl ?_
        refine g_iload C X45 (pc' := 228) at_226 rfl rfl ?_
        refine g_newP C X45 (aty := .double) (hw _ (List.mem_of_getElem? (i := 1) rfl)) e45 at_228 (by decide) 1 (by decide) (by decide) (by decide) (by decide) rfl ?_
        intro T46 h46 a46 k46 g46 X46 e46 E46 A46
        have ne_a30_a46 : a30 ≠ a46 := Nat.ne_of_lt (by rw [g46]; exact A30.lt)
        have ne_a35_a46 : a35 ≠ a46 := Nat.ne_of_lt (by rw [g46]; exact A35.lt)
        have ne_a40_a46 : a40 ≠ a46 := Nat.ne_of_lt (by rw [g46]; exact A40.lt)
        have ne_a45_a46 : a45 ≠ a46 := Nat.ne_of_lt (by rw [g46]; exact A45.lt)
        have z_a46 : n0 ≤ a46 := by rw [g46]; exact Z45
        have A30 := A30.ext E46
        have A35 := A35.ext E46
        have A40 := A40.ext E46
        have A45 := A45.ext E46
        have Z46 : n0 ≤ h46.size := Nat.le_trans Z45 E46.1
        have A46 : Arv Z h46 a46 k46 .double (1 : Int32) [] (.double (0 : UInt64)) := A46
        refine g_astore C X46 (pc' := 232) at_230 rfl (l' := #[.val (.int p0), .val (.long p1), .second, .val (.long p2), .second, .val (.long p3), .second, .val (.long p4), .second, .val (.int (1 : Int32)), .val (.int i2), .val (.int i3), .val (.int zl), .val (.int i4), .val (.int zf), .val (.int tz2), .val (.int tz3), .val (.ref a30), .val (.ref a35), .val (.ref a40), .val (.ref a45), .val (.ref a46), .unset, .unset, .unset]) rfl rfl ?_
        refine g_iload C X46 (pc' := 234) at_232 rfl rfl ?_
        refine g_ifN C X46 at_234 (by decide) rfl ?_
        refine g_aload C X46 (pc' := 239) at_237 rfl rfl rfl ?_
        refine g_iconst C X46 (pc' := 240) at_239 (v := (0 : Int32)) (by decide) rfl ?_
        refine g_iload C X46 (pc' := 242) at_240 rfl rfl ?_
        refine g_iastore C X46 (pc' := 243) e46 A45 (by decide) (by decide) 0 1 (by decide) (of_decide_eq_true rfl) at_242 rfl ?_
        intro T47 h47 X47 e47 W47 Aq
        have A30 := A30.other W47 ne_a30_a45
        have A35 := A35.other W47 ne_a35_a45
        have A40 := A40.other W47 ne_a40_a45
        have A46 := A46.other W47 (Ne.symm ne_a45_a46)
        have Z47 : n0 ≤ h47.size := by rw [W47.size]; exact Z46
        have N47 := Fr.snoc X47 N44 z_a45
        have A45 : Arv Z h47 a45 k45 .int (1 : Int32) [(.int i2)] (.int (0 : Int32)) := Aq
        refine g_aload C X47 (pc' := 245) at_243 rfl rfl rfl ?_
        refine g_iconst C X47 (pc' := 246) at_245 (v := (0 : Int32)) (by decide) rfl ?_
        refine g_aload C X47 (pc' := 248) at_246 rfl rfl rfl ?_
        refine g_iconst C X47 (pc' := 249) at_248 (v := (0 : Int32)) (by decide) rfl ?_
        refine g_daload C X47 (pc' := 250) e47 A35 (by decide) (by decide) 0 (by decide) rfl at_249 rfl ?_
        refine g_dastore C X47 (pc' := 251) e47 A46 (by decide) (by decide) 0 1 (by decide) (of_decide_eq_true rfl) at_250 rfl ?_
        intro T48 h48 X48 e48 W48 Aq
        have A30 := A30.other W48 ne_a30_a46
        have A35 := A35.other W48 ne_a35_a46
        have A40 := A40.other W48 ne_a40_a46
        have A45 := A45.other W48 ne_a45_a46
        have Z48 : n0 ≤ h48.size := by rw [W48.size]; exact Z47
        have N48 := Fr.snoc X48 N47 z_a46
        have A46 : Arv Z h48 a46 k46 .double (1 : Int32) [(.double (FP.i2d i13))] (.double (0 : UInt64)) := Aq
        refine g_iload C X48 (pc' := 253) at_251 rfl rfl ?_
        refine g_iconst C X48 (pc' := 254) at_253 (v := (1 : Int32)) (by decide) rfl ?_
        refine g_icmpY C X48 at_254 (pc' := 271) (by decide) (by decide) (by decide) ?_
        refine g_iload C X48 (pc' := 273) at_271 rfl rfl ?_
        refine g_iconst C X48 (pc' := 274) at_273 (v := (2 : Int32)) (by decide) rfl ?_
        refine g_icmpY C X48 at_274 (pc' := 291) (by decide) (by decide) (by decide) ?_
        refine g_iload C X48 (pc' := 293) at_291 rfl rfl ?_
        refine g_iconst C X48 (pc' := 294) at_293 (v := (3 : Int32)) (by decide) rfl ?_
        refine g_icmpY C X48 at_294 (pc' := 311) (by decide) (by decide) (by decide) ?_
        refine g_iconst C X48 (pc' := 312) at_311 (v := (4 : Int32)) (by decide) rfl ?_
        refine g_newP C X48 (aty := .double) (hw _ (List.mem_of_getElem? (i := 1) rfl)) e48 at_312 (by decide) 4 (by decide) (by decide) (by decide) (by decide) rfl ?_
        intro T49 h49 a49 k49 g49 X49 e49 E49 A49
        have ne_a30_a49 : a30 ≠ a49 := Nat.ne_of_lt (by rw [g49]; exact A30.lt)
        have ne_a35_a49 : a35 ≠ a49 := Nat.ne_of_lt (by rw [g49]; exact A35.lt)
        have ne_a40_a49 : a40 ≠ a49 := Nat.ne_of_lt (by rw [g49]; exact A40.lt)
        have ne_a45_a49 : a45 ≠ a49 := Nat.ne_of_lt (by rw [g49]; exact A45.lt)
        have ne_a46_a49 : a46 ≠ a49 := Nat.ne_of_lt (by rw [g49]; exact A46.lt)
        have z_a49 : n0 ≤ a49 := by rw [g49]; exact Z48
        have A30 := A30.ext E49
        have A35 := A35.ext E49
        have A40 := A40.ext E49
        have A45 := A45.ext E49
        have A46 := A46.ext E49
        have Z49 : n0 ≤ h49.size := Nat.le_trans Z48 E49.1
        have A49 : Arv Z h49 a49 k49 .double (4 : Int32) [] (.double (0 : UInt64)) := A49
        refine g_dup C X49 (pc' := 315) at_314 rfl rfl ?_
        refine g_iconst C X49 (pc' := 316) at_315 (v := (0 : Int32)) (by decide) rfl ?_
        refine g_aload C X49 (pc' := 318) at_316 rfl rfl rfl ?_
        refine g_iconst C X49 (pc' := 319) at_318 (v := (0 : Int32)) (by decide) rfl ?_
        refine g_daload C X49 (pc' := 320) e49 A40 (by decide) (by decide) 0 (by decide) rfl at_319 rfl ?_
        refine g_dastore C X49 (pc' := 321) e49 A49 (by decide) (by decide) 0 1 (by decide) (of_decide_eq_true rfl) at_320 rfl ?_
        intro T50 h50 X50 e50 W50 Aq
        have A30 := A30.other W50 ne_a30_a49
        have A35 := A35.other W50 ne_a35_a49
        have A40 := A40.other W50 ne_a40_a49
        have A45 := A45.other W50 ne_a45_a49
        have A46 := A46.other W50 ne_a46_a49
        have Z50 : n0 ≤ h50.size := by rw [W50.size]; exact Z49
        have N50 := Fr.snoc X50 N48 z_a49
        have A49 : Arv Z h50 a49 k49 .double (4 : Int32) [(.double (FP.i2d i17))] (.double (0 : UInt64)) := Aq
        refine g_dup C X50 (pc' := 322) at_321 rfl rfl ?_
        refine g_iconst C X50 (pc' := 323) at_322 (v := (1 : Int32)) (by decide) rfl ?_
        refine g_aload C X50 (pc' := 325) at_323 rfl rfl rfl ?_
        refine g_iconst C X50 (pc' := 326) at_325 (v := (1 : Int32)) (by decide) rfl ?_
        refine g_daload C X50 (pc' := 327) e50 A40 (by decide) (by decide) 1 (by decide) rfl at_326 rfl ?_
        refine g_dastore C X50 (pc' := 328) e50 A49 (by decide) (by decide) 1 1 (by decide) (of_decide_eq_true rfl) at_327 rfl ?_
        intro T51 h51 X51 e51 W51 Aq
        have A30 := A30.other W51 ne_a30_a49
        have A35 := A35.other W51 ne_a35_a49
        have A40 := A40.other W51 ne_a40_a49
        have A45 := A45.other W51 ne_a45_a49
        have A46 := A46.other W51 ne_a46_a49
        have Z51 : n0 ≤ h51.size := by rw [W51.size]; exact Z50
        have N51 := Fr.snoc X51 N50 z_a49
        have A49 : Arv Z h51 a49 k49 .double (4 : Int32) [(.double (FP.i2d i17)), (.double (FP.i2d i18))] (.double (0 : UInt64)) := Aq
        refine g_dup C X51 (pc' := 329) at_328 rfl rfl ?_
        refine g_iconst C X51 (pc' := 330) at_329 (v := (2 : Int32)) (by decide) rfl ?_
        refine g_aload C X51 (pc' := 332) at_330 rfl rfl rfl ?_
        refine g_iconst C X51 (pc' := 333) at_332 (v := (2 : Int32)) (by decide) rfl ?_
        refine g_daload C X51 (pc' := 334) e51 A40 (by decide) (by decide) 2 (by decide) rfl at_333 rfl ?_
        refine g_dastore C X51 (pc' := 335) e51 A49 (by decide) (by decide) 2 1 (by decide) (of_decide_eq_true rfl) at_334 rfl ?_
        intro T52 h52 X52 e52 W52 Aq
        have A30 := A30.other W52 ne_a30_a49
        have A35 := A35.other W52 ne_a35_a49
        have A40 := A40.other W52 ne_a40_a49
        have A45 := A45.other W52 ne_a45_a49
        have A46 := A46.other W52 ne_a46_a49
        have Z52 : n0 ≤ h52.size := by rw [W52.size]; exact Z51
        have N52 := Fr.snoc X52 N51 z_a49
        have A49 : Arv Z h52 a49 k49 .double (4 : Int32) [(.double (FP.i2d i17)), (.double (FP.i2d i18)), (.double (FP.i2d i19))] (.double (0 : UInt64)) := Aq
        refine g_dup C X52 (pc' := 336) at_335 rfl rfl ?_
        refine g_iconst C X52 (pc' := 337) at_336 (v := (3 : Int32)) (by decide) rfl ?_
        refine g_aload C X52 (pc' := 339) at_337 rfl rfl rfl ?_
        refine g_iconst C X52 (pc' := 340) at_339 (v := (3 : Int32)) (by decide) rfl ?_
        refine g_daload C X52 (pc' := 341) e52 A40 (by decide) (by decide) 3 (by decide) rfl at_340 rfl ?_
        refine g_dastore C X52 (pc' := 342) e52 A49 (by decide) (by decide) 3 1 (by decide) (of_decide_eq_true rfl) at_341 rfl ?_
        intro T53 h53 X53 e53 W53 Aq
        have A30 := A30.other W53 ne_a30_a49
        have A35 := A35.other W53 ne_a35_a49
        have A40 := A40.other W53 ne_a40_a49
        have A45 := A45.other W53 ne_a45_a49
        have A46 := A46.other W53 ne_a46_a49
        have Z53 : n0 ≤ h53.size := by rw [W53.size]; exact Z52
        have N53 := Fr.snoc X53 N52 z_a49
        have A49 : Arv Z h53 a49 k49 .double (4 : Int32) [(.double (FP.i2d i17)), (.double (FP.i2d i18)), (.double (FP.i2d i19)), (.double (FP.i2d i20))] (.double (0 : UInt64)) := Aq
        refine g_astore C X53 (pc' := 344) at_342 rfl (l' := #[.val (.int p0), .val (.long p1), .second, .val (.long p2), .second, .val (.long p3), .second, .val (.long p4), .second, .val (.int (1 : Int32)), .val (.int i2), .val (.int i3), .val (.int zl), .val (.int i4), .val (.int zf), .val (.int tz2), .val (.int tz3), .val (.ref a30), .val (.ref a35), .val (.ref a40), .val (.ref a45), .val (.ref a46), .val (.ref a49), .unset, .unset]) rfl rfl ?_
        refine g_new C X53 (hw _ (List.mem_of_getElem? (i := 2) rfl)) (hw _ (List.mem_of_getElem? (i := 3) rfl)) (hw _ (List.mem_of_getElem? (i := 4) rfl)) e53 at_344 (by decide) (by decide) rfl ?_
        intro T54 h54 a54 g54 X54 e54 E54 A54 D54
        have ne_a30_a54 : a30 ≠ a54 := Nat.ne_of_lt (by rw [g54]; exact A30.lt)
        have ne_a35_a54 : a35 ≠ a54 := Nat.ne_of_lt (by rw [g54]; exact A35.lt)
        have ne_a40_a54 : a40 ≠ a54 := Nat.ne_of_lt (by rw [g54]; exact A40.lt)
        have ne_a45_a54 : a45 ≠ a54 := Nat.ne_of_lt (by rw [g54]; exact A45.lt)
        have ne_a46_a54 : a46 ≠ a54 := Nat.ne_of_lt (by rw [g54]; exact A46.lt)
        have ne_a49_a54 : a49 ≠ a54 := Nat.ne_of_lt (by rw [g54]; exact A49.lt)
        have z_a54 : n0 ≤ a54 := by rw [g54]; exact Z53
        have A30 := A30.ext E54
        have A35 := A35.ext E54
        have A40 := A40.ext E54
        have A45 := A45.ext E54
        have A46 := A46.ext E54
        have A49 := A49.ext E54
        have Z54 : n0 ≤ h54.size := Nat.le_trans Z53 E54.1
        refine g_dup C X54 (pc' := 348) at_347 rfl rfl ?_
        refine g_aload C X54 (pc' := 350) at_348 rfl rfl rfl ?_
        refine g_aload C X54 (pc' := 352) at_350 rfl rfl rfl ?_
        have F54_terms : ∃ w, Fld Z h54 a54 "com/example/kenning/kenning/retrieval/KMeans$Vector" "terms" "[I" w := ⟨_, D54 (Or.inr (hw _ (List.mem_of_getElem? (i := 17) rfl))) (ty := (.array .int)) (by decide)⟩
        have F54_weights : ∃ w, Fld Z h54 a54 "com/example/kenning/kenning/retrieval/KMeans$Vector" "weights" "[D" w := ⟨_, D54 (Or.inr (hw _ (List.mem_of_getElem? (i := 19) rfl))) (ty := (.array .double)) (by decide)⟩
        refine g_callI C X54 (c_init l Z a0 hw h54 n0 Z54 a54 z_a54 a45 a46 A54 F54_terms F54_weights) rfl (hw _ (List.mem_of_getElem? (i := 5) rfl)) (hw _ (List.mem_of_getElem? (i := 6) rfl)) (hw _ (List.mem_of_getElem? (i := 4) rfl)) (hw _ (List.mem_of_getElem? (i := 7) rfl)) (by decide) e54 at_352 rfl pdI a54 [(.ref a45), (.ref a46)] [(.ref a54)] rfl rfl rfl 1 rfl (by decide) (by decide) (by decide) (by decide) rfl ?_
        rintro _ T55 L55 X55 ⟨rfl, M55, K55, Aq, Ft55, Fw55⟩
        have A30 := A30.keep K55 (ninS ne_a30_a54 nin0)
        have A35 := A35.keep K55 (ninS ne_a35_a54 nin0)
        have A40 := A40.keep K55 (ninS ne_a40_a54 nin0)
        have A45 := A45.keep K55 (ninS ne_a45_a54 nin0)
        have A46 := A46.keep K55 (ninS ne_a46_a54 nin0)
        have A49 := A49.keep K55 (ninS ne_a49_a54 nin0)
        have A54 := A54.keep K55
        have Z55 : n0 ≤ T55.heap.size := Nat.le_trans Z54 K55.1
        have N55 := Fr.app N53 M55
        obtain ⟨h55, e55⟩ : ∃ z, T55.heap = z := ⟨_, rfl⟩
        rw [e55] at A30 A35 A40 A45 A46 A49 A54 Ft55 Fw55 Z55
        show Go p.tables e below _ T55 (mkF m 355 #[.val (.int p0), .val (.long p1), .second, .val (.long p2), .second, .val (.long p3), .second, .val (.long p4), .second, .val (.int (1 : Int32)), .val (.int i2), .val (.int i3), .val (.int zl), .val (.int i4), .val (.int zf), .val (.int tz2), .val (.int tz3), .val (.ref a30), .val (.ref a35), .val (.ref a40), .val (.ref a45), .val (.ref a46), .val (.ref a49), .unset, .unset] [(.ref a54)])
        refine g_aload C X55 (pc' := 357) at_355 rfl rfl rfl ?_
        refine g_callV C X55 (c_add1 l Z a0 hw h55 n0 Z55 a54 a49 a45 a46 z_a49 (Ne.symm ne_a49_a54) ne_a45_a49 ne_a46_a49 k45 k46 k49 i2 i3 tz2 tz3 i13.toInt i14.toInt i15.toInt i16.toInt hT (FP.i2d i13) (i2d_D i13) rg_i13 (FP.i2d i17) _ (i2d_D i17) rg_i17 (FP.i2d i18) _ (i2d_D i18) rg_i18 (FP.i2d i19) _ (i2d_D i19) rg_i19 (FP.i2d i20) _ (i2d_D i20) rg_i20 Ft55 Fw55 A45 A46 A49) (hw _ (List.mem_of_getElem? (i := 20) rfl)) (hw _ (List.mem_of_getElem? (i := 21) rfl)) (hw _ (List.mem_of_getElem? (i := 23) rfl)) (hw _ (List.mem_of_getElem? (i := 22) rfl)) (hw _ (List.mem_of_getElem? (i := 4) rfl)) (hw _ (List.mem_of_getElem? (i := 24) rfl)) (by decide) e55 A54 at_357 rfl pdD [(.ref a49)] [] rfl rfl rfl 0 rfl (by decide) (by decide) (by decide) (by decide) rfl ?_
        rintro _ T56 L56 X56 ⟨rfl, M56, K56, z0, z1, z2, z3', b0, b1, b2, b3, Dz0, Dz1, Dz2, Dz3, Pb0, Pb1, Pb2, Pb3, V56⟩
        have A30 := A30.keep K56 (ninS ne_a30_a49 nin0)
        have A35 := A35.keep K56 (ninS ne_a35_a49 nin0)
        have A40 := A40.keep K56 (ninS ne_a40_a49 nin0)
        have A45 := A45.keep K56 (ninS ne_a45_a49 nin0)
        have A46 := A46.keep K56 (ninS ne_a46_a49 nin0)
        have A54 := A54.keep K56
        have Ft55 := Ft55.keep K56 (ninS (Ne.symm ne_a49_a54) nin0)
        have Fw55 := Fw55.keep K56 (ninS (Ne.symm ne_a49_a54) nin0)
        have Z56 : n0 ≤ T56.heap.size := Nat.le_trans Z55 K56.1
        have N56 := Fr.app N55 M56
        obtain ⟨h56, e56⟩ : ∃ z, T56.heap = z := ⟨_, rfl⟩
        rw [e56] at A30 A35 A40 A45 A46 A54 Ft55 Fw55 V56 Z56
        show Go p.tables e below _ T56 (mkF m 360 #[.val (.int p0), .val (.long p1), .second, .val (.long p2), .second, .val (.long p3), .second, .val (.long p4), .second, .val (.int (1 : Int32)), .val (.int i2), .val (.int i3), .val (.int zl), .val (.int i4), .val (.int zf), .val (.int tz2), .val (.int tz3), .val (.ref a30), .val (.ref a35), .val (.ref a40), .val (.ref a45), .val (.ref a46), .val (.ref a49), .unset, .unset] [])
        refine g_aload C X56 (pc' := 362) at_360 rfl rfl rfl ?_
        refine g_len C X56 (pc' := 363) e56 V56 at_362 rfl ?_
        refine g_iconst C X56 (pc' := 364) at_363 (v := (4 : Int32)) (by decide) rfl ?_
        refine g_icmpN C X56 at_364 (by decide) rfl ?_
        refine g_aload C X56 (pc' := 369) at_367 rfl rfl rfl ?_
        refine g_iconst C X56 (pc' := 370) at_369 (v := (0 : Int32)) (by decide) rfl ?_
        refine g_daload C X56 (pc' := 371) e56 V56 (by decide) (by decide) 0 (by decide) rfl at_370 rfl ?_
        refine g_iconst C X56 (pc' := 372) at_371 (v := (0 : Int32)) (by decide) rfl ?_
        refine g_iload C X56 (pc' := 374) at_372 rfl rfl ?_
        refine g_aload C X56 (pc' := 376) at_374 rfl rfl rfl ?_
        refine g_aload C X56 (pc' := 378) at_376 rfl rfl rfl ?_
        refine g_aload C X56 (pc' := 380) at_378 rfl rfl rfl ?_
        refine g_callS C X56 (c_exp1 l Z a0 hw h56 a30 a35 a40 k30 k35 k40 i2 i3 tz2 tz3 i13.toInt i14.toInt i15.toInt i16.toInt hT (FP.i2d i13) (i2d_D i13) rg_i13 (FP.i2d i14) (i2d_D i14) rg_i14 (FP.i2d i15) (i2d_D i15) rg_i15 (FP.i2d i16) (i2d_D i16) rg_i16 (FP.i2d i17) (FP.i2d i18) (FP.i2d i19) (FP.i2d i20) (0 : Int32) (by decide) (FP.i2d i17) _ (i2d_D i17) rg_i17 rfl A30 A35 A40) (hw _ (List.mem_of_getElem? (i := 25) rfl)) (hw _ (List.mem_of_getElem? (i := 26) rfl)) (hw _ (List.mem_of_getElem? (i := 27) rfl)) (hw _ (List.mem_of_getElem? (i := 28) rfl)) (by decide) e56 at_380 rfl pdE [(.int (0 : Int32)), (.int (1 : Int32)), (.ref a30), (.ref a35), (.ref a40)] [(.double z0)] rfl rfl rfl 2 rfl (by decide) (by decide) (by decide) (by decide) rfl ?_
        rintro _ T57 _ X57 ⟨r57, A_57, rfl, D_r57, P_57, rfl, e57⟩
        rw [List.append_nil] at X57
        have ea : A_57 = b0 := own_uniq P_57 Pb0
        rw [ea] at D_r57
        show Go p.tables e below _ T57 (mkF m 383 #[.val (.int p0), .val (.long p1), .second, .val (.long p2), .second, .val (.long p3), .second, .val (.long p4), .second, .val (.int (1 : Int32)), .val (.int i2), .val (.int i3), .val (.int zl), .val (.int i4), .val (.int zf), .val (.int tz2), .val (.int tz3), .val (.ref a30), .val (.ref a35), .val (.ref a40), .val (.ref a45), .val (.ref a46), .val (.ref a49), .unset, .unset] [(.double r57), (.double z0)])
        refine g_dcmpV C X57 at_383 (v := (0 : Int32)) ((dcmp_cmpI Dz0 D_r57 _).trans (cmpI_self _)) rfl ?_
        refine g_ifN C X57 at_384 (by decide) rfl ?_
        refine g_aload C X57 (pc' := 389) at_387 rfl rfl rfl ?_
        refine g_iconst C X57 (pc' := 390) at_389 (v := (1 : Int32)) (by decide) rfl ?_
        refine g_daload C X57 (pc' := 391) e57 V56 (by decide) (by decide) 1 (by decide) rfl at_390 rfl ?_
        refine g_iconst C X57 (pc' := 392) at_391 (v := (1 : Int32)) (by decide) rfl ?_
        refine g_iload C X57 (pc' := 394) at_392 rfl rfl ?_
        refine g_aload C X57 (pc' := 396) at_394 rfl rfl rfl ?_
        refine g_aload C X57 (pc' := 398) at_396 rfl rfl rfl ?_
        refine g_aload C X57 (pc' := 400) at_398 rfl rfl rfl ?_
        refine g_callS C X57 (c_exp1 l Z a0 hw h56 a30 a35 a40 k30 k35 k40 i2 i3 tz2 tz3 i13.toInt i14.toInt i15.toInt i16.toInt hT (FP.i2d i13) (i2d_D i13) rg_i13 (FP.i2d i14) (i2d_D i14) rg_i14 (FP.i2d i15) (i2d_D i15) rg_i15 (FP.i2d i16) (i2d_D i16) rg_i16 (FP.i2d i17) (FP.i2d i18) (FP.i2d i19) (FP.i2d i20) (1 : Int32) (by decide) (FP.i2d i18) _ (i2d_D i18) rg_i18 rfl A30 A35 A40) (hw _ (List.mem_of_getElem? (i := 25) rfl)) (hw _ (List.mem_of_getElem? (i := 26) rfl)) (hw _ (List.mem_of_getElem? (i := 27) rfl)) (hw _ (List.mem_of_getElem? (i := 28) rfl)) (by decide) e57 at_400 rfl pdE [(.int (1 : Int32)), (.int (1 : Int32)), (.ref a30), (.ref a35), (.ref a40)] [(.double z1)] rfl rfl rfl 2 rfl (by decide) (by decide) (by decide) (by decide) rfl ?_
        rintro _ T58 _ X58 ⟨r58, A_58, rfl, D_r58, P_58, rfl, e58⟩
        rw [List.append_nil] at X58
        have ea : A_58 = b1 := own_uniq P_58 Pb1
        rw [ea] at D_r58
        show Go p.tables e below _ T58 (mkF m 403 #[.val (.int p0), .val (.long p1), .second, .val (.long p2), .second, .val (.long p3), .second, .val (.long p4), .second, .val (.int (1 : Int32)), .val (.int i2), .val (.int i3), .val (.int zl), .val (.int i4), .val (.int zf), .val (.int tz2), .val (.int tz3), .val (.ref a30), .val (.ref a35), .val (.ref a40), .val (.ref a45), .val (.ref a46), .val (.ref a49), .unset, .unset] [(.double r58), (.double z1)])
        refine g_dcmpV C X58 at_403 (v := (0 : Int32)) ((dcmp_cmpI Dz1 D_r58 _).trans (cmpI_self _)) rfl ?_
        refine g_ifN C X58 at_404 (by decide) rfl ?_
        refine g_aload C X58 (pc' := 409) at_407 rfl rfl rfl ?_
        refine g_iconst C X58 (pc' := 410) at_409 (v := (2 : Int32)) (by decide) rfl ?_
        refine g_daload C X58 (pc' := 411) e58 V56 (by decide) (by decide) 2 (by decide) rfl at_410 rfl ?_
        refine g_iconst C X58 (pc' := 412) at_411 (v := (2 : Int32)) (by decide) rfl ?_
        refine g_iload C X58 (pc' := 414) at_412 rfl rfl ?_
        refine g_aload C X58 (pc' := 416) at_414 rfl rfl rfl ?_
        refine g_aload C X58 (pc' := 418) at_416 rfl rfl rfl ?_
        refine g_aload C X58 (pc' := 420) at_418 rfl rfl rfl ?_
        refine g_callS C X58 (c_exp1 l Z a0 hw h56 a30 a35 a40 k30 k35 k40 i2 i3 tz2 tz3 i13.toInt i14.toInt i15.toInt i16.toInt hT (FP.i2d i13) (i2d_D i13) rg_i13 (FP.i2d i14) (i2d_D i14) rg_i14 (FP.i2d i15) (i2d_D i15) rg_i15 (FP.i2d i16) (i2d_D i16) rg_i16 (FP.i2d i17) (FP.i2d i18) (FP.i2d i19) (FP.i2d i20) (2 : Int32) (by decide) (FP.i2d i19) _ (i2d_D i19) rg_i19 rfl A30 A35 A40) (hw _ (List.mem_of_getElem? (i := 25) rfl)) (hw _ (List.mem_of_getElem? (i := 26) rfl)) (hw _ (List.mem_of_getElem? (i := 27) rfl)) (hw _ (List.mem_of_getElem? (i := 28) rfl)) (by decide) e58 at_420 rfl pdE [(.int (2 : Int32)), (.int (1 : Int32)), (.ref a30), (.ref a35), (.ref a40)] [(.double z2)] rfl rfl rfl 2 rfl (by decide) (by decide) (by decide) (by decide) rfl ?_
        rintro _ T59 _ X59 ⟨r59, A_59, rfl, D_r59, P_59, rfl, e59⟩
        rw [List.append_nil] at X59
        have ea : A_59 = b2 := own_uniq P_59 Pb2
        rw [ea] at D_r59
        show Go p.tables e below _ T59 (mkF m 423 #[.val (.int p0), .val (.long p1), .second, .val (.long p2), .second, .val (.long p3), .second, .val (.long p4), .second, .val (.int (1 : Int32)), .val (.int i2), .val (.int i3), .val (.int zl), .val (.int i4), .val (.int zf), .val (.int tz2), .val (.int tz3), .val (.ref a30), .val (.ref a35), .val (.ref a40), .val (.ref a45), .val (.ref a46), .val (.ref a49), .unset, .unset] [(.double r59), (.double z2)])
        refine g_dcmpV C X59 at_423 (v := (0 : Int32)) ((dcmp_cmpI Dz2 D_r59 _).trans (cmpI_self _)) rfl ?_
        refine g_ifN C X59 at_424 (by decide) rfl ?_
        refine g_aload C X59 (pc' := 429) at_427 rfl rfl rfl ?_
        refine g_iconst C X59 (pc' := 430) at_429 (v := (3 : Int32)) (by decide) rfl ?_
        refine g_daload C X59 (pc' := 431) e59 V56 (by decide) (by decide) 3 (by decide) rfl at_430 rfl ?_
        refine g_iconst C X59 (pc' := 432) at_431 (v := (3 : Int32)) (by decide) rfl ?_
        refine g_iload C X59 (pc' := 434) at_432 rfl rfl ?_
        refine g_aload C X59 (pc' := 436) at_434 rfl rfl rfl ?_
        refine g_aload C X59 (pc' := 438) at_436 rfl rfl rfl ?_
        refine g_aload C X59 (pc' := 440) at_438 rfl rfl rfl ?_
        refine g_callS C X59 (c_exp1 l Z a0 hw h56 a30 a35 a40 k30 k35 k40 i2 i3 tz2 tz3 i13.toInt i14.toInt i15.toInt i16.toInt hT (FP.i2d i13) (i2d_D i13) rg_i13 (FP.i2d i14) (i2d_D i14) rg_i14 (FP.i2d i15) (i2d_D i15) rg_i15 (FP.i2d i16) (i2d_D i16) rg_i16 (FP.i2d i17) (FP.i2d i18) (FP.i2d i19) (FP.i2d i20) (3 : Int32) (by decide) (FP.i2d i20) _ (i2d_D i20) rg_i20 rfl A30 A35 A40) (hw _ (List.mem_of_getElem? (i := 25) rfl)) (hw _ (List.mem_of_getElem? (i := 26) rfl)) (hw _ (List.mem_of_getElem? (i := 27) rfl)) (hw _ (List.mem_of_getElem? (i := 28) rfl)) (by decide) e59 at_440 rfl pdE [(.int (3 : Int32)), (.int (1 : Int32)), (.ref a30), (.ref a35), (.ref a40)] [(.double z3')] rfl rfl rfl 2 rfl (by decide) (by decide) (by decide) (by decide) rfl ?_
        rintro _ T60 _ X60 ⟨r60, A_60, rfl, D_r60, P_60, rfl, e60⟩
        rw [List.append_nil] at X60
        have ea : A_60 = b3 := own_uniq P_60 Pb3
        rw [ea] at D_r60
        show Go p.tables e below _ T60 (mkF m 443 #[.val (.int p0), .val (.long p1), .second, .val (.long p2), .second, .val (.long p3), .second, .val (.long p4), .second, .val (.int (1 : Int32)), .val (.int i2), .val (.int i3), .val (.int zl), .val (.int i4), .val (.int zf), .val (.int tz2), .val (.int tz3), .val (.ref a30), .val (.ref a35), .val (.ref a40), .val (.ref a45), .val (.ref a46), .val (.ref a49), .unset, .unset] [(.double r60), (.double z3')])
        refine g_dcmpV C X60 at_443 (v := (0 : Int32)) ((dcmp_cmpI Dz3 D_r60 _).trans (cmpI_self _)) rfl ?_
        refine g_ifN C X60 at_444 (by decide) rfl ?_
        refine g_iconst C X60 (pc' := 448) at_447 (v := (1 : Int32)) (by decide) rfl ?_
        refine g_goto C X60 at_448 (pc' := 452) (by decide) (by decide) ?_
        refine g_istore C X60 (pc' := 454) at_452 (x := (1 : Int32)) rfl (l' := #[.val (.int p0), .val (.long p1), .second, .val (.long p2), .second, .val (.long p3), .second, .val (.long p4), .second, .val (.int (1 : Int32)), .val (.int i2), .val (.int i3), .val (.int zl), .val (.int i4), .val (.int zf), .val (.int tz2), .val (.int tz3), .val (.ref a30), .val (.ref a35), .val (.ref a40), .val (.ref a45), .val (.ref a46), .val (.ref a49), .val (.int (1 : Int32)), .unset]) rfl rfl ?_
        refine g_aload C X60 (pc' := 456) at_454 rfl rfl rfl ?_
        refine g_len C X60 (pc' := 457) e60 A45 at_456 rfl ?_
        refine g_iload C X60 (pc' := 459) at_457 rfl rfl ?_
        refine g_icmpN C X60 at_459 (by decide) rfl ?_
        refine g_aload C X60 (pc' := 464) at_462 rfl rfl rfl ?_
        refine g_len C X60 (pc' := 465) e60 A46 at_464 rfl ?_
        refine g_iload C X60 (pc' := 467) at_465 rfl rfl ?_
        refine g_icmpN C X60 at_467 (by decide) rfl ?_
        refine g_iload C X60 (pc' := 472) at_470 rfl rfl ?_
        refine g_iconst C X60 (pc' := 473) at_472 (v := (1 : Int32)) (by decide) rfl ?_
        refine g_icmpN C X60 at_473 (by decide) rfl ?_
        refine g_aload C X60 (pc' := 478) at_476 rfl rfl rfl ?_
        refine g_iconst C X60 (pc' := 479) at_478 (v := (0 : Int32)) (by decide) rfl ?_
        refine g_iaload C X60 (pc' := 480) e60 A45 (by decide) (by decide) 0 (by decide) rfl at_479 rfl ?_
        refine g_iload C X60 (pc' := 482) at_480 rfl rfl ?_
        refine g_icmp C X60 at_482 (pc' := 582) (pc'' := 485) (by decide) (by decide) rfl (fun c482 => ?_) (fun c482 => ?_)
        · have c482 : ¬ (i2.toInt = i2.toInt) := c482
          refine g_iconst C X60 (pc' := 583) at_582 (v := (0 : Int32)) (by decide) rfl ?_
          refine g_istore C X60 (pc' := 585) at_583 (x := (0 : Int32)) rfl (l' := #[.val (.int p0), .val (.long p1), .second, .val (.long p2), .second, .val (.long p3), .second, .val (.long p4), .second, .val (.int (1 : Int32)), .val (.int i2), .val (.int i3), .val (.int zl), .val (.int i4), .val (.int zf), .val (.int tz2), .val (.int tz3), .val (.ref a30), .val (.ref a35), .val (.ref a40), .val (.ref a45), .val (.ref a46), .val (.ref a49), .val (.int (1 : Int32)), .val (.int (0 : Int32))]) rfl rfl ?_
          refine g_iload C X60 (pc' := 587) at_585 rfl rfl ?_
          refine g_ifN C X60 at_587 (by decide) rfl ?_
          refine g_iload C X60 (pc' := 592) at_590 rfl rfl ?_
          refine g_ifY C X60 at_592 (pc' := 599) (by decide) (by decide) (by decide) ?_
          refine g_iconst C X60 (pc' := 600) at_599 (v := (0 : Int32)) (by decide) rfl ?_
          exfalso; omega
        · have c482 : i2.toInt = i2.toInt := Decidable.not_not.mp c482
          refine g_aload C X60 (pc' := 487) at_485 rfl rfl rfl ?_
          refine g_iconst C X60 (pc' := 488) at_487 (v := (0 : Int32)) (by decide) rfl ?_
          refine g_daload C X60 (pc' := 489) e60 A46 (by decide) (by decide) 0 (by decide) rfl at_488 rfl ?_
          refine g_aload C X60 (pc' := 491) at_489 rfl rfl rfl ?_
          refine g_iconst C X60 (pc' := 492) at_491 (v := (0 : Int32)) (by decide) rfl ?_
          refine g_daload C X60 (pc' := 493) e60 A35 (by decide) (by decide) 0 (by decide) rfl at_492 rfl ?_
          refine g_dcmpV C X60 at_493 (v := (0 : Int32)) ((dcmp_cmpI (i2d_D i13) (i2d_D i13) _).trans (cmpI_self _)) rfl ?_
          refine g_ifN C X60 at_494 (by decide) rfl ?_
          refine g_iload C X60 (pc' := 499) at_497 rfl rfl ?_
          refine g_iconst C X60 (pc' := 500) at_499 (v := (2 : Int32)) (by decide) rfl ?_
          refine g_icmpY C X60 at_500 (pc' := 524) (by decide) (by decide) (by decide) ?_
          refine g_iload C X60 (pc' := 526) at_524 rfl rfl ?_
          refine g_iconst C X60 (pc' := 527) at_526 (v := (3 : Int32)) (by decide) rfl ?_
          refine g_icmpY C X60 at_527 (pc' := 551) (by decide) (by decide) (by decide) ?_
          refine g_iload C X60 (pc' := 553) at_551 rfl rfl ?_
          refine g_iconst C X60 (pc' := 554) at_553 (v := (4 : Int32)) (by decide) rfl ?_
          refine g_icmpY C X60 at_554 (pc' := 578) (by decide) (by decide) (by decide) ?_
          refine g_iconst C X60 (pc' := 579) at_578 (v := (1 : Int32)) (by decide) rfl ?_
          refine g_goto C X60 at_579 (pc' := 583) (by decide) (by decide) ?_
          refine g_istore C X60 (pc' := 585) at_583 (x := (1 : Int32)) rfl (l' := #[.val (.int p0), .val (.long p1), .second, .val (.long p2), .second, .val (.long p3), .second, .val (.long p4), .second, .val (.int (1 : Int32)), .val (.int i2), .val (.int i3), .val (.int zl), .val (.int i4), .val (.int zf), .val (.int tz2), .val (.int tz3), .val (.ref a30), .val (.ref a35), .val (.ref a40), .val (.ref a45), .val (.ref a46), .val (.ref a49), .val (.int (1 : Int32)), .val (.int (1 : Int32))]) rfl rfl ?_
          refine g_iload C X60 (pc' := 587) at_585 rfl rfl ?_
          refine g_ifN C X60 at_587 (by decide) rfl ?_
          refine g_iload C X60 (pc' := 592) at_590 rfl rfl ?_
          refine g_ifN C X60 at_592 (by decide) rfl ?_
          refine g_iconst C X60 (pc' := 596) at_595 (v := (1 : Int32)) (by decide) rfl ?_
          refine g_goto C X60 at_596 (pc' := 600) (by decide) (by decide) ?_
          exact g_zreturn C X60 at_600 (w := 1) (by decide) ⟨rfl, N56⟩ (by decide) (by decide)
      · show Go p.tables e below _ T0 (mkF m 121 #[.val (.int p0), .val (.long p1), .second, .val (.long p2), .second, .val (.long p3), .second, .val (.long p4), .second, .val (.int (2 : Int32)), .val (.int i2), .val (.int i3), .val (.int zl), .val (.int i4), .val (.int zf), .val (.int tz2), .val (.int tz3), .unset, .unset, .unset, .unset, .unset, .unset, .unset, .unset] [])
        refine g_iconst C X0 (pc' := 122) at_121 (v := (4 : Int32)) (by decide) rfl ?_
        refine g_newP C X0 (aty := .int) (hw _ (List.mem_of_getElem? (i := 0) rfl)) e0 at_122 (by decide) 4 (by decide) (by decide) (by decide) (by decide) rfl ?_
        intro T61 h61 a61 k61 g61 X61 e61 E61 A61
        have z_a61 : n0 ≤ a61 := by rw [g61]; exact Z0
        have Z61 : n0 ≤ h61.size := Nat.le_trans Z0 E61.1
        have A61 : Arv Z h61 a61 k61 .int (4 : Int32) [] (.int (0 : Int32)) := A61
        refine g_dup C X61 (pc' := 125) at_124 rfl rfl ?_
        refine g_iconst C X61 (pc' := 126) at_125 (v := (0 : Int32)) (by decide) rfl ?_
        refine g_iload C X61 (pc' := 128) at_126 rfl rfl ?_
        refine g_iastore C X61 (pc' := 129) e61 A61 (by decide) (by decide) 0 1 (by decide) (of_decide_eq_true rfl) at_128 rfl ?_
        intro T62 h62 X62 e62 W62 Aq
        have Z62 : n0 ≤ h62.size := by rw [W62.size]; exact Z61
        have N62 := Fr.snoc X62 (Fr.nil n0) z_a61
        have A61 : Arv Z h62 a61 k61 .int (4 : Int32) [(.int i2)] (.int (0 : Int32)) := Aq
        refine g_dup C X62 (pc' := 130) at_129 rfl rfl ?_
        refine g_iconst C X62 (pc' := 131) at_130 (v := (1 : Int32)) (by decide) rfl ?_
        refine g_iload C X62 (pc' := 133) at_131 rfl rfl ?_
        refine g_iastore C X62 (pc' := 134) e62 A61 (by decide) (by decide) 1 1 (by decide) (of_decide_eq_true rfl) at_133 rfl ?_
        intro T63 h63 X63 e63 W63 Aq
        have Z63 : n0 ≤ h63.size := by rw [W63.size]; exact Z62
        have N63 := Fr.snoc X63 N62 z_a61
        have A61 : Arv Z h63 a61 k61 .int (4 : Int32) [(.int i2), (.int i3)] (.int (0 : Int32)) := Aq
        refine g_dup C X63 (pc' := 135) at_134 rfl rfl ?_
        refine g_iconst C X63 (pc' := 136) at_135 (v := (2 : Int32)) (by decide) rfl ?_
        refine g_iload C X63 (pc' := 138) at_136 rfl rfl ?_
        refine g_iastore C X63 (pc' := 139) e63 A61 (by decide) (by decide) 2 1 (by decide) (of_decide_eq_true rfl) at_138 rfl ?_
        intro T64 h64 X64 e64 W64 Aq
        have Z64 : n0 ≤ h64.size := by rw [W64.size]; exact Z63
        have N64 := Fr.snoc X64 N63 z_a61
        have A61 : Arv Z h64 a61 k61 .int (4 : Int32) [(.int i2), (.int i3), (.int tz2)] (.int (0 : Int32)) := Aq
        refine g_dup C X64 (pc' := 140) at_139 rfl rfl ?_
        refine g_iconst C X64 (pc' := 141) at_140 (v := (3 : Int32)) (by decide) rfl ?_
        refine g_iload C X64 (pc' := 143) at_141 rfl rfl ?_
        refine g_iastore C X64 (pc' := 144) e64 A61 (by decide) (by decide) 3 1 (by decide) (of_decide_eq_true rfl) at_143 rfl ?_
        intro T65 h65 X65 e65 W65 Aq
        have Z65 : n0 ≤ h65.size := by rw [W65.size]; exact Z64
        have N65 := Fr.snoc X65 N64 z_a61
        have A61 : Arv Z h65 a61 k61 .int (4 : Int32) [(.int i2), (.int i3), (.int tz2), (.int tz3)] (.int (0 : Int32)) := Aq
        refine g_astore C X65 (pc' := 146) at_144 rfl (l' := #[.val (.int p0), .val (.long p1), .second, .val (.long p2), .second, .val (.long p3), .second, .val (.long p4), .second, .val (.int (2 : Int32)), .val (.int i2), .val (.int i3), .val (.int zl), .val (.int i4), .val (.int zf), .val (.int tz2), .val (.int tz3), .val (.ref a61), .unset, .unset, .unset, .unset, .unset, .unset, .unset]) rfl rfl ?_
        refine g_iconst C X65 (pc' := 147) at_146 (v := (4 : Int32)) (by decide) rfl ?_
        refine g_newP C X65 (aty := .double) (hw _ (List.mem_of_getElem? (i := 1) rfl)) e65 at_147 (by decide) 4 (by decide) (by decide) (by decide) (by decide) rfl ?_
        intro T66 h66 a66 k66 g66 X66 e66 E66 A66
        have ne_a61_a66 : a61 ≠ a66 := Nat.ne_of_lt (by rw [g66]; exact A61.lt)
        have z_a66 : n0 ≤ a66 := by rw [g66]; exact Z65
        have A61 := A61.ext E66
        have Z66 : n0 ≤ h66.size := Nat.le_trans Z65 E66.1
        have A66 : Arv Z h66 a66 k66 .double (4 : Int32) [] (.double (0 : UInt64)) := A66
        refine g_dup C X66 (pc' := 150) at_149 rfl rfl ?_
        refine g_iconst C X66 (pc' := 151) at_150 (v := (0 : Int32)) (by decide) rfl ?_
        refine g_lloadN C X66 (pc' := 152) at_151 rfl rfl ?_
        refine g_l2i C X66 (pc' := 153) at_152 rfl ?_
        obtain ⟨i21, e_i21⟩ : ∃ z : Int32, z = p1.toInt32 := ⟨_, rfl⟩
        rw [← e_i21]
        clear e_i21
        have rg_i21 := rng32 i21
        refine g_i2d C X66 (pc' := 154) at_153 rfl ?_
        refine g_dastore C X66 (pc' := 155) e66 A66 (by decide) (by decide) 0 1 (by decide) (of_decide_eq_true rfl) at_154 rfl ?_
        intro T67 h67 X67 e67 W67 Aq
        have A61 := A61.other W67 ne_a61_a66
        have Z67 : n0 ≤ h67.size := by rw [W67.size]; exact Z66
        have N67 := Fr.snoc X67 N65 z_a66
        have A66 : Arv Z h67 a66 k66 .double (4 : Int32) [(.double (FP.i2d i21))] (.double (0 : UInt64)) := Aq
        refine g_dup C X67 (pc' := 156) at_155 rfl rfl ?_
        refine g_iconst C X67 (pc' := 157) at_156 (v := (1 : Int32)) (by decide) rfl ?_
        refine g_lloadN C X67 (pc' := 158) at_157 rfl rfl ?_
        refine g_bipush C X67 (pc' := 160) at_158 (v := (32 : Int32)) (by decide) rfl ?_
        refine g_lushr C X67 (pc' := 161) at_160 rfl ?_
        refine g_l2i C X67 (pc' := 162) at_161 rfl ?_
        obtain ⟨i22, e_i22⟩ : ∃ z : Int32, z = (XT.ushrL p1 (32 : Int32)).toInt32 := ⟨_, rfl⟩
        rw [← e_i22]
        clear e_i22
        have rg_i22 := rng32 i22
        refine g_i2d C X67 (pc' := 163) at_162 rfl ?_
        refine g_dastore C X67 (pc' := 164) e67 A66 (by decide) (by decide) 1 1 (by decide) (of_decide_eq_true rfl) at_163 rfl ?_
        intro T68 h68 X68 e68 W68 Aq
        have A61 := A61.other W68 ne_a61_a66
        have Z68 : n0 ≤ h68.size := by rw [W68.size]; exact Z67
        have N68 := Fr.snoc X68 N67 z_a66
        have A66 : Arv Z h68 a66 k66 .double (4 : Int32) [(.double (FP.i2d i21)), (.double (FP.i2d i22))] (.double (0 : UInt64)) := Aq
        refine g_dup C X68 (pc' := 165) at_164 rfl rfl ?_
        refine g_iconst C X68 (pc' := 166) at_165 (v := (2 : Int32)) (by decide) rfl ?_
        refine g_lloadN C X68 (pc' := 167) at_166 rfl rfl ?_
        refine g_l2i C X68 (pc' := 168) at_167 rfl ?_
        obtain ⟨i23, e_i23⟩ : ∃ z : Int32, z = p2.toInt32 := ⟨_, rfl⟩
        rw [← e_i23]
        clear e_i23
        have rg_i23 := rng32 i23
        refine g_i2d C X68 (pc' := 169) at_168 rfl ?_
        refine g_dastore C X68 (pc' := 170) e68 A66 (by decide) (by decide) 2 1 (by decide) (of_decide_eq_true rfl) at_169 rfl ?_
        intro T69 h69 X69 e69 W69 Aq
        have A61 := A61.other W69 ne_a61_a66
        have Z69 : n0 ≤ h69.size := by rw [W69.size]; exact Z68
        have N69 := Fr.snoc X69 N68 z_a66
        have A66 : Arv Z h69 a66 k66 .double (4 : Int32) [(.double (FP.i2d i21)), (.double (FP.i2d i22)), (.double (FP.i2d i23))] (.double (0 : UInt64)) := Aq
        refine g_dup C X69 (pc' := 171) at_170 rfl rfl ?_
        refine g_iconst C X69 (pc' := 172) at_171 (v := (3 : Int32)) (by decide) rfl ?_
        refine g_lloadN C X69 (pc' := 173) at_172 rfl rfl ?_
        refine g_bipush C X69 (pc' := 175) at_173 (v := (32 : Int32)) (by decide) rfl ?_
        refine g_lushr C X69 (pc' := 176) at_175 rfl ?_
        refine g_l2i C X69 (pc' := 177) at_176 rfl ?_
        obtain ⟨i24, e_i24⟩ : ∃ z : Int32, z = (XT.ushrL p2 (32 : Int32)).toInt32 := ⟨_, rfl⟩
        rw [← e_i24]
        clear e_i24
        have rg_i24 := rng32 i24
        refine g_i2d C X69 (pc' := 178) at_177 rfl ?_
        refine g_dastore C X69 (pc' := 179) e69 A66 (by decide) (by decide) 3 1 (by decide) (of_decide_eq_true rfl) at_178 rfl ?_
        intro T70 h70 X70 e70 W70 Aq
        have A61 := A61.other W70 ne_a61_a66
        have Z70 : n0 ≤ h70.size := by rw [W70.size]; exact Z69
        have N70 := Fr.snoc X70 N69 z_a66
        have A66 : Arv Z h70 a66 k66 .double (4 : Int32) [(.double (FP.i2d i21)), (.double (FP.i2d i22)), (.double (FP.i2d i23)), (.double (FP.i2d i24))] (.double (0 : UInt64)) := Aq
        refine g_astore C X70 (pc' := 181) at_179 rfl (l' := #[.val (.int p0), .val (.long p1), .second, .val (.long p2), .second, .val (.long p3), .second, .val (.long p4), .second, .val (.int (2 : Int32)), .val (.int i2), .val (.int i3), .val (.int zl), .val (.int i4), .val (.int zf), .val (.int tz2), .val (.int tz3), .val (.ref a61), .val (.ref a66), .unset, .unset, .unset, .unset, .unset, .unset]) rfl rfl ?_
        refine g_iconst C X70 (pc' := 182) at_181 (v := (4 : Int32)) (by decide) rfl ?_
        refine g_newP C X70 (aty := .double) (hw _ (List.mem_of_getElem? (i := 1) rfl)) e70 at_182 (by decide) 4 (by decide) (by decide) (by decide) (by decide) rfl ?_
        intro T71 h71 a71 k71 g71 X71 e71 E71 A71
        have ne_a61_a71 : a61 ≠ a71 := Nat.ne_of_lt (by rw [g71]; exact A61.lt)
        have ne_a66_a71 : a66 ≠ a71 := Nat.ne_of_lt (by rw [g71]; exact A66.lt)
        have z_a71 : n0 ≤ a71 := by rw [g71]; exact Z70
        have A61 := A61.ext E71
        have A66 := A66.ext E71
        have Z71 : n0 ≤ h71.size := Nat.le_trans Z70 E71.1
        have A71 : Arv Z h71 a71 k71 .double (4 : Int32) [] (.double (0 : UInt64)) := A71
        refine g_dup C X71 (pc' := 185) at_184 rfl rfl ?_
        refine g_iconst C X71 (pc' := 186) at_185 (v := (0 : Int32)) (by decide) rfl ?_
        refine g_lload C X71 (pc' := 188) at_186 rfl rfl ?_
        refine g_l2i C X71 (pc' := 189) at_188 rfl ?_
        obtain ⟨i25, e_i25⟩ : ∃ z : Int32, z = p3.toInt32 := ⟨_, rfl⟩
        rw [← e_i25]
        clear e_i25
        have rg_i25 := rng32 i25
        refine g_i2d C X71 (pc' := 190) at_189 rfl ?_
        refine g_dastore C X71 (pc' := 191) e71 A71 (by decide) (by decide) 0 1 (by decide) (of_decide_eq_true rfl) at_190 rfl ?_
        intro T72 h72 X72 e72 W72 Aq
        have A61 := A61.other W72 ne_a61_a71
        have A66 := A66.other W72 ne_a66_a71
        have Z72 : n0 ≤ h72.size := by rw [W72.size]; exact Z71
        have N72 := Fr.snoc X72 N70 z_a71
        have A71 : Arv Z h72 a71 k71 .double (4 : Int32) [(.double (FP.i2d i25))] (.double (0 : UInt64)) := Aq
        refine g_dup C X72 (pc' := 192) at_191 rfl rfl ?_
        refine g_iconst C X72 (pc' := 193) at_192 (v := (1 : Int32)) (by decide) rfl ?_
        refine g_lload C X72 (pc' := 195) at_193 rfl rfl ?_
        refine g_bipush C X72 (pc' := 197) at_195 (v := (32 : Int32)) (by decide) rfl ?_
        refine g_lushr C X72 (pc' := 198) at_197 rfl ?_
        refine g_l2i C X72 (pc' := 199) at_198 rfl ?_
        obtain ⟨i26, e_i26⟩ : ∃ z : Int32, z = (XT.ushrL p3 (32 : Int32)).toInt32 := ⟨_, rfl⟩
        rw [← e_i26]
        clear e_i26
        have rg_i26 := rng32 i26
        refine g_i2d C X72 (pc' := 200) at_199 rfl ?_
        refine g_dastore C X72 (pc' := 201) e72 A71 (by decide) (by decide) 1 1 (by decide) (of_decide_eq_true rfl) at_200 rfl ?_
        intro T73 h73 X73 e73 W73 Aq
        have A61 := A61.other W73 ne_a61_a71
        have A66 := A66.other W73 ne_a66_a71
        have Z73 : n0 ≤ h73.size := by rw [W73.size]; exact Z72
        have N73 := Fr.snoc X73 N72 z_a71
        have A71 : Arv Z h73 a71 k71 .double (4 : Int32) [(.double (FP.i2d i25)), (.double (FP.i2d i26))] (.double (0 : UInt64)) := Aq
        refine g_dup C X73 (pc' := 202) at_201 rfl rfl ?_
        refine g_iconst C X73 (pc' := 203) at_202 (v := (2 : Int32)) (by decide) rfl ?_
        refine g_lload C X73 (pc' := 205) at_203 rfl rfl ?_
        refine g_l2i C X73 (pc' := 206) at_205 rfl ?_
        obtain ⟨i27, e_i27⟩ : ∃ z : Int32, z = p4.toInt32 := ⟨_, rfl⟩
        rw [← e_i27]
        clear e_i27
        have rg_i27 := rng32 i27
        refine g_i2d C X73 (pc' := 207) at_206 rfl ?_
        refine g_dastore C X73 (pc' := 208) e73 A71 (by decide) (by decide) 2 1 (by decide) (of_decide_eq_true rfl) at_207 rfl ?_
        intro T74 h74 X74 e74 W74 Aq
        have A61 := A61.other W74 ne_a61_a71
        have A66 := A66.other W74 ne_a66_a71
        have Z74 : n0 ≤ h74.size := by rw [W74.size]; exact Z73
        have N74 := Fr.snoc X74 N73 z_a71
        have A71 : Arv Z h74 a71 k71 .double (4 : Int32) [(.double (FP.i2d i25)), (.double (FP.i2d i26)), (.double (FP.i2d i27))] (.double (0 : UInt64)) := Aq
        refine g_dup C X74 (pc' := 209) at_208 rfl rfl ?_
        refine g_iconst C X74 (pc' := 210) at_209 (v := (3 : Int32)) (by decide) rfl ?_
        refine g_lload C X74 (pc' := 212) at_210 rfl rfl ?_
        refine g_bipush C X74 (pc' := 214) at_212 (v := (32 : Int32)) (by decide) rfl ?_
        refine g_lushr C X74 (pc' := 215) at_214 rfl ?_
        refine g_l2i C X74 (pc' := 216) at_215 rfl ?_
        obtain ⟨i28, e_i28⟩ : ∃ z : Int32, z = (XT.ushrL p4 (32 : Int32)).toInt32 := ⟨_, rfl⟩
        rw [← e_i28]
        clear e_i28
        have rg_i28 := rng32 i28
        refine g_i2d C X74 (pc' := 217) at_216 rfl ?_
        refine g_dastore C X74 (pc' := 218) e74 A71 (by decide) (by decide) 3 1 (by decide) (of_decide_eq_true rfl) at_217 rfl ?_
        intro T75 h75 X75 e75 W75 Aq
        have A61 := A61.other W75 ne_a61_a71
        have A66 := A66.other W75 ne_a66_a71
        have Z75 : n0 ≤ h75.size := by rw [W75.size]; exact Z74
        have N75 := Fr.snoc X75 N74 z_a71
        have A71 : Arv Z h75 a71 k71 .double (4 : Int32) [(.double (FP.i2d i25)), (.double (FP.i2d i26)), (.double (FP.i2d i27)), (.double (FP.i2d i28))] (.double (0 : UInt64)) := Aq
        refine g_astore C X75 (pc' := 220) at_218 rfl (l' := #[.val (.int p0), .val (.long p1), .second, .val (.long p2), .second, .val (.long p3), .second, .val (.long p4), .second, .val (.int (2 : Int32)), .val (.int i2), .val (.int i3), .val (.int zl), .val (.int i4), .val (.int zf), .val (.int tz2), .val (.int tz3), .val (.ref a61), .val (.ref a66), .val (.ref a71), .unset, .unset, .unset, .unset, .unset]) rfl rfl ?_
        refine g_iload C X75 (pc' := 222) at_220 rfl rfl ?_
        refine g_newP C X75 (aty := .int) (hw _ (List.mem_of_getElem? (i := 0) rfl)) e75 at_222 (by decide) 2 (by decide) (by decide) (by decide) (by decide) rfl ?_
        intro T76 h76 a76 k76 g76 X76 e76 E76 A76
        have ne_a61_a76 : a61 ≠ a76 := Nat.ne_of_lt (by rw [g76]; exact A61.lt)
        have ne_a66_a76 : a66 ≠ a76 := Nat.ne_of_lt (by rw [g76]; exact A66.lt)
        have ne_a71_a76 : a71 ≠ a76 := Nat.ne_of_lt (by rw [g76]; exact A71.lt)
        have z_a76 : n0 ≤ a76 := by rw [g76]; exact Z75
        have A61 := A61.ext E76
        have A66 := A66.ext E76
        have A71 := A71.ext E76
        have Z76 : n0 ≤ h76.size := Nat.le_trans Z75 E76.1
        have A76 : Arv Z h76 a76 k76 .int (2 : Int32) [] (.int (0 : Int32)) := A76
        refine g_astore C X76 (pc' := 226) at_224 rfl (l' := #[.val (.int p0), .val (.long p1), .second, .val (.long p2), .second, .val (.long p3), .second, .val (.long p4), .second, .val (.int (2 : Int32)), .val (.int i2), .val (.int i3), .val (.int zl), .val (.int i4), .val (.int zf), .val (.int tz2), .val (.int tz3), .val (.ref a61), .val (.ref a66), .val (.ref a71), .val (.ref a76), .unset, .unset, .unset, .unset]) rfl rfl ?_
        refine g_iload C X76 (pc' := 228) at_226 rfl rfl ?_
        refine g_newP C X76 (aty := .double) (hw _ (List.mem_of_getElem? (i := 1) rfl)) e76 at_228 (by decide) 2 (by decide) (by decide) (by decide) (by decide) rfl ?_
        intro T77 h77 a77 k77 g77 X77 e77 E77 A77
        have ne_a61_a77 : a61 ≠ a77 := Nat.ne_of_lt (by rw [g77]; exact A61.lt)
        have ne_a66_a77 : a66 ≠ a77 := Nat.ne_of_lt (by rw [g77]; exact A66.lt)
        have ne_a71_a77 : a71 ≠ a77 := Nat.ne_of_lt (by rw [g77]; exact A71.lt)
        have ne_a76_a77 : a76 ≠ a77 := Nat.ne_of_lt (by rw [g77]; exact A76.lt)
        have z_a77 : n0 ≤ a77 := by rw [g77]; exact Z76
        have A61 := A61.ext E77
        have A66 := A66.ext E77
        have A71 := A71.ext E77
        have A76 := A76.ext E77
        have Z77 : n0 ≤ h77.size := Nat.le_trans Z76 E77.1
        have A77 : Arv Z h77 a77 k77 .double (2 : Int32) [] (.double (0 : UInt64)) := A77
        refine g_astore C X77 (pc' := 232) at_230 rfl (l' := #[.val (.int p0), .val (.long p1), .second, .val (.long p2), .second, .val (.long p3), .second, .val (.long p4), .second, .val (.int (2 : Int32)), .val (.int i2), .val (.int i3), .val (.int zl), .val (.int i4), .val (.int zf), .val (.int tz2), .val (.int tz3), .val (.ref a61), .val (.ref a66), .val (.ref a71), .val (.ref a76), .val (.ref a77), .unset, .unset, .unset]) rfl rfl ?_
        refine g_iload C X77 (pc' := 234) at_232 rfl rfl ?_
        refine g_ifN C X77 at_234 (by decide) rfl ?_
        refine g_aload C X77 (pc' := 239) at_237 rfl rfl rfl ?_
        refine g_iconst C X77 (pc' := 240) at_239 (v := (0 : Int32)) (by decide) rfl ?_
        refine g_iload C X77 (pc' := 242) at_240 rfl rfl ?_
        refine g_iastore C X77 (pc' := 243) e77 A76 (by decide) (by decide) 0 1 (by decide) (of_decide_eq_true rfl) at_242 rfl ?_
        intro T78 h78 X78 e78 W78 Aq
        have A61 := A61.other W78 ne_a61_a76
        have A66 := A66.other W78 ne_a66_a76
        have A71 := A71.other W78 ne_a71_a76
        have A77 := A77.other W78 (Ne.symm ne_a76_a77)
        have Z78 : n0 ≤ h78.size := by rw [W78.size]; exact Z77
        have N78 := Fr.snoc X78 N75 z_a76
        have A76 : Arv Z h78 a76 k76 .int (2 : Int32) [(.int i2)] (.int (0 : Int32)) := Aq
        refine g_aload C X78 (pc' := 245) at_243 rfl rfl rfl ?_
        refine g_iconst C X78 (pc' := 246) at_245 (v := (0 : Int32)) (by decide) rfl ?_
        refine g_aload C X78 (pc' := 248) at_246 rfl rfl rfl ?_
        refine g_iconst C X78 (pc' := 249) at_248 (v := (0 : Int32)) (by decide) rfl ?_
        refine g_daload C X78 (pc' := 250) e78 A66 (by decide) (by decide) 0 (by decide) rfl at_249 rfl ?_
        refine g_dastore C X78 (pc' := 251) e78 A77 (by decide) (by decide) 0 1 (by decide) (of_decide_eq_true rfl) at_250 rfl ?_
        intro T79 h79 X79 e79 W79 Aq
        have A61 := A61.other W79 ne_a61_a77
        have A66 := A66.other W79 ne_a66_a77
        have A71 := A71.other W79 ne_a71_a77
        have A76 := A76.other W79 ne_a76_a77
        have Z79 : n0 ≤ h79.size := by rw [W79.size]; exact Z78
        have N79 := Fr.snoc X79 N78 z_a77
        have A77 : Arv Z h79 a77 k77 .double (2 : Int32) [(.double (FP.i2d i21))] (.double (0 : UInt64)) := Aq
        refine g_iload C X79 (pc' := 253) at_251 rfl rfl ?_
        refine g_iconst C X79 (pc' := 254) at_253 (v := (1 : Int32)) (by decide) rfl ?_
        refine g_icmpN C X79 at_254 (by decide) rfl ?_
        refine g_aload C X79 (pc' := 259) at_257 rfl rfl rfl ?_
        refine g_iconst C X79 (pc' := 260) at_259 (v := (1 : Int32)) (by decide) rfl ?_
        refine g_iload C X79 (pc' := 262) at_260 rfl rfl ?_
        refine g_iastore C X79 (pc' := 263) e79 A76 (by decide) (by decide) 1 1 (by decide) (of_decide_eq_true rfl) at_262 rfl ?_
        intro T80 h80 X80 e80 W80 Aq
        have A61 := A61.other W80 ne_a61_a76
        have A66 := A66.other W80 ne_a66_a76
        have A71 := A71.other W80 ne_a71_a76
        have A77 := A77.other W80 (Ne.symm ne_a76_a77)
        have Z80 : n0 ≤ h80.size := by rw [W80.size]; exact Z79
        have N80 := Fr.snoc X80 N79 z_a76
        have A76 : Arv Z h80 a76 k76 .int (2 : Int32) [(.int i2), (.int i3)] (.int (0 : Int32)) := Aq
        refine g_aload C X80 (pc' := 265) at_263 rfl rfl rfl ?_
        refine g_iconst C X80 (pc' := 266) at_265 (v := (1 : Int32)) (by decide) rfl ?_
        refine g_aload C X80 (pc' := 268) at_266 rfl rfl rfl ?_
        refine g_iconst C X80 (pc' := 269) at_268 (v := (1 : Int32)) (by decide) rfl ?_
        refine g_daload C X80 (pc' := 270) e80 A66 (by decide) (by decide) 1 (by decide) rfl at_269 rfl ?_
        refine g_dastore C X80 (pc' := 271) e80 A77 (by decide) (by decide) 1 1 (by decide) (of_decide_eq_true rfl) at_270 rfl ?_
        intro T81 h81 X81 e81 W81 Aq
        have A61 := A61.other W81 ne_a61_a77
        have A66 := A66.other W81 ne_a66_a77
        have A71 := A71.other W81 ne_a71_a77
        have A76 := A76.other W81 ne_a76_a77
        have Z81 : n0 ≤ h81.size := by rw [W81.size]; exact Z80
        have N81 := Fr.snoc X81 N80 z_a77
        have A77 : Arv Z h81 a77 k77 .double (2 : Int32) [(.double (FP.i2d i21)), (.double (FP.i2d i22))] (.double (0 : UInt64)) := Aq
        refine g_iload C X81 (pc' := 273) at_271 rfl rfl ?_
        refine g_iconst C X81 (pc' := 274) at_273 (v := (2 : Int32)) (by decide) rfl ?_
        refine g_icmpY C X81 at_274 (pc' := 291) (by decide) (by decide) (by decide) ?_
        refine g_iload C X81 (pc' := 293) at_291 rfl rfl ?_
        refine g_iconst C X81 (pc' := 294) at_293 (v := (3 : Int32)) (by decide) rfl ?_
        refine g_icmpY C X81 at_294 (pc' := 311) (by decide) (by decide) (by decide) ?_
        refine g_iconst C X81 (pc' := 312) at_311 (v := (4 : Int32)) (by decide) rfl ?_
        refine g_newP C X81 (aty := .double) (hw _ (List.mem_of_getElem? (i := 1) rfl)) e81 at_312 (by decide) 4 (by decide) (by decide) (by decide) (by decide) rfl ?_
        intro T82 h82 a82 k82 g82 X82 e82 E82 A82
        have ne_a61_a82 : a61 ≠ a82 := Nat.ne_of_lt (by rw [g82]; exact A61.lt)
        have ne_a66_a82 : a66 ≠ a82 := Nat.ne_of_lt (by rw [g82]; exact A66.lt)
        have ne_a71_a82 : a71 ≠ a82 := Nat.ne_of_lt (by rw [g82]; exact A71.lt)
        have ne_a76_a82 : a76 ≠ a82 := Nat.ne_of_lt (by rw [g82]; exact A76.lt)
        have ne_a77_a82 : a77 ≠ a82 := Nat.ne_of_lt (by rw [g82]; exact A77.lt)
        have z_a82 : n0 ≤ a82 := by rw [g82]; exact Z81
        have A61 := A61.ext E82
        have A66 := A66.ext E82
        have A71 := A71.ext E82
        have A76 := A76.ext E82
        have A77 := A77.ext E82
        have Z82 : n0 ≤ h82.size := Nat.le_trans Z81 E82.1
        have A82 : Arv Z h82 a82 k82 .double (4 : Int32) [] (.double (0 : UInt64)) := A82
        refine g_dup C X82 (pc' := 315) at_314 rfl rfl ?_
        refine g_iconst C X82 (pc' := 316) at_315 (v := (0 : Int32)) (by decide) rfl ?_
        refine g_aload C X82 (pc' := 318) at_316 rfl rfl rfl ?_
        refine g_iconst C X82 (pc' := 319) at_318 (v := (0 : Int32)) (by decide) rfl ?_
        refine g_daload C X82 (pc' := 320) e82 A71 (by decide) (by decide) 0 (by decide) rfl at_319 rfl ?_
        refine g_dastore C X82 (pc' := 321) e82 A82 (by decide) (by decide) 0 1 (by decide) (of_decide_eq_true rfl) at_320 rfl ?_
        intro T83 h83 X83 e83 W83 Aq
        have A61 := A61.other W83 ne_a61_a82
        have A66 := A66.other W83 ne_a66_a82
        have A71 := A71.other W83 ne_a71_a82
        have A76 := A76.other W83 ne_a76_a82
        have A77 := A77.other W83 ne_a77_a82
        have Z83 : n0 ≤ h83.size := by rw [W83.size]; exact Z82
        have N83 := Fr.snoc X83 N81 z_a82
        have A82 : Arv Z h83 a82 k82 .double (4 : Int32) [(.double (FP.i2d i25))] (.double (0 : UInt64)) := Aq
        refine g_dup C X83 (pc' := 322) at_321 rfl rfl ?_
        refine g_iconst C X83 (pc' := 323) at_322 (v := (1 : Int32)) (by decide) rfl ?_
        refine g_aload C X83 (pc' := 325) at_323 rfl rfl rfl ?_
        refine g_iconst C X83 (pc' := 326) at_325 (v := (1 : Int32)) (by decide) rfl ?_
        refine g_daload C X83 (pc' := 327) e83 A71 (by decide) (by decide) 1 (by decide) rfl at_326 rfl ?_
        refine g_dastore C X83 (pc' := 328) e83 A82 (by decide) (by decide) 1 1 (by decide) (of_decide_eq_true rfl) at_327 rfl ?_
        intro T84 h84 X84 e84 W84 Aq
        have A61 := A61.other W84 ne_a61_a82
        have A66 := A66.other W84 ne_a66_a82
        have A71 := A71.other W84 ne_a71_a82
        have A76 := A76.other W84 ne_a76_a82
        have A77 := A77.other W84 ne_a77_a82
        have Z84 : n0 ≤ h84.size := by rw [W84.size]; exact Z83
        have N84 := Fr.snoc X84 N83 z_a82
        have A82 : Arv Z h84 a82 k82 .double (4 : Int32) [(.double (FP.i2d i25)), (.double (FP.i2d i26))] (.double (0 : UInt64)) := Aq
        refine g_dup C X84 (pc' := 329) at_328 rfl rfl ?_
        refine g_iconst C X84 (pc' := 330) at_329 (v := (2 : Int32)) (by decide) rfl ?_
        refine g_aload C X84 (pc' := 332) at_330 rfl rfl rfl ?_
        refine g_iconst C X84 (pc' := 333) at_332 (v := (2 : Int32)) (by decide) rfl ?_
        refine g_daload C X84 (pc' := 334) e84 A71 (by decide) (by decide) 2 (by decide) rfl at_333 rfl ?_
        refine g_dastore C X84 (pc' := 335) e84 A82 (by decide) (by decide) 2 1 (by decide) (of_decide_eq_true rfl) at_334 rfl ?_
        intro T85 h85 X85 e85 W85 Aq
        have A61 := A61.other W85 ne_a61_a82
        have A66 := A66.other W85 ne_a66_a82
        have A71 := A71.other W85 ne_a71_a82
        have A76 := A76.other W85 ne_a76_a82
        have A77 := A77.other W85 ne_a77_a82
        have Z85 : n0 ≤ h85.size := by rw [W85.size]; exact Z84
        have N85 := Fr.snoc X85 N84 z_a82
        have A82 : Arv Z h85 a82 k82 .double (4 : Int32) [(.double (FP.i2d i25)), (.double (FP.i2d i26)), (.double (FP.i2d i27))] (.double (0 : UInt64)) := Aq
        refine g_dup C X85 (pc' := 336) at_335 rfl rfl ?_
        refine g_iconst C X85 (pc' := 337) at_336 (v := (3 : Int32)) (by decide) rfl ?_
        refine g_aload C X85 (pc' := 339) at_337 rfl rfl rfl ?_
        refine g_iconst C X85 (pc' := 340) at_339 (v := (3 : Int32)) (by decide) rfl ?_
        refine g_daload C X85 (pc' := 341) e85 A71 (by decide) (by decide) 3 (by decide) rfl at_340 rfl ?_
        refine g_dastore C X85 (pc' := 342) e85 A82 (by decide) (by decide) 3 1 (by decide) (of_decide_eq_true rfl) at_341 rfl ?_
        intro T86 h86 X86 e86 W86 Aq
        have A61 := A61.other W86 ne_a61_a82
        have A66 := A66.other W86 ne_a66_a82
        have A71 := A71.other W86 ne_a71_a82
        have A76 := A76.other W86 ne_a76_a82
        have A77 := A77.other W86 ne_a77_a82
        have Z86 : n0 ≤ h86.size := by rw [W86.size]; exact Z85
        have N86 := Fr.snoc X86 N85 z_a82
        have A82 : Arv Z h86 a82 k82 .double (4 : Int32) [(.double (FP.i2d i25)), (.double (FP.i2d i26)), (.double (FP.i2d i27)), (.double (FP.i2d i28))] (.double (0 : UInt64)) := Aq
        refine g_astore C X86 (pc' := 344) at_342 rfl (l' := #[.val (.int p0), .val (.long p1), .second, .val (.long p2), .second, .val (.long p3), .second, .val (.long p4), .second, .val (.int (2 : Int32)), .val (.int i2), .val (.int i3), .val (.int zl), .val (.int i4), .val (.int zf), .val (.int tz2), .val (.int tz3), .val (.ref a61), .val (.ref a66), .val (.ref a71), .val (.ref a76), .val (.ref a77), .val (.ref a82), .unset, .unset]) rfl rfl ?_
        refine g_new C X86 (hw _ (List.mem_of_getElem? (i := 2) rfl)) (hw _ (List.mem_of_getElem? (i := 3) rfl)) (hw _ (List.mem_of_getElem? (i := 4) rfl)) e86 at_344 (by decide) (by decide) rfl ?_
        intro T87 h87 a87 g87 X87 e87 E87 A87 D87
        have ne_a61_a87 : a61 ≠ a87 := Nat.ne_of_lt (by rw [g87]; exact A61.lt)
        have ne_a66_a87 : a66 ≠ a87 := Nat.ne_of_lt (by rw [g87]; exact A66.lt)
        have ne_a71_a87 : a71 ≠ a87 := Nat.ne_of_lt (by rw [g87]; exact A71.lt)
        have ne_a76_a87 : a76 ≠ a87 := Nat.ne_of_lt (by rw [g87]; exact A76.lt)
        have ne_a77_a87 : a77 ≠ a87 := Nat.ne_of_lt (by rw [g87]; exact A77.lt)
        have ne_a82_a87 : a82 ≠ a87 := Nat.ne_of_lt (by rw [g87]; exact A82.lt)
        have z_a87 : n0 ≤ a87 := by rw [g87]; exact Z86
        have A61 := A61.ext E87
        have A66 := A66.ext E87
        have A71 := A71.ext E87
        have A76 := A76.ext E87
        have A77 := A77.ext E87
        have A82 := A82.ext E87
        have Z87 : n0 ≤ h87.size := Nat.le_trans Z86 E87.1
        refine g_dup C X87 (pc' := 348) at_347 rfl rfl ?_
        refine g_aload C X87 (pc' := 350) at_348 rfl rfl rfl ?_
        refine g_aload C X87 (pc' := 352) at_350 rfl rfl rfl ?_
        have F87_terms : ∃ w, Fld Z h87 a87 "com/example/kenning/kenning/retrieval/KMeans$Vector" "terms" "[I" w := ⟨_, D87 (Or.inr (hw _ (List.mem_of_getElem? (i := 17) rfl))) (ty := (.array .int)) (by decide)⟩
        have F87_weights : ∃ w, Fld Z h87 a87 "com/example/kenning/kenning/retrieval/KMeans$Vector" "weights" "[D" w := ⟨_, D87 (Or.inr (hw _ (List.mem_of_getElem? (i := 19) rfl))) (ty := (.array .double)) (by decide)⟩
        refine g_callI C X87 (c_init l Z a0 hw h87 n0 Z87 a87 z_a87 a76 a77 A87 F87_terms F87_weights) rfl (hw _ (List.mem_of_getElem? (i := 5) rfl)) (hw _ (List.mem_of_getElem? (i := 6) rfl)) (hw _ (List.mem_of_getElem? (i := 4) rfl)) (hw _ (List.mem_of_getElem? (i := 7) rfl)) (by decide) e87 at_352 rfl pdI a87 [(.ref a76), (.ref a77)] [(.ref a87)] rfl rfl rfl 1 rfl (by decide) (by decide) (by decide) (by decide) rfl ?_
        rintro _ T88 L88 X88 ⟨rfl, M88, K88, Aq, Ft88, Fw88⟩
        have A61 := A61.keep K88 (ninS ne_a61_a87 nin0)
        have A66 := A66.keep K88 (ninS ne_a66_a87 nin0)
        have A71 := A71.keep K88 (ninS ne_a71_a87 nin0)
        have A76 := A76.keep K88 (ninS ne_a76_a87 nin0)
        have A77 := A77.keep K88 (ninS ne_a77_a87 nin0)
        have A82 := A82.keep K88 (ninS ne_a82_a87 nin0)
        have A87 := A87.keep K88
        have Z88 : n0 ≤ T88.heap.size := Nat.le_trans Z87 K88.1
        have N88 := Fr.app N86 M88
        obtain ⟨h88, e88⟩ : ∃ z, T88.heap = z := ⟨_, rfl⟩
        rw [e88] at A61 A66 A71 A76 A77 A82 A87 Ft88 Fw88 Z88
        show Go p.tables e below _ T88 (mkF m 355 #[.val (.int p0), .val (.long p1), .second, .val (.long p2), .second, .val (.long p3), .second, .val (.long p4), .second, .val (.int (2 : Int32)), .val (.int i2), .val (.int i3), .val (.int zl), .val (.int i4), .val (.int zf), .val (.int tz2), .val (.int tz3), .val (.ref a61), .val (.ref a66), .val (.ref a71), .val (.ref a76), .val (.ref a77), .val (.ref a82), .unset, .unset] [(.ref a87)])
        refine g_aload C X88 (pc' := 357) at_355 rfl rfl rfl ?_
        refine g_callV C X88 (c_add2 l Z a0 hw h88 n0 Z88 a87 a82 a76 a77 z_a82 (Ne.symm ne_a82_a87) ne_a76_a82 ne_a77_a82 k76 k77 k82 i2 i3 tz2 tz3 i21.toInt i22.toInt i23.toInt i24.toInt hT (FP.i2d i21) (i2d_D i21) rg_i21 (FP.i2d i22) (i2d_D i22) rg_i22 (FP.i2d i25) _ (i2d_D i25) rg_i25 (FP.i2d i26) _ (i2d_D i26) rg_i26 (FP.i2d i27) _ (i2d_D i27) rg_i27 (FP.i2d i28) _ (i2d_D i28) rg_i28 Ft88 Fw88 A76 A77 A82) (hw _ (List.mem_of_getElem? (i := 20) rfl)) (hw _ (List.mem_of_getElem? (i := 21) rfl)) (hw _ (List.mem_of_getElem? (i := 23) rfl)) (hw _ (List.mem_of_getElem? (i := 22) rfl)) (hw _ (List.mem_of_getElem? (i := 4) rfl)) (hw _ (List.mem_of_getElem? (i := 24) rfl)) (by decide) e88 A87 at_357 rfl pdD [(.ref a82)] [] rfl rfl rfl 0 rfl (by decide) (by decide) (by decide) (by decide) rfl ?_
        rintro _ T89 L89 X89 ⟨rfl, M89, K89, z0, z1, z2, z3', b0, b1, b2, b3, Dz0, Dz1, Dz2, Dz3, Pb0, Pb1, Pb2, Pb3, V89⟩
        have A61 := A61.keep K89 (ninS ne_a61_a82 nin0)
        have A66 := A66.keep K89 (ninS ne_a66_a82 nin0)
        have A71 := A71.keep K89 (ninS ne_a71_a82 nin0)
        have A76 := A76.keep K89 (ninS ne_a76_a82 nin0)
        have A77 := A77.keep K89 (ninS ne_a77_a82 nin0)
        have A87 := A87.keep K89
        have Ft88 := Ft88.keep K89 (ninS (Ne.symm ne_a82_a87) nin0)
        have Fw88 := Fw88.keep K89 (ninS (Ne.symm ne_a82_a87) nin0)
        have Z89 : n0 ≤ T89.heap.size := Nat.le_trans Z88 K89.1
        have N89 := Fr.app N88 M89
        obtain ⟨h89, e89⟩ : ∃ z, T89.heap = z := ⟨_, rfl⟩
        rw [e89] at A61 A66 A71 A76 A77 A87 Ft88 Fw88 V89 Z89
        show Go p.tables e below _ T89 (mkF m 360 #[.val (.int p0), .val (.long p1), .second, .val (.long p2), .second, .val (.long p3), .second, .val (.long p4), .second, .val (.int (2 : Int32)), .val (.int i2), .val (.int i3), .val (.int zl), .val (.int i4), .val (.int zf), .val (.int tz2), .val (.int tz3), .val (.ref a61), .val (.ref a66), .val (.ref a71), .val (.ref a76), .val (.ref a77), .val (.ref a82), .unset, .unset] [])
        refine g_aload C X89 (pc' := 362) at_360 rfl rfl rfl ?_
        refine g_len C X89 (pc' := 363) e89 V89 at_362 rfl ?_
        refine g_iconst C X89 (pc' := 364) at_363 (v := (4 : Int32)) (by decide) rfl ?_
        refine g_icmpN C X89 at_364 (by decide) rfl ?_
        refine g_aload C X89 (pc' := 369) at_367 rfl rfl rfl ?_
        refine g_iconst C X89 (pc' := 370) at_369 (v := (0 : Int32)) (by decide) rfl ?_
        refine g_daload C X89 (pc' := 371) e89 V89 (by decide) (by decide) 0 (by decide) rfl at_370 rfl ?_
        refine g_iconst C X89 (pc' := 372) at_371 (v := (0 : Int32)) (by decide) rfl ?_
        refine g_iload C X89 (pc' := 374) at_372 rfl rfl ?_
        refine g_aload C X89 (pc' := 376) at_374 rfl rfl rfl ?_
        refine g_aload C X89 (pc' := 378) at_376 rfl rfl rfl ?_
        refine g_aload C X89 (pc' := 380) at_378 rfl rfl rfl ?_
        refine g_callS C X89 (c_exp2 l Z a0 hw h89 a61 a66 a71 k61 k66 k71 i2 i3 tz2 tz3 i21.toInt i22.toInt i23.toInt i24.toInt hT (FP.i2d i21) (i2d_D i21) rg_i21 (FP.i2d i22) (i2d_D i22) rg_i22 (FP.i2d i23) (i2d_D i23) rg_i23 (FP.i2d i24) (i2d_D i24) rg_i24 (FP.i2d i25) (FP.i2d i26) (FP.i2d i27) (FP.i2d i28) (0 : Int32) (by decide) (FP.i2d i25) _ (i2d_D i25) rg_i25 rfl A61 A66 A71) (hw _ (List.mem_of_getElem? (i := 25) rfl)) (hw _ (List.mem_of_getElem? (i := 26) rfl)) (hw _ (List.mem_of_getElem? (i := 27) rfl)) (hw _ (List.mem_of_getElem? (i := 28) rfl)) (by decide) e89 at_380 rfl pdE [(.int (0 : Int32)), (.int (2 : Int32)), (.ref a61), (.ref a66), (.ref a71)] [(.double z0)] rfl rfl rfl 2 rfl (by decide) (by decide) (by decide) (by decide) rfl ?_
        rintro _ T90 _ X90 ⟨r90, A_90, rfl, D_r90, P_90, rfl, e90⟩
        rw [List.append_nil] at X90
        have ea : A_90 = b0 := own_uniq P_90 Pb0
        rw [ea] at D_r90
        show Go p.tables e below _ T90 (mkF m 383 #[.val (.int p0), .val (.long p1), .second, .val (.long p2), .second, .val (.long p3), .second, .val (.long p4), .second, .val (.int (2 : Int32)), .val (.int i2), .val (.int i3), .val (.int zl), .val (.int i4), .val (.int zf), .val (.int tz2), .val (.int tz3), .val (.ref a61), .val (.ref a66), .val (.ref a71), .val (.ref a76), .val (.ref a77), .val (.ref a82), .unset, .unset] [(.double r90), (.double z0)])
        refine g_dcmpV C X90 at_383 (v := (0 : Int32)) ((dcmp_cmpI Dz0 D_r90 _).trans (cmpI_self _)) rfl ?_
        refine g_ifN C X90 at_384 (by decide) rfl ?_
        refine g_aload C X90 (pc' := 389) at_387 rfl rfl rfl ?_
        refine g_iconst C X90 (pc' := 390) at_389 (v := (1 : Int32)) (by decide) rfl ?_
        refine g_daload C X90 (pc' := 391) e90 V89 (by decide) (by decide) 1 (by decide) rfl at_390 rfl ?_
        refine g_iconst C X90 (pc' := 392) at_391 (v := (1 : Int32)) (by decide) rfl ?_
        refine g_iload C X90 (pc' := 394) at_392 rfl rfl ?_
        refine g_aload C X90 (pc' := 396) at_394 rfl rfl rfl ?_
        refine g_aload C X90 (pc' := 398) at_396 rfl rfl rfl ?_
        refine g_aload C X90 (pc' := 400) at_398 rfl rfl rfl ?_
        refine g_callS C X90 (c_exp2 l Z a0 hw h89 a61 a66 a71 k61 k66 k71 i2 i3 tz2 tz3 i21.toInt i22.toInt i23.toInt i24.toInt hT (FP.i2d i21) (i2d_D i21) rg_i21 (FP.i2d i22) (i2d_D i22) rg_i22 (FP.i2d i23) (i2d_D i23) rg_i23 (FP.i2d i24) (i2d_D i24) rg_i24 (FP.i2d i25) (FP.i2d i26) (FP.i2d i27) (FP.i2d i28) (1 : Int32) (by decide) (FP.i2d i26) _ (i2d_D i26) rg_i26 rfl A61 A66 A71) (hw _ (List.mem_of_getElem? (i := 25) rfl)) (hw _ (List.mem_of_getElem? (i := 26) rfl)) (hw _ (List.mem_of_getElem? (i := 27) rfl)) (hw _ (List.mem_of_getElem? (i := 28) rfl)) (by decide) e90 at_400 rfl pdE [(.int (1 : Int32)), (.int (2 : Int32)), (.ref a61), (.ref a66), (.ref a71)] [(.double z1)] rfl rfl rfl 2 rfl (by decide) (by decide) (by decide) (by decide) rfl ?_
        rintro _ T91 _ X91 ⟨r91, A_91, rfl, D_r91, P_91, rfl, e91⟩
        rw [List.append_nil] at X91
        have ea : A_91 = b1 := own_uniq P_91 Pb1
        rw [ea] at D_r91
        show Go p.tables e below _ T91 (mkF m 403 #[.val (.int p0), .val (.long p1), .second, .val (.long p2), .second, .val (.long p3), .second, .val (.long p4), .second, .val (.int (2 : Int32)), .val (.int i2), .val (.int i3), .val (.int zl), .val (.int i4), .val (.int zf), .val (.int tz2), .val (.int tz3), .val (.ref a61), .val (.ref a66), .val (.ref a71), .val (.ref a76), .val (.ref a77), .val (.ref a82), .unset, .unset] [(.double r91), (.double z1)])
        refine g_dcmpV C X91 at_403 (v := (0 : Int32)) ((dcmp_cmpI Dz1 D_r91 _).trans (cmpI_self _)) rfl ?_
        refine g_ifN C X91 at_404 (by decide) rfl ?_
        refine g_aload C X91 (pc' := 409) at_407 rfl rfl rfl ?_
        refine g_iconst C X91 (pc' := 410) at_409 (v := (2 : Int32)) (by decide) rfl ?_
        refine g_daload C X91 (pc' := 411) e91 V89 (by decide) (by decide) 2 (by decide) rfl at_410 rfl ?_
        refine g_iconst C X91 (pc' := 412) at_411 (v := (2 : Int32)) (by decide) rfl ?_
        refine g_iload C X91 (pc' := 414) at_412 rfl rfl ?_
        refine g_aload C X91 (pc' := 416) at_414 rfl rfl rfl ?_
        refine g_aload C X91 (pc' := 418) at_416 rfl rfl rfl ?_
        refine g_aload C X91 (pc' := 420) at_418 rfl rfl rfl ?_
        refine g_callS C X91 (c_exp2 l Z a0 hw h89 a61 a66 a71 k61 k66 k71 i2 i3 tz2 tz3 i21.toInt i22.toInt i23.toInt i24.toInt hT (FP.i2d i21) (i2d_D i21) rg_i21 (FP.i2d i22) (i2d_D i22) rg_i22 (FP.i2d i23) (i2d_D i23) rg_i23 (FP.i2d i24) (i2d_D i24) rg_i24 (FP.i2d i25) (FP.i2d i26) (FP.i2d i27) (FP.i2d i28) (2 : Int32) (by decide) (FP.i2d i27) _ (i2d_D i27) rg_i27 rfl A61 A66 A71) (hw _ (List.mem_of_getElem? (i := 25) rfl)) (hw _ (List.mem_of_getElem? (i := 26) rfl)) (hw _ (List.mem_of_getElem? (i := 27) rfl)) (hw _ (List.mem_of_getElem? (i := 28) rfl)) (by decide) e91 at_420 rfl pdE [(.int (2 : Int32)), (.int (2 : Int32)), (.ref a61), (.ref a66), (.ref a71)] [(.double z2)] rfl rfl rfl 2 rfl (by decide) (by decide) (by decide) (by decide) rfl ?_
        rintro _ T92 _ X92 ⟨r92, A_92, rfl, D_r92, P_92, rfl, e92⟩
        rw [List.append_nil] at X92
        have ea : A_92 = b2 := own_uniq P_92 Pb2
        rw [ea] at D_r92
        show Go p.tables e below _ T92 (mkF m 423 #[.val (.int p0), .val (.long p1), .second, .val (.long p2), .second, .val (.long p3), .second, .val (.long p4), .second, .val (.int (2 : Int32)), .val (.int i2), .val (.int i3), .val (.int zl), .val (.int i4), .val (.int zf), .val (.int tz2), .val (.int tz3), .val (.ref a61), .val (.ref a66), .val (.ref a71), .val (.ref a76), .val (.ref a77), .val (.ref a82), .unset, .unset] [(.double r92), (.double z2)])
        refine g_dcmpV C X92 at_423 (v := (0 : Int32)) ((dcmp_cmpI Dz2 D_r92 _).trans (cmpI_self _)) rfl ?_
        refine g_ifN C X92 at_424 (by decide) rfl ?_
        refine g_aload C X92 (pc' := 429) at_427 rfl rfl rfl ?_
        refine g_iconst C X92 (pc' := 430) at_429 (v := (3 : Int32)) (by decide) rfl ?_
        refine g_daload C X92 (pc' := 431) e92 V89 (by decide) (by decide) 3 (by decide) rfl at_430 rfl ?_
        refine g_iconst C X92 (pc' := 432) at_431 (v := (3 : Int32)) (by decide) rfl ?_
        refine g_iload C X92 (pc' := 434) at_432 rfl rfl ?_
        refine g_aload C X92 (pc' := 436) at_434 rfl rfl rfl ?_
        refine g_aload C X92 (pc' := 438) at_436 rfl rfl rfl ?_
        refine g_aload C X92 (pc' := 440) at_438 rfl rfl rfl ?_
        refine g_callS C X92 (c_exp2 l Z a0 hw h89 a61 a66 a71 k61 k66 k71 i2 i3 tz2 tz3 i21.toInt i22.toInt i23.toInt i24.toInt hT (FP.i2d i21) (i2d_D i21) rg_i21 (FP.i2d i22) (i2d_D i22) rg_i22 (FP.i2d i23) (i2d_D i23) rg_i23 (FP.i2d i24) (i2d_D i24) rg_i24 (FP.i2d i25) (FP.i2d i26) (FP.i2d i27) (FP.i2d i28) (3 : Int32) (by decide) (FP.i2d i28) _ (i2d_D i28) rg_i28 rfl A61 A66 A71) (hw _ (List.mem_of_getElem? (i := 25) rfl)) (hw _ (List.mem_of_getElem? (i := 26) rfl)) (hw _ (List.mem_of_getElem? (i := 27) rfl)) (hw _ (List.mem_of_getElem? (i := 28) rfl)) (by decide) e92 at_440 rfl pdE [(.int (3 : Int32)), (.int (2 : Int32)), (.ref a61), (.ref a66), (.ref a71)] [(.double z3')] rfl rfl rfl 2 rfl (by decide) (by decide) (by decide) (by decide) rfl ?_
        rintro _ T93 _ X93 ⟨r93, A_93, rfl, D_r93, P_93, rfl, e93⟩
        rw [List.append_nil] at X93
        have ea : A_93 = b3 := own_uniq P_93 Pb3
        rw [ea] at D_r93
        show Go p.tables e below _ T93 (mkF m 443 #[.val (.int p0), .val (.long p1), .second, .val (.long p2), .second, .val (.long p3), .second, .val (.long p4), .second, .val (.int (2 : Int32)), .val (.int i2), .val (.int i3), .val (.int zl), .val (.int i4), .val (.int zf), .val (.int tz2), .val (.int tz3), .val (.ref a61), .val (.ref a66), .val (.ref a71), .val (.ref a76), .val (.ref a77), .val (.ref a82), .unset, .unset] [(.double r93), (.double z3')])
        refine g_dcmpV C X93 at_443 (v := (0 : Int32)) ((dcmp_cmpI Dz3 D_r93 _).trans (cmpI_self _)) rfl ?_
        refine g_ifN C X93 at_444 (by decide) rfl ?_
        refine g_iconst C X93 (pc' := 448) at_447 (v := (1 : Int32)) (by decide) rfl ?_
        refine g_goto C X93 at_448 (pc' := 452) (by decide) (by decide) ?_
        refine g_istore C X93 (pc' := 454) at_452 (x := (1 : Int32)) rfl (l' := #[.val (.int p0), .val (.long p1), .second, .val (.long p2), .second, .val (.long p3), .second, .val (.long p4), .second, .val (.int (2 : Int32)), .val (.int i2), .val (.int i3), .val (.int zl), .val (.int i4), .val (.int zf), .val (.int tz2), .val (.int tz3), .val (.ref a61), .val (.ref a66), .val (.ref a71), .val (.ref a76), .val (.ref a77), .val (.ref a82), .val (.int (1 : Int32)), .unset]) rfl rfl ?_
        refine g_aload C X93 (pc' := 456) at_454 rfl rfl rfl ?_
        refine g_len C X93 (pc' := 457) e93 A76 at_456 rfl ?_
        refine g_iload C X93 (pc' := 459) at_457 rfl rfl ?_
        refine g_icmpN C X93 at_459 (by decide) rfl ?_
        refine g_aload C X93 (pc' := 464) at_462 rfl rfl rfl ?_
        refine g_len C X93 (pc' := 465) e93 A77 at_464 rfl ?_
        refine g_iload C X93 (pc' := 467) at_465 rfl rfl ?_
        refine g_icmpN C X93 at_467 (by decide) rfl ?_
        refine g_iload C X93 (pc' := 472) at_470 rfl rfl ?_
        refine g_iconst C X93 (pc' := 473) at_472 (v := (1 : Int32)) (by decide) rfl ?_
        refine g_icmpN C X93 at_473 (by decide) rfl ?_
        refine g_aload C X93 (pc' := 478) at_476 rfl rfl rfl ?_
        refine g_iconst C X93 (pc' := 479) at_478 (v := (0 : Int32)) (by decide) rfl ?_
        refine g_iaload C X93 (pc' := 480) e93 A76 (by decide) (by decide) 0 (by decide) rfl at_479 rfl ?_
        refine g_iload C X93 (pc' := 482) at_480 rfl rfl ?_
        refine g_icmp C X93 at_482 (pc' := 582) (pc'' := 485) (by decide) (by decide) rfl (fun c482 => ?_) (fun c482 => ?_)
        · have c482 : ¬ (i2.toInt = i2.toInt) := c482
          refine g_iconst C X93 (pc' := 583) at_582 (v := (0 : Int32)) (by decide) rfl ?_
          refine g_istore C X93 (pc' := 585) at_583 (x := (0 : Int32)) rfl (l' := #[.val (.int p0), .val (.long p1), .second, .val (.long p2), .second, .val (.long p3), .second, .val (.long p4), .second, .val (.int (2 : Int32)), .val (.int i2), .val (.int i3), .val (.int zl), .val (.int i4), .val (.int zf), .val (.int tz2), .val (.int tz3), .val (.ref a61), .val (.ref a66), .val (.ref a71), .val (.ref a76), .val (.ref a77), .val (.ref a82), .val (.int (1 : Int32)), .val (.int (0 : Int32))]) rfl rfl ?_
          refine g_iload C X93 (pc' := 587) at_585 rfl rfl ?_
          refine g_ifN C X93 at_587 (by decide) rfl ?_
          refine g_iload C X93 (pc' := 592) at_590 rfl rfl ?_
          refine g_ifY C X93 at_592 (pc' := 599) (by decide) (by decide) (by decide) ?_
          refine g_iconst C X93 (pc' := 600) at_599 (v := (0 : Int32)) (by decide) rfl ?_
          exfalso; omega
        · have c482 : i2.toInt = i2.toInt := Decidable.not_not.mp c482
          refine g_aload C X93 (pc' := 487) at_485 rfl rfl rfl ?_
          refine g_iconst C X93 (pc' := 488) at_487 (v := (0 : Int32)) (by decide) rfl ?_
          refine g_daload C X93 (pc' := 489) e93 A77 (by decide) (by decide) 0 (by decide) rfl at_488 rfl ?_
          refine g_aload C X93 (pc' := 491) at_489 rfl rfl rfl ?_
          refine g_iconst C X93 (pc' := 492) at_491 (v := (0 : Int32)) (by decide) rfl ?_
          refine g_daload C X93 (pc' := 493) e93 A66 (by decide) (by decide) 0 (by decide) rfl at_492 rfl ?_
          refine g_dcmpV C X93 at_493 (v := (0 : Int32)) ((dcmp_cmpI (i2d_D i21) (i2d_D i21) _).trans (cmpI_self _)) rfl ?_
          refine g_ifN C X93 at_494 (by decide) rfl ?_
          refine g_iload C X93 (pc' := 499) at_497 rfl rfl ?_
          refine g_iconst C X93 (pc' := 500) at_499 (v := (2 : Int32)) (by decide) rfl ?_
          refine g_icmpN C X93 at_500 (by decide) rfl ?_
          refine g_aload C X93 (pc' := 505) at_503 rfl rfl rfl ?_
          refine g_iconst C X93 (pc' := 506) at_505 (v := (1 : Int32)) (by decide) rfl ?_
          refine g_iaload C X93 (pc' := 507) e93 A76 (by decide) (by decide) 1 (by decide) rfl at_506 rfl ?_
          refine g_iload C X93 (pc' := 509) at_507 rfl rfl ?_
          refine g_icmp C X93 at_509 (pc' := 582) (pc'' := 512) (by decide) (by decide) rfl (fun c509 => ?_) (fun c509 => ?_)
          · have c509 : ¬ (i3.toInt = i3.toInt) := c509
            refine g_iconst C X93 (pc' := 583) at_582 (v := (0 : Int32)) (by decide) rfl ?_
            refine g_istore C X93 (pc' := 585) at_583 (x := (0 : Int32)) rfl (l' := #[.val (.int p0), .val (.long p1), .second, .val (.long p2), .second, .val (.long p3), .second, .val (.long p4), .second, .val (.int (2 : Int32)), .val (.int i2), .val (.int i3), .val (.int zl), .val (.int i4), .val (.int zf), .val (.int tz2), .val (.int tz3), .val (.ref a61), .val (.ref a66), .val (.ref a71), .val (.ref a76), .val (.ref a77), .val (.ref a82), .val (.int (1 : Int32)), .val (.int (0 : Int32))]) rfl rfl ?_
            refine g_iload C X93 (pc' := 587) at_585 rfl rfl ?_
            refine g_ifN C X93 at_587 (by decide) rfl ?_
            refine g_iload C X93 (pc' := 592) at_590 rfl rfl ?_
            refine g_ifY C X93 at_592 (pc' := 599) (by decide) (by decide) (by decide) ?_
            refine g_iconst C X93 (pc' := 600) at_599 (v := (0 : Int32)) (by decide) rfl ?_
            exfalso; omega
          · have c509 : i3.toInt = i3.toInt := Decidable.not_not.mp c509
            refine g_aload C X93 (pc' := 514) at_512 rfl rfl rfl ?_
            refine g_iconst C X93 (pc' := 515) at_514 (v := (1 : Int32)) (by decide) rfl ?_
            refine g_daload C X93 (pc' := 516) e93 A77 (by decide) (by decide) 1 (by decide) rfl at_515 rfl ?_
            refine g_aload C X93 (pc' := 518) at_516 rfl rfl rfl ?_
            refine g_iconst C X93 (pc' := 519) at_518 (v := (1 : Int32)) (by decide) rfl ?_
            refine g_daload C X93 (pc' := 520) e93 A66 (by decide) (by decide) 1 (by decide) rfl at_519 rfl ?_
            refine g_dcmpV C X93 at_520 (v := (0 : Int32)) ((dcmp_cmpI (i2d_D i22) (i2d_D i22) _).trans (cmpI_self _)) rfl ?_
            refine g_ifN C X93 at_521 (by decide) rfl ?_
            refine g_iload C X93 (pc' := 526) at_524 rfl rfl ?_
            refine g_iconst C X93 (pc' := 527) at_526 (v := (3 : Int32)) (by decide) rfl ?_
            refine g_icmpY C X93 at_527 (pc' := 551) (by decide) (by decide) (by decide) ?_
            refine g_iload C X93 (pc' := 553) at_551 rfl rfl ?_
            refine g_iconst C X93 (pc' := 554) at_553 (v := (4 : Int32)) (by decide) rfl ?_
            refine g_icmpY C X93 at_554 (pc' := 578) (by decide) (by decide) (by decide) ?_
            refine g_iconst C X93 (pc' := 579) at_578 (v := (1 : Int32)) (by decide) rfl ?_
            refine g_goto C X93 at_579 (pc' := 583) (by decide) (by decide) ?_
            refine g_istore C X93 (pc' := 585) at_583 (x := (1 : Int32)) rfl (l' := #[.val (.int p0), .val (.long p1), .second, .val (.long p2), .second, .val (.long p3), .second, .val (.long p4), .second, .val (.int (2 : Int32)), .val (.int i2), .val (.int i3), .val (.int zl), .val (.int i4), .val (.int zf), .val (.int tz2), .val (.int tz3), .val (.ref a61), .val (.ref a66), .val (.ref a71), .val (.ref a76), .val (.ref a77), .val (.ref a82), .val (.int (1 : Int32)), .val (.int (1 : Int32))]) rfl rfl ?_
            refine g_iload C X93 (pc' := 587) at_585 rfl rfl ?_
            refine g_ifN C X93 at_587 (by decide) rfl ?_
            refine g_iload C X93 (pc' := 592) at_590 rfl rfl ?_
            refine g_ifN C X93 at_592 (by decide) rfl ?_
            refine g_iconst C X93 (pc' := 596) at_595 (v := (1 : Int32)) (by decide) rfl ?_
            refine g_goto C X93 at_596 (pc' := 600) (by decide) (by decide) ?_
            exact g_zreturn C X93 at_600 (w := 1) (by decide) ⟨rfl, N89⟩ (by decide) (by decide)
      · show Go p.tables e below _ T0 (mkF m 121 #[.val (.int p0), .val (.long p1), .second, .val (.long p2), .second, .val (.long p3), .second, .val (.long p4), .second, .val (.int (3 : Int32)), .val (.int i2), .val (.int i3), .val (.int zl), .val (.int i4), .val (.int zf), .val (.int tz2), .val (.int tz3), .unset, .unset, .unset, .unset, .unset, .unset, .unset, .unset] [])
        refine g_iconst C X0 (pc' := 122) at_121 (v := (4 : Int32)) (by decide) rfl ?_
        refine g_newP C X0 (aty := .int) (hw _ (List.mem_of_getElem? (i := 0) rfl)) e0 at_122 (by decide) 4 (by decide) (by decide) (by decide) (by decide) rfl ?_
        intro T94 h94 a94 k94 g94 X94 e94 E94 A94
        have z_a94 : n0 ≤ a94 := by rw [g94]; exact Z0
        have Z94 : n0 ≤ h94.size := Nat.le_trans Z0 E94.1
        have A94 : Arv Z h94 a94 k94 .int (4 : Int32) [] (.int (0 : Int32)) := A94
        refine g_dup C X94 (pc' := 125) at_124 rfl rfl ?_
        refine g_iconst C X94 (pc' := 126) at_125 (v := (0 : Int32)) (by decide) rfl ?_
        refine g_iload C X94 (pc' := 128) at_126 rfl rfl ?_
        refine g_iastore C X94 (pc' := 129) e94 A94 (by decide) (by decide) 0 1 (by decide) (of_decide_eq_true rfl) at_128 rfl ?_
        intro T95 h95 X95 e95 W95 Aq
        have Z95 : n0 ≤ h95.size := by rw [W95.size]; exact Z94
        have N95 := Fr.snoc X95 (Fr.nil n0) z_a94
        have A94 : Arv Z h95 a94 k94 .int (4 : Int32) [(.int i2)] (.int (0 : Int32)) := Aq
        refine g_dup C X95 (pc' := 130) at_129 rfl rfl ?_
        refine g_iconst C X95 (pc' := 131) at_130 (v := (1 : Int32)) (by decide) rfl ?_
        refine g_iload C X95 (pc' := 133) at_131 rfl rfl ?_
        refine g_iastore C X95 (pc' := 134) e95 A94 (by decide) (by decide) 1 1 (by decide) (of_decide_eq_true rfl) at_133 rfl ?_
        intro T96 h96 X96 e96 W96 Aq
        have Z96 : n0 ≤ h96.size := by rw [W96.size]; exact Z95
        have N96 := Fr.snoc X96 N95 z_a94
        have A94 : Arv Z h96 a94 k94 .int (4 : Int32) [(.int i2), (.int i3)] (.int (0 : Int32)) := Aq
        refine g_dup C X96 (pc' := 135) at_134 rfl rfl ?_
        refine g_iconst C X96 (pc' := 136) at_135 (v := (2 : Int32)) (by decide) rfl ?_
        refine g_iload C X96 (pc' := 138) at_136 rfl rfl ?_
        refine g_iastore C X96 (pc' := 139) e96 A94 (by decide) (by decide) 2 1 (by decide) (of_decide_eq_true rfl) at_138 rfl ?_
        intro T97 h97 X97 e97 W97 Aq
        have Z97 : n0 ≤ h97.size := by rw [W97.size]; exact Z96
        have N97 := Fr.snoc X97 N96 z_a94
        have A94 : Arv Z h97 a94 k94 .int (4 : Int32) [(.int i2), (.int i3), (.int tz2)] (.int (0 : Int32)) := Aq
        refine g_dup C X97 (pc' := 140) at_139 rfl rfl ?_
        refine g_iconst C X97 (pc' := 141) at_140 (v := (3 : Int32)) (by decide) rfl ?_
        refine g_iload C X97 (pc' := 143) at_141 rfl rfl ?_
        refine g_iastore C X97 (pc' := 144) e97 A94 (by decide) (by decide) 3 1 (by decide) (of_decide_eq_true rfl) at_143 rfl ?_
        intro T98 h98 X98 e98 W98 Aq
        have Z98 : n0 ≤ h98.size := by rw [W98.size]; exact Z97
        have N98 := Fr.snoc X98 N97 z_a94
        have A94 : Arv Z h98 a94 k94 .int (4 : Int32) [(.int i2), (.int i3), (.int tz2), (.int tz3)] (.int (0 : Int32)) := Aq
        refine g_astore C X98 (pc' := 146) at_144 rfl (l' := #[.val (.int p0), .val (.long p1), .second, .val (.long p2), .second, .val (.long p3), .second, .val (.long p4), .second, .val (.int (3 : Int32)), .val (.int i2), .val (.int i3), .val (.int zl), .val (.int i4), .val (.int zf), .val (.int tz2), .val (.int tz3), .val (.ref a94), .unset, .unset, .unset, .unset, .unset, .unset, .unset]) rfl rfl ?_
        refine g_iconst C X98 (pc' := 147) at_146 (v := (4 : Int32)) (by decide) rfl ?_
        refine g_newP C X98 (aty := .double) (hw _ (List.mem_of_getElem? (i := 1) rfl)) e98 at_147 (by decide) 4 (by decide) (by decide) (by decide) (by decide) rfl ?_
        intro T99 h99 a99 k99 g99 X99 e99 E99 A99
        have ne_a94_a99 : a94 ≠ a99 := Nat.ne_of_lt (by rw [g99]; exact A94.lt)
        have z_a99 : n0 ≤ a99 := by rw [g99]; exact Z98
        have A94 := A94.ext E99
        have Z99 : n0 ≤ h99.size := Nat.le_trans Z98 E99.1
        have A99 : Arv Z h99 a99 k99 .double (4 : Int32) [] (.double (0 : UInt64)) := A99
        refine g_dup C X99 (pc' := 150) at_149 rfl rfl ?_
        refine g_iconst C X99 (pc' := 151) at_150 (v := (0 : Int32)) (by decide) rfl ?_
        refine g_lloadN C X99 (pc' := 152) at_151 rfl rfl ?_
        refine g_l2i C X99 (pc' := 153) at_152 rfl ?_
        obtain ⟨i29, e_i29⟩ : ∃ z : Int32, z = p1.toInt32 := ⟨_, rfl⟩
        rw [← e_i29]
        clear e_i29
        have rg_i29 := rng32 i29
        refine g_i2d C X99 (pc' := 154) at_153 rfl ?_
        refine g_dastore C X99 (pc' := 155) e99 A99 (by decide) (by decide) 0 1 (by decide) (of_decide_eq_true rfl) at_154 rfl ?_
        intro T100 h100 X100 e100 W100 Aq
        have A94 := A94.other W100 ne_a94_a99
        have Z100 : n0 ≤ h100.size := by rw [W100.size]; exact Z99
        have N100 := Fr.snoc X100 N98 z_a99
        have A99 : Arv Z h100 a99 k99 .double (4 : Int32) [(.double (FP.i2d i29))] (.double (0 : UInt64)) := Aq
        refine g_dup C X100 (pc' := 156) at_155 rfl rfl ?_
        refine g_iconst C X100 (pc' := 157) at_156 (v := (1 : Int32)) (by decide) rfl ?_
        refine g_lloadN C X100 (pc' := 158) at_157 rfl rfl ?_
        refine g_bipush C X100 (pc' := 160) at_158 (v := (32 : Int32)) (by decide) rfl ?_
        refine g_lushr C X100 (pc' := 161) at_160 rfl ?_
        refine g_l2i C X100 (pc' := 162) at_161 rfl ?_
        obtain ⟨i30, e_i30⟩ : ∃ z : Int32, z = (XT.ushrL p1 (32 : Int32)).toInt32 := ⟨_, rfl⟩
        rw [← e_i30]
        clear e_i30
        have rg_i30 := rng32 i30
        refine g_i2d C X100 (pc' := 163) at_162 rfl ?_
        refine g_dastore C X100 (pc' := 164) e100 A99 (by decide) (by decide) 1 1 (by decide) (of_decide_eq_true rfl) at_163 rfl ?_
        intro T101 h101 X101 e101 W101 Aq
        have A94 := A94.other W101 ne_a94_a99
        have Z101 : n0 ≤ h101.size := by rw [W101.size]; exact Z100
        have N101 := Fr.snoc X101 N100 z_a99
        have A99 : Arv Z h101 a99 k99 .double (4 : Int32) [(.double (FP.i2d i29)), (.double (FP.i2d i30))] (.double (0 : UInt64)) := Aq
        refine g_dup C X101 (pc' := 165) at_164 rfl rfl ?_
        refine g_iconst C X101 (pc' := 166) at_165 (v := (2 : Int32)) (by decide) rfl ?_
        refine g_lloadN C X101 (pc' := 167) at_166 rfl rfl ?_
        refine g_l2i C X101 (pc' := 168) at_167 rfl ?_
        obtain ⟨i31, e_i31⟩ : ∃ z : Int32, z = p2.toInt32 := ⟨_, rfl⟩
        rw [← e_i31]
        clear e_i31
        have rg_i31 := rng32 i31
        refine g_i2d C X101 (pc' := 169) at_168 rfl ?_
        refine g_dastore C X101 (pc' := 170) e101 A99 (by decide) (by decide) 2 1 (by decide) (of_decide_eq_true rfl) at_169 rfl ?_
        intro T102 h102 X102 e102 W102 Aq
        have A94 := A94.other W102 ne_a94_a99
        have Z102 : n0 ≤ h102.size := by rw [W102.size]; exact Z101
        have N102 := Fr.snoc X102 N101 z_a99
        have A99 : Arv Z h102 a99 k99 .double (4 : Int32) [(.double (FP.i2d i29)), (.double (FP.i2d i30)), (.double (FP.i2d i31))] (.double (0 : UInt64)) := Aq
        refine g_dup C X102 (pc' := 171) at_170 rfl rfl ?_
        refine g_iconst C X102 (pc' := 172) at_171 (v := (3 : Int32)) (by decide) rfl ?_
        refine g_lloadN C X102 (pc' := 173) at_172 rfl rfl ?_
        refine g_bipush C X102 (pc' := 175) at_173 (v := (32 : Int32)) (by decide) rfl ?_
        refine g_lushr C X102 (pc' := 176) at_175 rfl ?_
        refine g_l2i C X102 (pc' := 177) at_176 rfl ?_
        obtain ⟨i32, e_i32⟩ : ∃ z : Int32, z = (XT.ushrL p2 (32 : Int32)).toInt32 := ⟨_, rfl⟩
        rw [← e_i32]
        clear e_i32
        have rg_i32 := rng32 i32
        refine g_i2d C X102 (pc' := 178) at_177 rfl ?_
        refine g_dastore C X102 (pc' := 179) e102 A99 (by decide) (by decide) 3 1 (by decide) (of_decide_eq_true rfl) at_178 rfl ?_
        intro T103 h103 X103 e103 W103 Aq
        have A94 := A94.other W103 ne_a94_a99
        have Z103 : n0 ≤ h103.size := by rw [W103.size]; exact Z102
        have N103 := Fr.snoc X103 N102 z_a99
        have A99 : Arv Z h103 a99 k99 .double (4 : Int32) [(.double (FP.i2d i29)), (.double (FP.i2d i30)), (.double (FP.i2d i31)), (.double (FP.i2d i32))] (.double (0 : UInt64)) := Aq
        refine g_astore C X103 (pc' := 181) at_179 rfl (l' := #[.val (.int p0), .val (.long p1), .second, .val (.long p2), .second, .val (.long p3), .second, .val (.long p4), .second, .val (.int (3 : Int32)), .val (.int i2), .val (.int i3), .val (.int zl), .val (.int i4), .val (.int zf), .val (.int tz2), .val (.int tz3), .val (.ref a94), .val (.ref a99), .unset, .unset, .unset, .unset, .unset, .unset]) rfl rfl ?_
        refine g_iconst C X103 (pc' := 182) at_181 (v := (4 : Int32)) (by decide) rfl ?_
        refine g_newP C X103 (aty := .double) (hw _ (List.mem_of_getElem? (i := 1) rfl)) e103 at_182 (by decide) 4 (by decide) (by decide) (by decide) (by decide) rfl ?_
        intro T104 h104 a104 k104 g104 X104 e104 E104 A104
        have ne_a94_a104 : a94 ≠ a104 := Nat.ne_of_lt (by rw [g104]; exact A94.lt)
        have ne_a99_a104 : a99 ≠ a104 := Nat.ne_of_lt (by rw [g104]; exact A99.lt)
        have z_a104 : n0 ≤ a104 := by rw [g104]; exact Z103
        have A94 := A94.ext E104
        have A99 := A99.ext E104
        have Z104 : n0 ≤ h104.size := Nat.le_trans Z103 E104.1
        have A104 : Arv Z h104 a104 k104 .double (4 : Int32) [] (.double (0 : UInt64)) := A104
        refine g_dup C X104 (pc' := 185) at_184 rfl rfl ?_
        refine g_iconst C X104 (pc' := 186) at_185 (v := (0 : Int32)) (by decide) rfl ?_
        refine g_lload C X104 (pc' := 188) at_186 rfl rfl ?_
        refine g_l2i C X104 (pc' := 189) at_188 rfl ?_
        obtain ⟨i33, e_i33⟩ : ∃ z : Int32, z = p3.toInt32 := ⟨_, rfl⟩
        rw [← e_i33]
        clear e_i33
        have rg_i33 := rng32 i33
        refine g_i2d C X104 (pc' := 190) at_189 rfl ?_
        refine g_dastore C X104 (pc' := 191) e104 A104 (by decide) (by decide) 0 1 (by decide) (of_decide_eq_true rfl) at_190 rfl ?_
        intro T105 h105 X105 e105 W105 Aq
        have A94 := A94.other W105 ne_a94_a104
        have A99 := A99.other W105 ne_a99_a104
        have Z105 : n0 ≤ h105.size := by rw [W105.size]; exact Z104
        have N105 := Fr.snoc X105 N103 z_a104
        have A104 : Arv Z h105 a104 k104 .double (4 : Int32) [(.double (FP.i2d i33))] (.double (0 : UInt64)) := Aq
        refine g_dup C X105 (pc' := 192) at_191 rfl rfl ?_
        refine g_iconst C X105 (pc' := 193) at_192 (v := (1 : Int32)) (by decide) rfl ?_
        refine g_lload C X105 (pc' := 195) at_193 rfl rfl ?_
        refine g_bipush C X105 (pc' := 197) at_195 (v := (32 : Int32)) (by decide) rfl ?_
        refine g_lushr C X105 (pc' := 198) at_197 rfl ?_
        refine g_l2i C X105 (pc' := 199) at_198 rfl ?_
        obtain ⟨i34, e_i34⟩ : ∃ z : Int32, z = (XT.ushrL p3 (32 : Int32)).toInt32 := ⟨_, rfl⟩
        rw [← e_i34]
        clear e_i34
        have rg_i34 := rng32 i34
        refine g_i2d C X105 (pc' := 200) at_199 rfl ?_
        refine g_dastore C X105 (pc' := 201) e105 A104 (by decide) (by decide) 1 1 (by decide) (of_decide_eq_true rfl) at_200 rfl ?_
        intro T106 h106 X106 e106 W106 Aq
        have A94 := A94.other W106 ne_a94_a104
        have A99 := A99.other W106 ne_a99_a104
        have Z106 : n0 ≤ h106.size := by rw [W106.size]; exact Z105
        have N106 := Fr.snoc X106 N105 z_a104
        have A104 : Arv Z h106 a104 k104 .double (4 : Int32) [(.double (FP.i2d i33)), (.double (FP.i2d i34))] (.double (0 : UInt64)) := Aq
        refine g_dup C X106 (pc' := 202) at_201 rfl rfl ?_
        refine g_iconst C X106 (pc' := 203) at_202 (v := (2 : Int32)) (by decide) rfl ?_
        refine g_lload C X106 (pc' := 205) at_203 rfl rfl ?_
        refine g_l2i C X106 (pc' := 206) at_205 rfl ?_
        obtain ⟨i35, e_i35⟩ : ∃ z : Int32, z = p4.toInt32 := ⟨_, rfl⟩
        rw [← e_i35]
        clear e_i35
        have rg_i35 := rng32 i35
        refine g_i2d C X106 (pc' := 207) at_206 rfl ?_
        refine g_dastore C X106 (pc' := 208) e106 A104 (by decide) (by decide) 2 1 (by decide) (of_decide_eq_true rfl) at_207 rfl ?_
        intro T107 h107 X107 e107 W107 Aq
        have A94 := A94.other W107 ne_a94_a104
        have A99 := A99.other W107 ne_a99_a104
        have Z107 : n0 ≤ h107.size := by rw [W107.size]; exact Z106
        have N107 := Fr.snoc X107 N106 z_a104
        have A104 : Arv Z h107 a104 k104 .double (4 : Int32) [(.double (FP.i2d i33)), (.double (FP.i2d i34)), (.double (FP.i2d i35))] (.double (0 : UInt64)) := Aq
        refine g_dup C X107 (pc' := 209) at_208 rfl rfl ?_
        refine g_iconst C X107 (pc' := 210) at_209 (v := (3 : Int32)) (by decide) rfl ?_
        refine g_lload C X107 (pc' := 212) at_210 rfl rfl ?_
        refine g_bipush C X107 (pc' := 214) at_212 (v := (32 : Int32)) (by decide) rfl ?_
        refine g_lushr C X107 (pc' := 215) at_214 rfl ?_
        refine g_l2i C X107 (pc' := 216) at_215 rfl ?_
        obtain ⟨i36, e_i36⟩ : ∃ z : Int32, z = (XT.ushrL p4 (32 : Int32)).toInt32 := ⟨_, rfl⟩
        rw [← e_i36]
        clear e_i36
        have rg_i36 := rng32 i36
        refine g_i2d C X107 (pc' := 217) at_216 rfl ?_
        refine g_dastore C X107 (pc' := 218) e107 A104 (by decide) (by decide) 3 1 (by decide) (of_decide_eq_true rfl) at_217 rfl ?_
        intro T108 h108 X108 e108 W108 Aq
        have A94 := A94.other W108 ne_a94_a104
        have A99 := A99.other W108 ne_a99_a104
        have Z108 : n0 ≤ h108.size := by rw [W108.size]; exact Z107
        have N108 := Fr.snoc X108 N107 z_a104
        have A104 : Arv Z h108 a104 k104 .double (4 : Int32) [(.double (FP.i2d i33)), (.double (FP.i2d i34)), (.double (FP.i2d i35)), (.double (FP.i2d i36))] (.double (0 : UInt64)) := Aq
        refine g_astore C X108 (pc' := 220) at_218 rfl (l' := #[.val (.int p0), .val (.long p1), .second, .val (.long p2), .second, .val (.long p3), .second, .val (.long p4), .second, .val (.int (3 : Int32)), .val (.int i2), .val (.int i3), .val (.int zl), .val (.int i4), .val (.int zf), .val (.int tz2), .val (.int tz3), .val (.ref a94), .val (.ref a99), .val (.ref a104), .unset, .unset, .unset, .unset, .unset]) rfl rfl ?_
        refine g_iload C X108 (pc' := 222) at_220 rfl rfl ?_
        refine g_newP C X108 (aty := .int) (hw _ (List.mem_of_getElem? (i := 0) rfl)) e108 at_222 (by decide) 3 (by decide) (by decide) (by decide) (by decide) rfl ?_
        intro T109 h109 a109 k109 g109 X109 e109 E109 A109
        have ne_a104_a109 : a104 ≠ a109 := Nat.ne_of_lt (by rw [g109]; exact A104.lt)
        have ne_a94_a109 : a94 ≠ a109 := Nat.ne_of_lt (by rw [g109]; exact A94.lt)
        have ne_a99_a109 : a99 ≠ a109 := Nat.ne_of_lt (by rw [g109]; exact A99.lt)
        have z_a109 : n0 ≤ a109 := by rw [g109]; exact Z108
        have A94 := A94.ext E109
        have A99 := A99.ext E109
        have A104 := A104.ext E109
        have Z109 : n0 ≤ h109.size := Nat.le_trans Z108 E109.1
        have A109 : Arv Z h109 a109 k109 .int (3 : Int32) [] (.int (0 : Int32)) := A109
        refine g_astore C X109 (pc' := 226) at_224 rfl (l' := #[.val (.int p0), .val (.long p1), .second, .val (.long p2), .second, .val (.long p3), .second, .val (.long p4), .second, .val (.int (3 : Int32)), .val (.int i2), .val (.int i3), .val (.int zl), .val (.int i4), .val (.int zf), .val (.int tz2), .val (.int tz3), .val (.ref a94), .val (.ref a99), .val (.ref a104), .val (.ref a109), .unset, .unset, .unset, .unset]) rfl rfl ?_
        refine g_iload C X109 (pc' := 228) at_226 rfl rfl ?_
        refine g_newP C X109 (aty := .double) (hw _ (List.mem_of_getElem? (i := 1) rfl)) e109 at_228 (by decide) 3 (by decide) (by decide) (by decide) (by decide) rfl ?_
        intro T110 h110 a110 k110 g110 X110 e110 E110 A110
        have ne_a104_a110 : a104 ≠ a110 := Nat.ne_of_lt (by rw [g110]; exact A104.lt)
        have ne_a109_a110 : a109 ≠ a110 := Nat.ne_of_lt (by rw [g110]; exact A109.lt)
        have ne_a94_a110 : a94 ≠ a110 := Nat.ne_of_lt (by rw [g110]; exact A94.lt)
        have ne_a99_a110 : a99 ≠ a110 := Nat.ne_of_lt (by rw [g110]; exact A99.lt)
        have z_a110 : n0 ≤ a110 := by rw [g110]; exact Z109
        have A94 := A94.ext E110
        have A99 := A99.ext E110
        have A104 := A104.ext E110
        have A109 := A109.ext E110
        have Z110 : n0 ≤ h110.size := Nat.le_trans Z109 E110.1
        have A110 : Arv Z h110 a110 k110 .double (3 : Int32) [] (.double (0 : UInt64)) := A110
        refine g_astore C X110 (pc' := 232) at_230 rfl (l' := #[.val (.int p0), .val (.long p1), .second, .val (.long p2), .second, .val (.long p3), .second, .val (.long p4), .second, .val (.int (3 : Int32)), .val (.int i2), .val (.int i3), .val (.int zl), .val (.int i4), .val (.int zf), .val (.int tz2), .val (.int tz3), .val (.ref a94), .val (.ref a99), .val (.ref a104), .val (.ref a109), .val (.ref a110), .unset, .unset, .unset]) rfl rfl ?_
        refine g_iload C X110 (pc' := 234) at_232 rfl rfl ?_
        refine g_ifN C X110 at_234 (by decide) rfl ?_
        refine g_aload C X110 (pc' := 239) at_237 rfl rfl rfl ?_
        refine g_iconst C X110 (pc' := 240) at_239 (v := (0 : Int32)) (by decide) rfl ?_
        refine g_iload C X110 (pc' := 242) at_240 rfl rfl ?_
        refine g_iastore C X110 (pc' := 243) e110 A109 (by decide) (by decide) 0 1 (by decide) (of_decide_eq_true rfl) at_242 rfl ?_
        intro T111 h111 X111 e111 W111 Aq
        have A94 := A94.other W111 ne_a94_a109
        have A99 := A99.other W111 ne_a99_a109
        have A104 := A104.other W111 ne_a104_a109
        have A110 := A110.other W111 (Ne.symm ne_a109_a110)
        have Z111 : n0 ≤ h111.size := by rw [W111.size]; exact Z110
        have N111 := Fr.snoc X111 N108 z_a109
        have A109 : Arv Z h111 a109 k109 .int (3 : Int32) [(.int i2)] (.int (0 : Int32)) := Aq
        refine g_aload C X111 (pc' := 245) at_243 rfl rfl rfl ?_
        refine g_iconst C X111 (pc' := 246) at_245 (v := (0 : Int32)) (by decide) rfl ?_
        refine g_aload C X111 (pc' := 248) at_246 rfl rfl rfl ?_
        refine g_iconst C X111 (pc' := 249) at_248 (v := (0 : Int32)) (by decide) rfl ?_
        refine g_daload C X111 (pc' := 250) e111 A99 (by decide) (by decide) 0 (by decide) rfl at_249 rfl ?_
        refine g_dastore C X111 (pc' := 251) e111 A110 (by decide) (by decide) 0 1 (by decide) (of_decide_eq_true rfl) at_250 rfl ?_
        intro T112 h112 X112 e112 W112 Aq
        have A94 := A94.other W112 ne_a94_a110
        have A99 := A99.other W112 ne_a99_a110
        have A104 := A104.other W112 ne_a104_a110
        have A109 := A109.other W112 ne_a109_a110
        have Z112 : n0 ≤ h112.size := by rw [W112.size]; exact Z111
        have N112 := Fr.snoc X112 N111 z_a110
        have A110 : Arv Z h112 a110 k110 .double (3 : Int32) [(.double (FP.i2d i29))] (.double (0 : UInt64)) := Aq
        refine g_iload C X112 (pc' := 253) at_251 rfl rfl ?_
        refine g_iconst C X112 (pc' := 254) at_253 (v := (1 : Int32)) (by decide) rfl ?_
        refine g_icmpN C X112 at_254 (by decide) rfl ?_
        refine g_aload C X112 (pc' := 259) at_257 rfl rfl rfl ?_
        refine g_iconst C X112 (pc' := 260) at_259 (v := (1 : Int32)) (by decide) rfl ?_
        refine g_iload C X112 (pc' := 262) at_260 rfl rfl ?_
        refine g_iastore C X112 (pc' := 263) e112 A109 (by decide) (by decide) 1 1 (by decide) (of_decide_eq_true rfl) at_262 rfl ?_
        intro T113 h113 X113 e113 W113 Aq
        have A94 := A94.other W113 ne_a94_a109
        have A99 := A99.other W113 ne_a99_a109
        have A104 := A104.other W113 ne_a104_a109
        have A110 := A110.other W113 (Ne.symm ne_a109_a110)
        have Z113 : n0 ≤ h113.size := by rw [W113.size]; exact Z112
        have N113 := Fr.snoc X113 N112 z_a109
        have A109 : Arv Z h113 a109 k109 .int (3 : Int32) [(.int i2), (.int i3)] (.int (0 : Int32)) := Aq
        refine g_aload C X113 (pc' := 265) at_263 rfl rfl rfl ?_
        refine g_iconst C X113 (pc' := 266) at_265 (v := (1 : Int32)) (by decide) rfl ?_
        refine g_aload C X113 (pc' := 268) at_266 rfl rfl rfl ?_
        refine g_iconst C X113 (pc' := 269) at_268 (v := (1 : Int32)) (by decide) rfl ?_
        refine g_daload C X113 (pc' := 270) e113 A99 (by decide) (by decide) 1 (by decide) rfl at_269 rfl ?_
        refine g_dastore C X113 (pc' := 271) e113 A110 (by decide) (by decide) 1 1 (by decide) (of_decide_eq_true rfl) at_270 rfl ?_
        intro T114 h114 X114 e114 W114 Aq
        have A94 := A94.other W114 ne_a94_a110
        have A99 := A99.other W114 ne_a99_a110
        have A104 := A104.other W114 ne_a104_a110
        have A109 := A109.other W114 ne_a109_a110
        have Z114 : n0 ≤ h114.size := by rw [W114.size]; exact Z113
        have N114 := Fr.snoc X114 N113 z_a110
        have A110 : Arv Z h114 a110 k110 .double (3 : Int32) [(.double (FP.i2d i29)), (.double (FP.i2d i30))] (.double (0 : UInt64)) := Aq
        refine g_iload C X114 (pc' := 273) at_271 rfl rfl ?_
        refine g_iconst C X114 (pc' := 274) at_273 (v := (2 : Int32)) (by decide) rfl ?_
        refine g_icmpN C X114 at_274 (by decide) rfl ?_
        refine g_aload C X114 (pc' := 279) at_277 rfl rfl rfl ?_
        refine g_iconst C X114 (pc' := 280) at_279 (v := (2 : Int32)) (by decide) rfl ?_
        refine g_iload C X114 (pc' := 282) at_280 rfl rfl ?_
        refine g_iastore C X114 (pc' := 283) e114 A109 (by decide) (by decide) 2 1 (by decide) (of_decide_eq_true rfl) at_282 rfl ?_
        intro T115 h115 X115 e115 W115 Aq
        have A94 := A94.other W115 ne_a94_a109
        have A99 := A99.other W115 ne_a99_a109
        have A104 := A104.other W115 ne_a104_a109
        have A110 := A110.other W115 (Ne.symm ne_a109_a110)
        have Z115 : n0 ≤ h115.size := by rw [W115.size]; exact Z114
        have N115 := Fr.snoc X115 N114 z_a109
        have A109 : Arv Z h115 a109 k109 .int (3 : Int32) [(.int i2), (.int i3), (.int tz2)] (.int (0 : Int32)) := Aq
        refine g_aload C X115 (pc' := 285) at_283 rfl rfl rfl ?_
        refine g_iconst C X115 (pc' := 286) at_285 (v := (2 : Int32)) (by decide) rfl ?_
        refine g_aload C X115 (pc' := 288) at_286 rfl rfl rfl ?_
        refine g_iconst C X115 (pc' := 289) at_288 (v := (2 : Int32)) (by decide) rfl ?_
        refine g_daload C X115 (pc' := 290) e115 A99 (by decide) (by decide) 2 (by decide) rfl at_289 rfl ?_
        refine g_dastore C X115 (pc' := 291) e115 A110 (by decide) (by decide) 2 1 (by decide) (of_decide_eq_true rfl) at_290 rfl ?_
        intro T116 h116 X116 e116 W116 Aq
        have A94 := A94.other W116 ne_a94_a110
        have A99 := A99.other W116 ne_a99_a110
        have A104 := A104.other W116 ne_a104_a110
        have A109 := A109.other W116 ne_a109_a110
        have Z116 : n0 ≤ h116.size := by rw [W116.size]; exact Z115
        have N116 := Fr.snoc X116 N115 z_a110
        have A110 : Arv Z h116 a110 k110 .double (3 : Int32) [(.double (FP.i2d i29)), (.double (FP.i2d i30)), (.double (FP.i2d i31))] (.double (0 : UInt64)) := Aq
        refine g_iload C X116 (pc' := 293) at_291 rfl rfl ?_
        refine g_iconst C X116 (pc' := 294) at_293 (v := (3 : Int32)) (by decide) rfl ?_
        refine g_icmpY C X116 at_294 (pc' := 311) (by decide) (by decide) (by decide) ?_
        refine g_iconst C X116 (pc' := 312) at_311 (v := (4 : Int32)) (by decide) rfl ?_
        refine g_newP C X116 (aty := .double) (hw _ (List.mem_of_getElem? (i := 1) rfl)) e116 at_312 (by decide) 4 (by decide) (by decide) (by decide) (by decide) rfl ?_
        intro T117 h117 a117 k117 g117 X117 e117 E117 A117
        have ne_a104_a117 : a104 ≠ a117 := Nat.ne_of_lt (by rw [g117]; exact A104.lt)
        have ne_a109_a117 : a109 ≠ a117 := Nat.ne_of_lt (by rw [g117]; exact A109.lt)
        have ne_a110_a117 : a110 ≠ a117 := Nat.ne_of_lt (by rw [g117]; exact A110.lt)
        have ne_a94_a117 : a94 ≠ a117 := Nat.ne_of_lt (by rw [g117]; exact A94.lt)
        have ne_a99_a117 : a99 ≠ a117 := Nat.ne_of_lt (by rw [g117]; exact A99.lt)
        have z_a117 : n0 ≤ a117 := by rw [g117]; exact Z116
        have A94 := A94.ext E117
        have A99 := A99.ext E117
        have A104 := A104.ext E117
        have A109 := A109.ext E117
        have A110 := A110.ext E117
        have Z117 : n0 ≤ h117.size := Nat.le_trans Z116 E117.1
        have A117 : Arv Z h117 a117 k117 .double (4 : Int32) [] (.double (0 : UInt64)) := A117
        refine g_dup C X117 (pc' := 315) at_314 rfl rfl ?_
        refine g_iconst C X117 (pc' := 316) at_315 (v := (0 : Int32)) (by decide) rfl ?_
        refine g_aload C X117 (pc' := 318) at_316 rfl rfl rfl ?_
        refine g_iconst C X117 (pc' := 319) at_318 (v := (0 : Int32)) (by decide) rfl ?_
        refine g_daload C X117 (pc' := 320) e117 A104 (by decide) (by decide) 0 (by decide) rfl at_319 rfl ?_
        refine g_dastore C X117 (pc' := 321) e117 A117 (by decide) (by decide) 0 1 (by decide) (of_decide_eq_true rfl) at_320 rfl ?_
        intro T118 h118 X118 e118 W118 Aq
        have A94 := A94.other W118 ne_a94_a117
        have A99 := A99.other W118 ne_a99_a117
        have A104 := A104.other W118 ne_a104_a117
        have A109 := A109.other W118 ne_a109_a117
        have A110 := A110.other W118 ne_a110_a117
        have Z118 : n0 ≤ h118.size := by rw [W118.size]; exact Z117
        have N118 := Fr.snoc X118 N116 z_a117
        have A117 : Arv Z h118 a117 k117 .double (4 : Int32) [(.double (FP.i2d i33))] (.double (0 : UInt64)) := Aq
        refine g_dup C X118 (pc' := 322) at_321 rfl rfl ?_
        refine g_iconst C X118 (pc' := 323) at_322 (v := (1 : Int32)) (by decide) rfl ?_
        refine g_aload C X118 (pc' := 325) at_323 rfl rfl rfl ?_
        refine g_iconst C X118 (pc' := 326) at_325 (v := (1 : Int32)) (by decide) rfl ?_
        refine g_daload C X118 (pc' := 327) e118 A104 (by decide) (by decide) 1 (by decide) rfl at_326 rfl ?_
        refine g_dastore C X118 (pc' := 328) e118 A117 (by decide) (by decide) 1 1 (by decide) (of_decide_eq_true rfl) at_327 rfl ?_
        intro T119 h119 X119 e119 W119 Aq
        have A94 := A94.other W119 ne_a94_a117
        have A99 := A99.other W119 ne_a99_a117
        have A104 := A104.other W119 ne_a104_a117
        have A109 := A109.other W119 ne_a109_a117
        have A110 := A110.other W119 ne_a110_a117
        have Z119 : n0 ≤ h119.size := by rw [W119.size]; exact Z118
        have N119 := Fr.snoc X119 N118 z_a117
        have A117 : Arv Z h119 a117 k117 .double (4 : Int32) [(.double (FP.i2d i33)), (.double (FP.i2d i34))] (.double (0 : UInt64)) := Aq
        refine g_dup C X119 (pc' := 329) at_328 rfl rfl ?_
        refine g_iconst C X119 (pc' := 330) at_329 (v := (2 : Int32)) (by decide) rfl ?_
        refine g_aload C X119 (pc' := 332) at_330 rfl rfl rfl ?_
        refine g_iconst C X119 (pc' := 333) at_332 (v := (2 : Int32)) (by decide) rfl ?_
        refine g_daload C X119 (pc' := 334) e119 A104 (by decide) (by decide) 2 (by decide) rfl at_333 rfl ?_
        refine g_dastore C X119 (pc' := 335) e119 A117 (by decide) (by decide) 2 1 (by decide) (of_decide_eq_true rfl) at_334 rfl ?_
        intro T120 h120 X120 e120 W120 Aq
        have A94 := A94.other W120 ne_a94_a117
        have A99 := A99.other W120 ne_a99_a117
        have A104 := A104.other W120 ne_a104_a117
        have A109 := A109.other W120 ne_a109_a117
        have A110 := A110.other W120 ne_a110_a117
        have Z120 : n0 ≤ h120.size := by rw [W120.size]; exact Z119
        have N120 := Fr.snoc X120 N119 z_a117
        have A117 : Arv Z h120 a117 k117 .double (4 : Int32) [(.double (FP.i2d i33)), (.double (FP.i2d i34)), (.double (FP.i2d i35))] (.double (0 : UInt64)) := Aq
        refine g_dup C X120 (pc' := 336) at_335 rfl rfl ?_
        refine g_iconst C X120 (pc' := 337) at_336 (v := (3 : Int32)) (by decide) rfl ?_
        refine g_aload C X120 (pc' := 339) at_337 rfl rfl rfl ?_
        refine g_iconst C X120 (pc' := 340) at_339 (v := (3 : Int32)) (by decide) rfl ?_
        refine g_daload C X120 (pc' := 341) e120 A104 (by decide) (by decide) 3 (by decide) rfl at_340 rfl ?_
        refine g_dastore C X120 (pc' := 342) e120 A117 (by decide) (by decide) 3 1 (by decide) (of_decide_eq_true rfl) at_341 rfl ?_
        intro T121 h121 X121 e121 W121 Aq
        have A94 := A94.other W121 ne_a94_a117
        have A99 := A99.other W121 ne_a99_a117
        have A104 := A104.other W121 ne_a104_a117
        have A109 := A109.other W121 ne_a109_a117
        have A110 := A110.other W121 ne_a110_a117
        have Z121 : n0 ≤ h121.size := by rw [W121.size]; exact Z120
        have N121 := Fr.snoc X121 N120 z_a117
        have A117 : Arv Z h121 a117 k117 .double (4 : Int32) [(.double (FP.i2d i33)), (.double (FP.i2d i34)), (.double (FP.i2d i35)), (.double (FP.i2d i36))] (.double (0 : UInt64)) := Aq
        refine g_astore C X121 (pc' := 344) at_342 rfl (l' := #[.val (.int p0), .val (.long p1), .second, .val (.long p2), .second, .val (.long p3), .second, .val (.long p4), .second, .val (.int (3 : Int32)), .val (.int i2), .val (.int i3), .val (.int zl), .val (.int i4), .val (.int zf), .val (.int tz2), .val (.int tz3), .val (.ref a94), .val (.ref a99), .val (.ref a104), .val (.ref a109), .val (.ref a110), .val (.ref a117), .unset, .unset]) rfl rfl ?_
        refine g_new C X121 (hw _ (List.mem_of_getElem? (i := 2) rfl)) (hw _ (List.mem_of_getElem? (i := 3) rfl)) (hw _ (List.mem_of_getElem? (i := 4) rfl)) e121 at_344 (by decide) (by decide) rfl ?_
        intro T122 h122 a122 g122 X122 e122 E122 A122 D122
        have ne_a104_a122 : a104 ≠ a122 := Nat.ne_of_lt (by rw [g122]; exact A104.lt)
        have ne_a109_a122 : a109 ≠ a122 := Nat.ne_of_lt (by rw [g122]; exact A109.lt)
        have ne_a110_a122 : a110 ≠ a122 := Nat.ne_of_lt (by rw [g122]; exact A110.lt)
        have ne_a117_a122 : a117 ≠ a122 := Nat.ne_of_lt (by rw [g122]; exact A117.lt)
        have ne_a94_a122 : a94 ≠ a122 := Nat.ne_of_lt (by rw [g122]; exact A94.lt)
        have ne_a99_a122 : a99 ≠ a122 := Nat.ne_of_lt (by rw [g122]; exact A99.lt)
        have z_a122 : n0 ≤ a122 := by rw [g122]; exact Z121
        have A94 := A94.ext E122
        have A99 := A99.ext E122
        have A104 := A104.ext E122
        have A109 := A109.ext E122
        have A110 := A110.ext E122
        have A117 := A117.ext E122
        have Z122 : n0 ≤ h122.size := Nat.le_trans Z121 E122.1
        refine g_dup C X122 (pc' := 348) at_347 rfl rfl ?_
        refine g_aload C X122 (pc' := 350) at_348 rfl rfl rfl ?_
        refine g_aload C X122 (pc' := 352) at_350 rfl rfl rfl ?_
        have F122_terms : ∃ w, Fld Z h122 a122 "com/example/kenning/kenning/retrieval/KMeans$Vector" "terms" "[I" w := ⟨_, D122 (Or.inr (hw _ (List.mem_of_getElem? (i := 17) rfl))) (ty := (.array .int)) (by decide)⟩
        have F122_weights : ∃ w, Fld Z h122 a122 "com/example/kenning/kenning/retrieval/KMeans$Vector" "weights" "[D" w := ⟨_, D122 (Or.inr (hw _ (List.mem_of_getElem? (i := 19) rfl))) (ty := (.array .double)) (by decide)⟩
        refine g_callI C X122 (c_init l Z a0 hw h122 n0 Z122 a122 z_a122 a109 a110 A122 F122_terms F122_weights) rfl (hw _ (List.mem_of_getElem? (i := 5) rfl)) (hw _ (List.mem_of_getElem? (i := 6) rfl)) (hw _ (List.mem_of_getElem? (i := 4) rfl)) (hw _ (List.mem_of_getElem? (i := 7) rfl)) (by decide) e122 at_352 rfl pdI a122 [(.ref a109), (.ref a110)] [(.ref a122)] rfl rfl rfl 1 rfl (by decide) (by decide) (by decide) (by decide) rfl ?_
        rintro _ T123 L123 X123 ⟨rfl, M123, K123, Aq, Ft123, Fw123⟩
        have A94 := A94.keep K123 (ninS ne_a94_a122 nin0)
        have A99 := A99.keep K123 (ninS ne_a99_a122 nin0)
        have A104 := A104.keep K123 (ninS ne_a104_a122 nin0)
        have A109 := A109.keep K123 (ninS ne_a109_a122 nin0)
        have A110 := A110.keep K123 (ninS ne_a110_a122 nin0)
        have A117 := A117.keep K123 (ninS ne_a117_a122 nin0)
        have A122 := A122.keep K123
        have Z123 : n0 ≤ T123.heap.size := Nat.le_trans Z122 K123.1
        have N123 := Fr.app N121 M123
        obtain ⟨h123, e123⟩ : ∃ z, T123.heap = z := ⟨_, rfl⟩
        rw [e123] at A94 A99 A104 A109 A110 A117 A122 Ft123 Fw123 Z123
        show Go p.tables e below _ T123 (mkF m 355 #[.val (.int p0), .val (.long p1), .second, .val (.long p2), .second, .val (.long p3), .second, .val (.long p4), .second, .val (.int (3 : Int32)), .val (.int i2), .val (.int i3), .val (.int zl), .val (.int i4), .val (.int zf), .val (.int tz2), .val (.int tz3), .val (.ref a94), .val (.ref a99), .val (.ref a104), .val (.ref a109), .val (.ref a110), .val (.ref a117), .unset, .unset] [(.ref a122)])
        refine g_aload C X123 (pc' := 357) at_355 rfl rfl rfl ?_
        refine g_callV C X123 (c_add3 l Z a0 hw h123 n0 Z123 a122 a117 a109 a110 z_a117 (Ne.symm ne_a117_a122) ne_a109_a117 ne_a110_a117 k109 k110 k117 i2 i3 tz2 tz3 i29.toInt i30.toInt i31.toInt i32.toInt hT (FP.i2d i29) (i2d_D i29) rg_i29 (FP.i2d i30) (i2d_D i30) rg_i30 (FP.i2d i31) (i2d_D i31) rg_i31 (FP.i2d i33) _ (i2d_D i33) rg_i33 (FP.i2d i34) _ (i2d_D i34) rg_i34 (FP.i2d i35) _ (i2d_D i35) rg_i35 (FP.i2d i36) _ (i2d_D i36) rg_i36 Ft123 Fw123 A109 A110 A117) (hw _ (List.mem_of_getElem? (i := 20) rfl)) (hw _ (List.mem_of_getElem? (i := 21) rfl)) (hw _ (List.mem_of_getElem? (i := 23) rfl)) (hw _ (List.mem_of_getElem? (i := 22) rfl)) (hw _ (List.mem_of_getElem? (i := 4) rfl)) (hw _ (List.mem_of_getElem? (i := 24) rfl)) (by decide) e123 A122 at_357 rfl pdD [(.ref a117)] [] rfl rfl rfl 0 rfl (by decide) (by decide) (by decide) (by decide) rfl ?_
        rintro _ T124 L124 X124 ⟨rfl, M124, K124, z0, z1, z2, z3', b0, b1, b2, b3, Dz0, Dz1, Dz2, Dz3, Pb0, Pb1, Pb2, Pb3, V124⟩
        have A94 := A94.keep K124 (ninS ne_a94_a117 nin0)
        have A99 := A99.keep K124 (ninS ne_a99_a117 nin0)
        have A104 := A104.keep K124 (ninS ne_a104_a117 nin0)
        have A109 := A109.keep K124 (ninS ne_a109_a117 nin0)
        have A110 := A110.keep K124 (ninS ne_a110_a117 nin0)
        have A122 := A122.keep K124
        have Ft123 := Ft123.keep K124 (ninS (Ne.symm ne_a117_a122) nin0)
        have Fw123 := Fw123.keep K124 (ninS (Ne.symm ne_a117_a122) nin0)
        have Z124 : n0 ≤ T124.heap.size := Nat.le_trans Z123 K124.1
        have N124 := Fr.app N123 M124
        obtain ⟨h124, e124⟩ : ∃ z, T124.heap = z := ⟨_, rfl⟩
        rw [e124] at A94 A99 A104 A109 A110 A122 Ft123 Fw123 V124 Z124
        show Go p.tables e below _ T124 (mkF m 360 #[.val (.int p0), .val (.long p1), .second, .val (.long p2), .second, .val (.long p3), .second, .val (.long p4), .second, .val (.int (3 : Int32)), .val (.int i2), .val (.int i3), .val (.int zl), .val (.int i4), .val (.int zf), .val (.int tz2), .val (.int tz3), .val (.ref a94), .val (.ref a99), .val (.ref a104), .val (.ref a109), .val (.ref a110), .val (.ref a117), .unset, .unset] [])
        refine g_aload C X124 (pc' := 362) at_360 rfl rfl rfl ?_
        refine g_len C X124 (pc' := 363) e124 V124 at_362 rfl ?_
        refine g_iconst C X124 (pc' := 364) at_363 (v := (4 : Int32)) (by decide) rfl ?_
        refine g_icmpN C X124 at_364 (by decide) rfl ?_
        refine g_aload C X124 (pc' := 369) at_367 rfl rfl rfl ?_
        refine g_iconst C X124 (pc' := 370) at_369 (v := (0 : Int32)) (by decide) rfl ?_
        refine g_daload C X124 (pc' := 371) e124 V124 (by decide) (by decide) 0 (by decide) rfl at_370 rfl ?_
        refine g_iconst C X124 (pc' := 372) at_371 (v := (0 : Int32)) (by decide) rfl ?_
        refine g_iload C X124 (pc' := 374) at_372 rfl rfl ?_
        refine g_aload C X124 (pc' := 376) at_374 rfl rfl rfl ?_
        refine g_aload C X124 (pc' := 378) at_376 rfl rfl rfl ?_
        refine g_aload C X124 (pc' := 380) at_378 rfl rfl rfl ?_
        refine g_callS C X124 (c_exp3 l Z a0 hw h124 a94 a99 a104 k94 k99 k104 i2 i3 tz2 tz3 i29.toInt i30.toInt i31.toInt i32.toInt hT (FP.i2d i29) (i2d_D i29) rg_i29 (FP.i2d i30) (i2d_D i30) rg_i30 (FP.i2d i31) (i2d_D i31) rg_i31 (FP.i2d i32) (i2d_D i32) rg_i32 (FP.i2d i33) (FP.i2d i34) (FP.i2d i35) (FP.i2d i36) (0 : Int32) (by decide) (FP.i2d i33) _ (i2d_D i33) rg_i33 rfl A94 A99 A104) (hw _ (List.mem_of_getElem? (i := 25) rfl)) (hw _ (List.mem_of_getElem? (i := 26) rfl)) (hw _ (List.mem_of_getElem? (i := 27) rfl)) (hw _ (List.mem_of_getElem? (i := 28) rfl)) (by decide) e124 at_380 rfl pdE [(.int (0 : Int32)), (.int (3 : Int32)), (.ref a94), (.ref a99), (.ref a104)] [(.double z0)] rfl rfl rfl 2 rfl (by decide) (by decide) (by decide) (by decide) rfl ?_
        rintro _ T125 _ X125 ⟨r125, A_125, rfl, D_r125, P_125, rfl, e125⟩
        rw [List.append_nil] at X125
        have ea : A_125 = b0 := own_uniq P_125 Pb0
        rw [ea] at D_r125
        show Go p.tables e below _ T125 (mkF m 383 #[.val (.int p0), .val (.long p1), .second, .val (.long p2), .second, .val (.long p3), .second, .val (.long p4), .second, .val (.int (3 : Int32)), .val (.int i2), .val (.int i3), .val (.int zl), .val (.int i4), .val (.int zf), .val (.int tz2), .val (.int tz3), .val (.ref a94), .val (.ref a99), .val (.ref a104), .val (.ref a109), .val (.ref a110), .val (.ref a117), .unset, .unset] [(.double r125), (.double z0)])
        refine g_dcmpV C X125 at_383 (v := (0 : Int32)) ((dcmp_cmpI Dz0 D_r125 _).trans (cmpI_self _)) rfl ?_
        refine g_ifN C X125 at_384 (by decide) rfl ?_
        refine g_aload C X125 (pc' := 389) at_387 rfl rfl rfl ?_
        refine g_iconst C X125 (pc' := 390) at_389 (v := (1 : Int32)) (by decide) rfl ?_
        refine g_daload C X125 (pc' := 391) e125 V124 (by decide) (by decide) 1 (by decide) rfl at_390 rfl ?_
        refine g_iconst C X125 (pc' := 392) at_391 (v := (1 : Int32)) (by decide) rfl ?_
        refine g_iload C X125 (pc' := 394) at_392 rfl rfl ?_
        refine g_aload C X125 (pc' := 396) at_394 rfl rfl rfl ?_
        refine g_aload C X125 (pc' := 398) at_396 rfl rfl rfl ?_
        refine g_aload C X125 (pc' := 400) at_398 rfl rfl rfl ?_
        refine g_callS C X125 (c_exp3 l Z a0 hw h124 a94 a99 a104 k94 k99 k104 i2 i3 tz2 tz3 i29.toInt i30.toInt i31.toInt i32.toInt hT (FP.i2d i29) (i2d_D i29) rg_i29 (FP.i2d i30) (i2d_D i30) rg_i30 (FP.i2d i31) (i2d_D i31) rg_i31 (FP.i2d i32) (i2d_D i32) rg_i32 (FP.i2d i33) (FP.i2d i34) (FP.i2d i35) (FP.i2d i36) (1 : Int32) (by decide) (FP.i2d i34) _ (i2d_D i34) rg_i34 rfl A94 A99 A104) (hw _ (List.mem_of_getElem? (i := 25) rfl)) (hw _ (List.mem_of_getElem? (i := 26) rfl)) (hw _ (List.mem_of_getElem? (i := 27) rfl)) (hw _ (List.mem_of_getElem? (i := 28) rfl)) (by decide) e125 at_400 rfl pdE [(.int (1 : Int32)), (.int (3 : Int32)), (.ref a94), (.ref a99), (.ref a104)] [(.double z1)] rfl rfl rfl 2 rfl (by decide) (by decide) (by decide) (by decide) rfl ?_
        rintro _ T126 _ X126 ⟨r126, A_126, rfl, D_r126, P_126, rfl, e126⟩
        rw [List.append_nil] at X126
        have ea : A_126 = b1 := own_uniq P_126 Pb1
        rw [ea] at D_r126
        show Go p.tables e below _ T126 (mkF m 403 #[.val (.int p0), .val (.long p1), .second, .val (.long p2), .second, .val (.long p3), .second, .val (.long p4), .second, .val (.int (3 : Int32)), .val (.int i2), .val (.int i3), .val (.int zl), .val (.int i4), .val (.int zf), .val (.int tz2), .val (.int tz3), .val (.ref a94), .val (.ref a99), .val (.ref a104), .val (.ref a109), .val (.ref a110), .val (.ref a117), .unset, .unset] [(.double r126), (.double z1)])
        refine g_dcmpV C X126 at_403 (v := (0 : Int32)) ((dcmp_cmpI Dz1 D_r126 _).trans (cmpI_self _)) rfl ?_
        refine g_ifN C X126 at_404 (by decide) rfl ?_
        refine g_aload C X126 (pc' := 409) at_407 rfl rfl rfl ?_
        refine g_iconst C X126 (pc' := 410) at_409 (v := (2 : Int32)) (by decide) rfl ?_
        refine g_daload C X126 (pc' := 411) e126 V124 (by decide) (by decide) 2 (by decide) rfl at_410 rfl ?_
        refine g_iconst C X126 (pc' := 412) at_411 (v := (2 : Int32)) (by decide) rfl ?_
        refine g_iload C X126 (pc' := 414) at_412 rfl rfl ?_
        refine g_aload C X126 (pc' := 416) at_414 rfl rfl rfl ?_
        refine g_aload C X126 (pc' := 418) at_416 rfl rfl rfl ?_
        refine g_aload C X126 (pc' := 420) at_418 rfl rfl rfl ?_
        refine g_callS C X126 (c_exp3 l Z a0 hw h124 a94 a99 a104 k94 k99 k104 i2 i3 tz2 tz3 i29.toInt i30.toInt i31.toInt i32.toInt hT (FP.i2d i29) (i2d_D i29) rg_i29 (FP.i2d i30) (i2d_D i30) rg_i30 (FP.i2d i31) (i2d_D i31) rg_i31 (FP.i2d i32) (i2d_D i32) rg_i32 (FP.i2d i33) (FP.i2d i34) (FP.i2d i35) (FP.i2d i36) (2 : Int32) (by decide) (FP.i2d i35) _ (i2d_D i35) rg_i35 rfl A94 A99 A104) (hw _ (List.mem_of_getElem? (i := 25) rfl)) (hw _ (List.mem_of_getElem? (i := 26) rfl)) (hw _ (List.mem_of_getElem? (i := 27) rfl)) (hw _ (List.mem_of_getElem? (i := 28) rfl)) (by decide) e126 at_420 rfl pdE [(.int (2 : Int32)), (.int (3 : Int32)), (.ref a94), (.ref a99), (.ref a104)] [(.double z2)] rfl rfl rfl 2 rfl (by decide) (by decide) (by decide) (by decide) rfl ?_
        rintro _ T127 _ X127 ⟨r127, A_127, rfl, D_r127, P_127, rfl, e127⟩
        rw [List.append_nil] at X127
        have ea : A_127 = b2 := own_uniq P_127 Pb2
        rw [ea] at D_r127
        show Go p.tables e below _ T127 (mkF m 423 #[.val (.int p0), .val (.long p1), .second, .val (.long p2), .second, .val (.long p3), .second, .val (.long p4), .second, .val (.int (3 : Int32)), .val (.int i2), .val (.int i3), .val (.int zl), .val (.int i4), .val (.int zf), .val (.int tz2), .val (.int tz3), .val (.ref a94), .val (.ref a99), .val (.ref a104), .val (.ref a109), .val (.ref a110), .val (.ref a117), .unset, .unset] [(.double r127), (.double z2)])
        refine g_dcmpV C X127 at_423 (v := (0 : Int32)) ((dcmp_cmpI Dz2 D_r127 _).trans (cmpI_self _)) rfl ?_
        refine g_ifN C X127 at_424 (by decide) rfl ?_
        refine g_aload C X127 (pc' := 429) at_427 rfl rfl rfl ?_
        refine g_iconst C X127 (pc' := 430) at_429 (v := (3 : Int32)) (by decide) rfl ?_
        refine g_daload C X127 (pc' := 431) e127 V124 (by decide) (by decide) 3 (by decide) rfl at_430 rfl ?_
        refine g_iconst C X127 (pc' := 432) at_431 (v := (3 : Int32)) (by decide) rfl ?_
        refine g_iload C X127 (pc' := 434) at_432 rfl rfl ?_
        refine g_aload C X127 (pc' := 436) at_434 rfl rfl rfl ?_
        refine g_aload C X127 (pc' := 438) at_436 rfl rfl rfl ?_
        refine g_aload C X127 (pc' := 440) at_438 rfl rfl rfl ?_
        refine g_callS C X127 (c_exp3 l Z a0 hw h124 a94 a99 a104 k94 k99 k104 i2 i3 tz2 tz3 i29.toInt i30.toInt i31.toInt i32.toInt hT (FP.i2d i29) (i2d_D i29) rg_i29 (FP.i2d i30) (i2d_D i30) rg_i30 (FP.i2d i31) (i2d_D i31) rg_i31 (FP.i2d i32) (i2d_D i32) rg_i32 (FP.i2d i33) (FP.i2d i34) (FP.i2d i35) (FP.i2d i36) (3 : Int32) (by decide) (FP.i2d i36) _ (i2d_D i36) rg_i36 rfl A94 A99 A104) (hw _ (List.mem_of_getElem? (i := 25) rfl)) (hw _ (List.mem_of_getElem? (i := 26) rfl)) (hw _ (List.mem_of_getElem? (i := 27) rfl)) (hw _ (List.mem_of_getElem? (i := 28) rfl)) (by decide) e127 at_440 rfl pdE [(.int (3 : Int32)), (.int (3 : Int32)), (.ref a94), (.ref a99), (.ref a104)] [(.double z3')] rfl rfl rfl 2 rfl (by decide) (by decide) (by decide) (by decide) rfl ?_
        rintro _ T128 _ X128 ⟨r128, A_128, rfl, D_r128, P_128, rfl, e128⟩
        rw [List.append_nil] at X128
        have ea : A_128 = b3 := own_uniq P_128 Pb3
        rw [ea] at D_r128
        show Go p.tables e below _ T128 (mkF m 443 #[.val (.int p0), .val (.long p1), .second, .val (.long p2), .second, .val (.long p3), .second, .val (.long p4), .second, .val (.int (3 : Int32)), .val (.int i2), .val (.int i3), .val (.int zl), .val (.int i4), .val (.int zf), .val (.int tz2), .val (.int tz3), .val (.ref a94), .val (.ref a99), .val (.ref a104), .val (.ref a109), .val (.ref a110), .val (.ref a117), .unset, .unset] [(.double r128), (.double z3')])
        refine g_dcmpV C X128 at_443 (v := (0 : Int32)) ((dcmp_cmpI Dz3 D_r128 _).trans (cmpI_self _)) rfl ?_
        refine g_ifN C X128 at_444 (by decide) rfl ?_
        refine g_iconst C X128 (pc' := 448) at_447 (v := (1 : Int32)) (by decide) rfl ?_
        refine g_goto C X128 at_448 (pc' := 452) (by decide) (by decide) ?_
        refine g_istore C X128 (pc' := 454) at_452 (x := (1 : Int32)) rfl (l' := #[.val (.int p0), .val (.long p1), .second, .val (.long p2), .second, .val (.long p3), .second, .val (.long p4), .second, .val (.int (3 : Int32)), .val (.int i2), .val (.int i3), .val (.int zl), .val (.int i4), .val (.int zf), .val (.int tz2), .val (.int tz3), .val (.ref a94), .val (.ref a99), .val (.ref a104), .val (.ref a109), .val (.ref a110), .val (.ref a117), .val (.int (1 : Int32)), .unset]) rfl rfl ?_
        refine g_aload C X128 (pc' := 456) at_454 rfl rfl rfl ?_
        refine g_len C X128 (pc' := 457) e128 A109 at_456 rfl ?_
        refine g_iload C X128 (pc' := 459) at_457 rfl rfl ?_
        refine g_icmpN C X128 at_459 (by decide) rfl ?_
        refine g_aload C X128 (pc' := 464) at_462 rfl rfl rfl ?_
        refine g_len C X128 (pc' := 465) e128 A110 at_464 rfl ?_
        refine g_iload C X128 (pc' := 467) at_465 rfl rfl ?_
        refine g_icmpN C X128 at_467 (by decide) rfl ?_
        refine g_iload C X128 (pc' := 472) at_470 rfl rfl ?_
        refine g_iconst C X128 (pc' := 473) at_472 (v := (1 : Int32)) (by decide) rfl ?_
        refine g_icmpN C X128 at_473 (by decide) rfl ?_
        refine g_aload C X128 (pc' := 478) at_476 rfl rfl rfl ?_
        refine g_iconst C X128 (pc' := 479) at_478 (v := (0 : Int32)) (by decide) rfl ?_
        refine g_iaload C X128 (pc' := 480) e128 A109 (by decide) (by decide) 0 (by decide) rfl at_479 rfl ?_
        refine g_iload C X128 (pc' := 482) at_480 rfl rfl ?_
        refine g_icmp C X128 at_482 (pc' := 582) (pc'' := 485) (by decide) (by decide) rfl (fun c482 => ?_) (fun c482 => ?_)
        · have c482 : ¬ (i2.toInt = i2.toInt) := c482
          refine g_iconst C X128 (pc' := 583) at_582 (v := (0 : Int32)) (by decide) rfl ?_
          refine g_istore C X128 (pc' := 585) at_583 (x := (0 : Int32)) rfl (l' := #[.val (.int p0), .val (.long p1), .second, .val (.long p2), .second, .val (.long p3), .second, .val (.long p4), .second, .val (.int (3 : Int32)), .val (.int i2), .val (.int i3), .val (.int zl), .val (.int i4), .val (.int zf), .val (.int tz2), .val (.int tz3), .val (.ref a94), .val (.ref a99), .val (.ref a104), .val (.ref a109), .val (.ref a110), .val (.ref a117), .val (.int (1 : Int32)), .val (.int (0 : Int32))]) rfl rfl ?_
          refine g_iload C X128 (pc' := 587) at_585 rfl rfl ?_
          refine g_ifN C X128 at_587 (by decide) rfl ?_
          refine g_iload C X128 (pc' := 592) at_590 rfl rfl ?_
          refine g_ifY C X128 at_592 (pc' := 599) (by decide) (by decide) (by decide) ?_
          refine g_iconst C X128 (pc' := 600) at_599 (v := (0 : Int32)) (by decide) rfl ?_
          exfalso; omega
        · have c482 : i2.toInt = i2.toInt := Decidable.not_not.mp c482
          refine g_aload C X128 (pc' := 487) at_485 rfl rfl rfl ?_
          refine g_iconst C X128 (pc' := 488) at_487 (v := (0 : Int32)) (by decide) rfl ?_
          refine g_daload C X128 (pc' := 489) e128 A110 (by decide) (by decide) 0 (by decide) rfl at_488 rfl ?_
          refine g_aload C X128 (pc' := 491) at_489 rfl rfl rfl ?_
          refine g_iconst C X128 (pc' := 492) at_491 (v := (0 : Int32)) (by decide) rfl ?_
          refine g_daload C X128 (pc' := 493) e128 A99 (by decide) (by decide) 0 (by decide) rfl at_492 rfl ?_
          refine g_dcmpV C X128 at_493 (v := (0 : Int32)) ((dcmp_cmpI (i2d_D i29) (i2d_D i29) _).trans (cmpI_self _)) rfl ?_
          refine g_ifN C X128 at_494 (by decide) rfl ?_
          refine g_iload C X128 (pc' := 499) at_497 rfl rfl ?_
          refine g_iconst C X128 (pc' := 500) at_499 (v := (2 : Int32)) (by decide) rfl ?_
          refine g_icmpN C X128 at_500 (by decide) rfl ?_
          refine g_aload C X128 (pc' := 505) at_503 rfl rfl rfl ?_
          refine g_iconst C X128 (pc' := 506) at_505 (v := (1 : Int32)) (by decide) rfl ?_
          refine g_iaload C X128 (pc' := 507) e128 A109 (by decide) (by decide) 1 (by decide) rfl at_506 rfl ?_
          refine g_iload C X128 (pc' := 509) at_507 rfl rfl ?_
          refine g_icmp C X128 at_509 (pc' := 582) (pc'' := 512) (by decide) (by decide) rfl (fun c509 => ?_) (fun c509 => ?_)
          · have c509 : ¬ (i3.toInt = i3.toInt) := c509
            refine g_iconst C X128 (pc' := 583) at_582 (v := (0 : Int32)) (by decide) rfl ?_
            refine g_istore C X128 (pc' := 585) at_583 (x := (0 : Int32)) rfl (l' := #[.val (.int p0), .val (.long p1), .second, .val (.long p2), .second, .val (.long p3), .second, .val (.long p4), .second, .val (.int (3 : Int32)), .val (.int i2), .val (.int i3), .val (.int zl), .val (.int i4), .val (.int zf), .val (.int tz2), .val (.int tz3), .val (.ref a94), .val (.ref a99), .val (.ref a104), .val (.ref a109), .val (.ref a110), .val (.ref a117), .val (.int (1 : Int32)), .val (.int (0 : Int32))]) rfl rfl ?_
            refine g_iload C X128 (pc' := 587) at_585 rfl rfl ?_
            refine g_ifN C X128 at_587 (by decide) rfl ?_
            refine g_iload C X128 (pc' := 592) at_590 rfl rfl ?_
            refine g_ifY C X128 at_592 (pc' := 599) (by decide) (by decide) (by decide) ?_
            refine g_iconst C X128 (pc' := 600) at_599 (v := (0 : Int32)) (by decide) rfl ?_
            exfalso; omega
          · have c509 : i3.toInt = i3.toInt := Decidable.not_not.mp c509
            refine g_aload C X128 (pc' := 514) at_512 rfl rfl rfl ?_
            refine g_iconst C X128 (pc' := 515) at_514 (v := (1 : Int32)) (by decide) rfl ?_
            refine g_daload C X128 (pc' := 516) e128 A110 (by decide) (by decide) 1 (by decide) rfl at_515 rfl ?_
            refine g_aload C X128 (pc' := 518) at_516 rfl rfl rfl ?_
            refine g_iconst C X128 (pc' := 519) at_518 (v := (1 : Int32)) (by decide) rfl ?_
            refine g_daload C X128 (pc' := 520) e128 A99 (by decide) (by decide) 1 (by decide) rfl at_519 rfl ?_
            refine g_dcmpV C X128 at_520 (v := (0 : Int32)) ((dcmp_cmpI (i2d_D i30) (i2d_D i30) _).trans (cmpI_self _)) rfl ?_
            refine g_ifN C X128 at_521 (by decide) rfl ?_
            refine g_iload C X128 (pc' := 526) at_524 rfl rfl ?_
            refine g_iconst C X128 (pc' := 527) at_526 (v := (3 : Int32)) (by decide) rfl ?_
            refine g_icmpN C X128 at_527 (by decide) rfl ?_
            refine g_aload C X128 (pc' := 532) at_530 rfl rfl rfl ?_
            refine g_iconst C X128 (pc' := 533) at_532 (v := (2 : Int32)) (by decide) rfl ?_
            refine g_iaload C X128 (pc' := 534) e128 A109 (by decide) (by decide) 2 (by decide) rfl at_533 rfl ?_
            refine g_iload C X128 (pc' := 536) at_534 rfl rfl ?_
            refine g_icmp C X128 at_536 (pc' := 582) (pc'' := 539) (by decide) (by decide) rfl (fun c536 => ?_) (fun c536 => ?_)
            · have c536 : ¬ (tz2.toInt = tz2.toInt) := c536
              refine g_iconst C X128 (pc' := 583) at_582 (v := (0 : Int32)) (by decide) rfl ?_
              refine g_istore C X128 (pc' := 585) at_583 (x := (0 : Int32)) rfl (l' := #[.val (.int p0), .val (.long p1), .second, .val (.long p2), .second, .val (.long p3), .second, .val (.long p4), .second, .val (.int (3 : Int32)), .val (.int i2), .val (.int i3), .val (.int zl), .val (.int i4), .val (.int zf), .val (.int tz2), .val (.int tz3), .val (.ref a94), .val (.ref a99), .val (.ref a104), .val (.ref a109), .val (.ref a110), .val (.ref a117), .val (.int (1 : Int32)), .val (.int (0 : Int32))]) rfl rfl ?_
              refine g_iload C X128 (pc' := 587) at_585 rfl rfl ?_
              refine g_ifN C X128 at_587 (by decide) rfl ?_
              refine g_iload C X128 (pc' := 592) at_590 rfl rfl ?_
              refine g_ifY C X128 at_592 (pc' := 599) (by decide) (by decide) (by decide) ?_
              refine g_iconst C X128 (pc' := 600) at_599 (v := (0 : Int32)) (by decide) rfl ?_
              exfalso; omega
            · have c536 : tz2.toInt = tz2.toInt := Decidable.not_not.mp c536
              refine g_aload C X128 (pc' := 541) at_539 rfl rfl rfl ?_
              refine g_iconst C X128 (pc' := 542) at_541 (v := (2 : Int32)) (by decide) rfl ?_
              refine g_daload C X128 (pc' := 543) e128 A110 (by decide) (by decide) 2 (by decide) rfl at_542 rfl ?_
              refine g_aload C X128 (pc' := 545) at_543 rfl rfl rfl ?_
              refine g_iconst C X128 (pc' := 546) at_545 (v := (2 : Int32)) (by decide) rfl ?_
              refine g_daload C X128 (pc' := 547) e128 A99 (by decide) (by decide) 2 (by decide) rfl at_546 rfl ?_
              refine g_dcmpV C X128 at_547 (v := (0 : Int32)) ((dcmp_cmpI (i2d_D i31) (i2d_D i31) _).trans (cmpI_self _)) rfl ?_
              refine g_ifN C X128 at_548 (by decide) rfl ?_
              refine g_iload C X128 (pc' := 553) at_551 rfl rfl ?_
              refine g_iconst C X128 (pc' := 554) at_553 (v := (4 : Int32)) (by decide) rfl ?_
              refine g_icmpY C X128 at_554 (pc' := 578) (by decide) (by decide) (by decide) ?_
              refine g_iconst C X128 (pc' := 579) at_578 (v := (1 : Int32)) (by decide) rfl ?_
              refine g_goto C X128 at_579 (pc' := 583) (by decide) (by decide) ?_
              refine g_istore C X128 (pc' := 585) at_583 (x := (1 : Int32)) rfl (l' := #[.val (.int p0), .val (.long p1), .second, .val (.long p2), .second, .val (.long p3), .second, .val (.long p4), .second, .val (.int (3 : Int32)), .val (.int i2), .val (.int i3), .val (.int zl), .val (.int i4), .val (.int zf), .val (.int tz2), .val (.int tz3), .val (.ref a94), .val (.ref a99), .val (.ref a104), .val (.ref a109), .val (.ref a110), .val (.ref a117), .val (.int (1 : Int32)), .val (.int (1 : Int32))]) rfl rfl ?_
              refine g_iload C X128 (pc' := 587) at_585 rfl rfl ?_
              refine g_ifN C X128 at_587 (by decide) rfl ?_
              refine g_iload C X128 (pc' := 592) at_590 rfl rfl ?_
              refine g_ifN C X128 at_592 (by decide) rfl ?_
              refine g_iconst C X128 (pc' := 596) at_595 (v := (1 : Int32)) (by decide) rfl ?_
              refine g_goto C X128 at_596 (pc' := 600) (by decide) (by decide) ?_
              exact g_zreturn C X128 at_600 (w := 1) (by decide) ⟨rfl, N124⟩ (by decide) (by decide)
      · show Go p.tables e below _ T0 (mkF m 121 #[.val (.int p0), .val (.long p1), .second, .val (.long p2), .second, .val (.long p3), .second, .val (.long p4), .second, .val (.int (4 : Int32)), .val (.int i2), .val (.int i3), .val (.int zl), .val (.int i4), .val (.int zf), .val (.int tz2), .val (.int tz3), .unset, .unset, .unset, .unset, .unset, .unset, .unset, .unset] [])
        refine g_iconst C X0 (pc' := 122) at_121 (v := (4 : Int32)) (by decide) rfl ?_
        refine g_newP C X0 (aty := .int) (hw _ (List.mem_of_getElem? (i := 0) rfl)) e0 at_122 (by decide) 4 (by decide) (by decide) (by decide) (by decide) rfl ?_
        intro T129 h129 a129 k129 g129 X129 e129 E129 A129
        have z_a129 : n0 ≤ a129 := by rw [g129]; exact Z0
        have Z129 : n0 ≤ h129.size := Nat.le_trans Z0 E129.1
        have A129 : Arv Z h129 a129 k129 .int (4 : Int32) [] (.int (0 : Int32)) := A129
        refine g_dup C X129 (pc' := 125) at_124 rfl rfl ?_
        refine g_iconst C X129 (pc' := 126) at_125 (v := (0 : Int32)) (by decide) rfl ?_
        refine g_iload C X129 (pc' := 128) at_126 rfl rfl ?_
        refine g_iastore C X129 (pc' := 129) e129 A129 (by decide) (by decide) 0 1 (by decide) (of_decide_eq_true rfl) at_128 rfl ?_
        intro T130 h130 X130 e130 W130 Aq
        have Z130 : n0 ≤ h130.size := by rw [W130.size]; exact Z129
        have N130 := Fr.snoc X130 (Fr.nil n0) z_a129
        have A129 : Arv Z h130 a129 k129 .int (4 : Int32) [(.int i2)] (.int (0 : Int32)) := Aq
        refine g_dup C X130 (pc' := 130) at_129 rfl rfl ?_
        refine g_iconst C X130 (pc' := 131) at_130 (v := (1 : Int32)) (by decide) rfl ?_
        refine g_iload C X130 (pc' := 133) at_131 rfl rfl ?_
        refine g_iastore C X130 (pc' := 134) e130 A129 (by decide) (by decide) 1 1 (by decide) (of_decide_eq_true rfl) at_133 rfl ?_
        intro T131 h131 X131 e131 W131 Aq
        have Z131 : n0 ≤ h131.size := by rw [W131.size]; exact Z130
        have N131 := Fr.snoc X131 N130 z_a129
        have A129 : Arv Z h131 a129 k129 .int (4 : Int32) [(.int i2), (.int i3)] (.int (0 : Int32)) := Aq
        refine g_dup C X131 (pc' := 135) at_134 rfl rfl ?_
        refine g_iconst C X131 (pc' := 136) at_135 (v := (2 : Int32)) (by decide) rfl ?_
        refine g_iload C X131 (pc' := 138) at_136 rfl rfl ?_
        refine g_iastore C X131 (pc' := 139) e131 A129 (by decide) (by decide) 2 1 (by decide) (of_decide_eq_true rfl) at_138 rfl ?_
        intro T132 h132 X132 e132 W132 Aq
        have Z132 : n0 ≤ h132.size := by rw [W132.size]; exact Z131
        have N132 := Fr.snoc X132 N131 z_a129
        have A129 : Arv Z h132 a129 k129 .int (4 : Int32) [(.int i2), (.int i3), (.int tz2)] (.int (0 : Int32)) := Aq
        refine g_dup C X132 (pc' := 140) at_139 rfl rfl ?_
        refine g_iconst C X132 (pc' := 141) at_140 (v := (3 : Int32)) (by decide) rfl ?_
        refine g_iload C X132 (pc' := 143) at_141 rfl rfl ?_
        refine g_iastore C X132 (pc' := 144) e132 A129 (by decide) (by decide) 3 1 (by decide) (of_decide_eq_true rfl) at_143 rfl ?_
        intro T133 h133 X133 e133 W133 Aq
        have Z133 : n0 ≤ h133.size := by rw [W133.size]; exact Z132
        have N133 := Fr.snoc X133 N132 z_a129
        have A129 : Arv Z h133 a129 k129 .int (4 : Int32) [(.int i2), (.int i3), (.int tz2), (.int tz3)] (.int (0 : Int32)) := Aq
        refine g_astore C X133 (pc' := 146) at_144 rfl (l' := #[.val (.int p0), .val (.long p1), .second, .val (.long p2), .second, .val (.long p3), .second, .val (.long p4), .second, .val (.int (4 : Int32)), .val (.int i2), .val (.int i3), .val (.int zl), .val (.int i4), .val (.int zf), .val (.int tz2), .val (.int tz3), .val (.ref a129), .unset, .unset, .unset, .unset, .unset, .unset, .unset]) rfl rfl ?_
        refine g_iconst C X133 (pc' := 147) at_146 (v := (4 : Int32)) (by decide) rfl ?_
        refine g_newP C X133 (aty := .double) (hw _ (List.mem_of_getElem? (i := 1) rfl)) e133 at_147 (by decide) 4 (by decide) (by decide) (by decide) (by decide) rfl ?_
        intro T134 h134 a134 k134 g134 X134 e134 E134 A134
        have ne_a129_a134 : a129 ≠ a134 := Nat.ne_of_lt (by rw [g134]; exact A129.lt)
        have z_a134 : n0 ≤ a134 := by rw [g134]; exact Z133
        have A129 := A129.ext E134
        have Z134 : n0 ≤ h134.size := Nat.le_trans Z133 E134.1
        have A134 : Arv Z h134 a134 k134 .double (4 : Int32) [] (.double (0 : UInt64)) := A134
        refine g_dup C X134 (pc' := 150) at_149 rfl rfl ?_
        refine g_iconst C X134 (pc' := 151) at_150 (v := (0 : Int32)) (by decide) rfl ?_
        refine g_lloadN C X134 (pc' := 152) at_151 rfl rfl ?_
        refine g_l2i C X134 (pc' := 153) at_152 rfl ?_
        obtain ⟨i37, e_i37⟩ : ∃ z : Int32, z = p1.toInt32 := ⟨_, rfl⟩
        rw [← e_i37]
        clear e_i37
        have rg_i37 := rng32 i37
        refine g_i2d C X134 (pc' := 154) at_153 rfl ?_
        refine g_dastore C X134 (pc' := 155) e134 A134 (by decide) (by decide) 0 1 (by decide) (of_decide_eq_true rfl) at_154 rfl ?_
        intro T135 h135 X135 e135 W135 Aq
        have A129 := A129.other W135 ne_a129_a134
        have Z135 : n0 ≤ h135.size := by rw [W135.size]; exact Z134
        have N135 := Fr.snoc X135 N133 z_a134
        have A134 : Arv Z h135 a134 k134 .double (4 : Int32) [(.double (FP.i2d i37))] (.double (0 : UInt64)) := Aq
        refine g_dup C X135 (pc' := 156) at_155 rfl rfl ?_
        refine g_iconst C X135 (pc' := 157) at_156 (v := (1 : Int32)) (by decide) rfl ?_
        refine g_lloadN C X135 (pc' := 158) at_157 rfl rfl ?_
        refine g_bipush C X135 (pc' := 160) at_158 (v := (32 : Int32)) (by decide) rfl ?_
        refine g_lushr C X135 (pc' := 161) at_160 rfl ?_
        refine g_l2i C X135 (pc' := 162) at_161 rfl ?_
        obtain ⟨i38, e_i38⟩ : ∃ z : Int32, z = (XT.ushrL p1 (32 : Int32)).toInt32 := ⟨_, rfl⟩
        rw [← e_i38]
        clear e_i38
        have rg_i38 := rng32 i38
        refine g_i2d C X135 (pc' := 163) at_162 rfl ?_
        refine g_dastore C X135 (pc' := 164) e135 A134 (by decide) (by decide) 1 1 (by decide) (of_decide_eq_true rfl) at_163 rfl ?_
        intro T136 h136 X136 e136 W136 Aq
        have A129 := A129.other W136 ne_a129_a134
        have Z136 : n0 ≤ h136.size := by rw [W136.size]; exact Z135
        have N136 := Fr.snoc X136 N135 z_a134
        have A134 : Arv Z h136 a134 k134 .double (4 : Int32) [(.double (FP.i2d i37)), (.double (FP.i2d i38))] (.double (0 : UInt64)) := Aq
        refine g_dup C X136 (pc' := 165) at_164 rfl rfl ?_
        refine g_iconst C X136 (pc' := 166) at_165 (v := (2 : Int32)) (by decide) rfl ?_
        refine g_lloadN C X136 (pc' := 167) at_166 rfl rfl ?_
        refine g_l2i C X136 (pc' := 168) at_167 rfl ?_
        obtain ⟨i39, e_i39⟩ : ∃ z : Int32, z = p2.toInt32 := ⟨_, rfl⟩
        rw [← e_i39]
        clear e_i39
        have rg_i39 := rng32 i39
        refine g_i2d C X136 (pc' := 169) at_168 rfl ?_
        refine g_dastore C X136 (pc' := 170) e136 A134 (by decide) (by decide) 2 1 (by decide) (of_decide_eq_true rfl) at_169 rfl ?_
        intro T137 h137 X137 e137 W137 Aq
        have A129 := A129.other W137 ne_a129_a134
        have Z137 : n0 ≤ h137.size := by rw [W137.size]; exact Z136
        have N137 := Fr.snoc X137 N136 z_a134
        have A134 : Arv Z h137 a134 k134 .double (4 : Int32) [(.double (FP.i2d i37)), (.double (FP.i2d i38)), (.double (FP.i2d i39))] (.double (0 : UInt64)) := Aq
        refine g_dup C X137 (pc' := 171) at_170 rfl rfl ?_
        refine g_iconst C X137 (pc' := 172) at_171 (v := (3 : Int32)) (by decide) rfl ?_
        refine g_lloadN C X137 (pc' := 173) at_172 rfl rfl ?_
        refine g_bipush C X137 (pc' := 175) at_173 (v := (32 : Int32)) (by decide) rfl ?_
        refine g_lushr C X137 (pc' := 176) at_175 rfl ?_
        refine g_l2i C X137 (pc' := 177) at_176 rfl ?_
        obtain ⟨i40, e_i40⟩ : ∃ z : Int32, z = (XT.ushrL p2 (32 : Int32)).toInt32 := ⟨_, rfl⟩
        rw [← e_i40]
        clear e_i40
        have rg_i40 := rng32 i40
        refine g_i2d C X137 (pc' := 178) at_177 rfl ?_
        refine g_dastore C X137 (pc' := 179) e137 A134 (by decide) (by decide) 3 1 (by decide) (of_decide_eq_true rfl) at_178 rfl ?_
        intro T138 h138 X138 e138 W138 Aq
        have A129 := A129.other W138 ne_a129_a134
        have Z138 : n0 ≤ h138.size := by rw [W138.size]; exact Z137
        have N138 := Fr.snoc X138 N137 z_a134
        have A134 : Arv Z h138 a134 k134 .double (4 : Int32) [(.double (FP.i2d i37)), (.double (FP.i2d i38)), (.double (FP.i2d i39)), (.double (FP.i2d i40))] (.double (0 : UInt64)) := Aq
        refine g_astore C X138 (pc' := 181) at_179 rfl (l' := #[.val (.int p0), .val (.long p1), .second, .val (.long p2), .second, .val (.long p3), .second, .val (.long p4), .second, .val (.int (4 : Int32)), .val (.int i2), .val (.int i3), .val (.int zl), .val (.int i4), .val (.int zf), .val (.int tz2), .val (.int tz3), .val (.ref a129), .val (.ref a134), .unset, .unset, .unset, .unset, .unset, .unset]) rfl rfl ?_
        refine g_iconst C X138 (pc' := 182) at_181 (v := (4 : Int32)) (by decide) rfl ?_
        refine g_newP C X138 (aty := .double) (hw _ (List.mem_of_getElem? (i := 1) rfl)) e138 at_182 (by decide) 4 (by decide) (by decide) (by decide) (by decide) rfl ?_
        intro T139 h139 a139 k139 g139 X139 e139 E139 A139
        have ne_a129_a139 : a129 ≠ a139 := Nat.ne_of_lt (by rw [g139]; exact A129.lt)
        have ne_a134_a139 : a134 ≠ a139 := Nat.ne_of_lt (by rw [g139]; exact A134.lt)
        have z_a139 : n0 ≤ a139 := by rw [g139]; exact Z138
        have A129 := A129.ext E139
        have A134 := A134.ext E139
        have Z139 : n0 ≤ h139.size := Nat.le_trans Z138 E139.1
        have A139 : Arv Z h139 a139 k139 .double (4 : Int32) [] (.double (0 : UInt64)) := A139
        refine g_dup C X139 (pc' := 185) at_184 rfl rfl ?_
        refine g_iconst C X139 (pc' := 186) at_185 (v := (0 : Int32)) (by decide) rfl ?_
        refine g_lload C X139 (pc' := 188) at_186 rfl rfl ?_
        refine g_l2i C X139 (pc' := 189) at_188 rfl ?_
        obtain ⟨i41, e_i41⟩ : ∃ z : Int32, z = p3.toInt32 := ⟨_, rfl⟩
        rw [← e_i41]
        clear e_i41
        have rg_i41 := rng32 i41
        refine g_i2d C X139 (pc' := 190) at_189 rfl ?_
        refine g_dastore C X139 (pc' := 191) e139 A139 (by decide) (by decide) 0 1 (by decide) (of_decide_eq_true rfl) at_190 rfl ?_
        intro T140 h140 X140 e140 W140 Aq
        have A129 := A129.other W140 ne_a129_a139
        have A134 := A134.other W140 ne_a134_a139
        have Z140 : n0 ≤ h140.size := by rw [W140.size]; exact Z139
        have N140 := Fr.snoc X140 N138 z_a139
        have A139 : Arv Z h140 a139 k139 .double (4 : Int32) [(.double (FP.i2d i41))] (.double (0 : UInt64)) := Aq
        refine g_dup C X140 (pc' := 192) at_191 rfl rfl ?_
        refine g_iconst C X140 (pc' := 193) at_192 (v := (1 : Int32)) (by decide) rfl ?_
        refine g_lload C X140 (pc' := 195) at_193 rfl rfl ?_
        refine g_bipush C X140 (pc' := 197) at_195 (v := (32 : Int32)) (by decide) rfl ?_
        refine g_lushr C X140 (pc' := 198) at_197 rfl ?_
        refine g_l2i C X140 (pc' := 199) at_198 rfl ?_
        obtain ⟨i42, e_i42⟩ : ∃ z : Int32, z = (XT.ushrL p3 (32 : Int32)).toInt32 := ⟨_, rfl⟩
        rw [← e_i42]
        clear e_i42
        have rg_i42 := rng32 i42
        refine g_i2d C X140 (pc' := 200) at_199 rfl ?_
        refine g_dastore C X140 (pc' := 201) e140 A139 (by decide) (by decide) 1 1 (by decide) (of_decide_eq_true rfl) at_200 rfl ?_
        intro T141 h141 X141 e141 W141 Aq
        have A129 := A129.other W141 ne_a129_a139
        have A134 := A134.other W141 ne_a134_a139
        have Z141 : n0 ≤ h141.size := by rw [W141.size]; exact Z140
        have N141 := Fr.snoc X141 N140 z_a139
        have A139 : Arv Z h141 a139 k139 .double (4 : Int32) [(.double (FP.i2d i41)), (.double (FP.i2d i42))] (.double (0 : UInt64)) := Aq
        refine g_dup C X141 (pc' := 202) at_201 rfl rfl ?_
        refine g_iconst C X141 (pc' := 203) at_202 (v := (2 : Int32)) (by decide) rfl ?_
        refine g_lload C X141 (pc' := 205) at_203 rfl rfl ?_
        refine g_l2i C X141 (pc' := 206) at_205 rfl ?_
        obtain ⟨i43, e_i43⟩ : ∃ z : Int32, z = p4.toInt32 := ⟨_, rfl⟩
        rw [← e_i43]
        clear e_i43
        have rg_i43 := rng32 i43
        refine g_i2d C X141 (pc' := 207) at_206 rfl ?_
        refine g_dastore C X141 (pc' := 208) e141 A139 (by decide) (by decide) 2 1 (by decide) (of_decide_eq_true rfl) at_207 rfl ?_
        intro T142 h142 X142 e142 W142 Aq
        have A129 := A129.other W142 ne_a129_a139
        have A134 := A134.other W142 ne_a134_a139
        have Z142 : n0 ≤ h142.size := by rw [W142.size]; exact Z141
        have N142 := Fr.snoc X142 N141 z_a139
        have A139 : Arv Z h142 a139 k139 .double (4 : Int32) [(.double (FP.i2d i41)), (.double (FP.i2d i42)), (.double (FP.i2d i43))] (.double (0 : UInt64)) := Aq
        refine g_dup C X142 (pc' := 209) at_208 rfl rfl ?_
        refine g_iconst C X142 (pc' := 210) at_209 (v := (3 : Int32)) (by decide) rfl ?_
        refine g_lload C X142 (pc' := 212) at_210 rfl rfl ?_
        refine g_bipush C X142 (pc' := 214) at_212 (v := (32 : Int32)) (by decide) rfl ?_
        refine g_lushr C X142 (pc' := 215) at_214 rfl ?_
        refine g_l2i C X142 (pc' := 216) at_215 rfl ?_
        obtain ⟨i44, e_i44⟩ : ∃ z : Int32, z = (XT.ushrL p4 (32 : Int32)).toInt32 := ⟨_, rfl⟩
        rw [← e_i44]
        clear e_i44
        have rg_i44 := rng32 i44
        refine g_i2d C X142 (pc' := 217) at_216 rfl ?_
        refine g_dastore C X142 (pc' := 218) e142 A139 (by decide) (by decide) 3 1 (by decide) (of_decide_eq_true rfl) at_217 rfl ?_
        intro T143 h143 X143 e143 W143 Aq
        have A129 := A129.other W143 ne_a129_a139
        have A134 := A134.other W143 ne_a134_a139
        have Z143 : n0 ≤ h143.size := by rw [W143.size]; exact Z142
        have N143 := Fr.snoc X143 N142 z_a139
        have A139 : Arv Z h143 a139 k139 .double (4 : Int32) [(.double (FP.i2d i41)), (.double (FP.i2d i42)), (.double (FP.i2d i43)), (.double (FP.i2d i44))] (.double (0 : UInt64)) := Aq
        refine g_astore C X143 (pc' := 220) at_218 rfl (l' := #[.val (.int p0), .val (.long p1), .second, .val (.long p2), .second, .val (.long p3), .second, .val (.long p4), .second, .val (.int (4 : Int32)), .val (.int i2), .val (.int i3), .val (.int zl), .val (.int i4), .val (.int zf), .val (.int tz2), .val (.int tz3), .val (.ref a129), .val (.ref a134), .val (.ref a139), .unset, .unset, .unset, .unset, .unset]) rfl rfl ?_
        refine g_iload C X143 (pc' := 222) at_220 rfl rfl ?_
        refine g_newP C X143 (aty := .int) (hw _ (List.mem_of_getElem? (i := 0) rfl)) e143 at_222 (by decide) 4 (by decide) (by decide) (by decide) (by decide) rfl ?_
        intro T144 h144 a144 k144 g144 X144 e144 E144 A144
        have ne_a129_a144 : a129 ≠ a144 := Nat.ne_of_lt (by rw [g144]; exact A129.lt)
        have ne_a134_a144 : a134 ≠ a144 := Nat.ne_of_lt (by rw [g144]; exact A134.lt)
        have ne_a139_a144 : a139 ≠ a144 := Nat.ne_of_lt (by rw [g144]; exact A139.lt)
        have z_a144 : n0 ≤ a144 := by rw [g144]; exact Z143
        have A129 := A129.ext E144
        have A134 := A134.ext E144
        have A139 := A139.ext E144
        have Z144 : n0 ≤ h144.size := Nat.le_trans Z143 E144.1
        have A144 : Arv Z h144 a144 k144 .int (4 : Int32) [] (.int (0 : Int32)) := A144
        refine g_astore C X144 (pc' := 226) at_224 rfl (l' := #[.val (.int p0), .val (.long p1), .second, .val (.long p2), .second, .val (.long p3), .second, .val (.long p4), .second, .val (.int (4 : Int32)), .val (.int i2), .val (.int i3), .val (.int zl), .val (.int i4), .val (.int zf), .val (.int tz2), .val (.int tz3), .val (.ref a129), .val (.ref a134), .val (.ref a139), .val (.ref a144), .unset, .unset, .unset, .unset]) rfl rfl ?_
        refine g_iload C X144 (pc' := 228) at_226 rfl rfl ?_
        refine g_newP C X144 (aty := .double) (hw _ (List.mem_of_getElem? (i := 1) rfl)) e144 at_228 (by decide) 4 (by decide) (by decide) (by decide) (by decide) rfl ?_
        intro T145 h145 a145 k145 g145 X145 e145 E145 A145
        have ne_a129_a145 : a129 ≠ a145 := Nat.ne_of_lt (by rw [g145]; exact A129.lt)
        have ne_a134_a145 : a134 ≠ a145 := Nat.ne_of_lt (by rw [g145]; exact A134.lt)
        have ne_a139_a145 : a139 ≠ a145 := Nat.ne_of_lt (by rw [g145]; exact A139.lt)
        have ne_a144_a145 : a144 ≠ a145 := Nat.ne_of_lt (by rw [g145]; exact A144.lt)
        have z_a145 : n0 ≤ a145 := by rw [g145]; exact Z144
        have A129 := A129.ext E145
        have A134 := A134.ext E145
        have A139 := A139.ext E145
        have A144 := A144.ext E145
        have Z145 : n0 ≤ h145.size := Nat.le_trans Z144 E145.1
        have A145 : Arv Z h145 a145 k145 .double (4 : Int32) [] (.double (0 : UInt64)) := A145
        refine g_astore C X145 (pc' := 232) at_230 rfl (l' := #[.val (.int p0), .val (.long p1), .second, .val (.long p2), .second, .val (.long p3), .second, .val (.long p4), .second, .val (.int (4 : Int32)), .val (.int i2), .val (.int i3), .val (.int zl), .val (.int i4), .val (.int zf), .val (.int tz2), .val (.int tz3), .val (.ref a129), .val (.ref a134), .val (.ref a139), .val (.ref a144), .val (.ref a145), .unset, .unset, .unset]) rfl rfl ?_
        refine g_iload C X145 (pc' := 234) at_232 rfl rfl ?_
        refine g_ifN C X145 at_234 (by decide) rfl ?_
        refine g_aload C X145 (pc' := 239) at_237 rfl rfl rfl ?_
        refine g_iconst C X145 (pc' := 240) at_239 (v := (0 : Int32)) (by decide) rfl ?_
        refine g_iload C X145 (pc' := 242) at_240 rfl rfl ?_
        refine g_iastore C X145 (pc' := 243) e145 A144 (by decide) (by decide) 0 1 (by decide) (of_decide_eq_true rfl) at_242 rfl ?_
        intro T146 h146 X146 e146 W146 Aq
        have A129 := A129.other W146 ne_a129_a144
        have A134 := A134.other W146 ne_a134_a144
        have A139 := A139.other W146 ne_a139_a144
        have A145 := A145.other W146 (Ne.symm ne_a144_a145)
        have Z146 : n0 ≤ h146.size := by rw [W146.size]; exact Z145
        have N146 := Fr.snoc X146 N143 z_a144
        have A144 : Arv Z h146 a144 k144 .int (4 : Int32) [(.int i2)] (.int (0 : Int32)) := Aq
        refine g_aload C X146 (pc' := 245) at_243 rfl rfl rfl ?_
        refine g_iconst C X146 (pc' := 246) at_245 (v := (0 : Int32)) (by decide) rfl ?_
        refine g_aload C X146 (pc' := 248) at_246 rfl rfl rfl ?_
        refine g_iconst C X146 (pc' := 249) at_248 (v := (0 : Int32)) (by decide) rfl ?_
        refine g_daload C X146 (pc' := 250) e146 A134 (by decide) (by decide) 0 (by decide) rfl at_249 rfl ?_
        refine g_dastore C X146 (pc' := 251) e146 A145 (by decide) (by decide) 0 1 (by decide) (of_decide_eq_true rfl) at_250 rfl ?_
        intro T147 h147 X147 e147 W147 Aq
        have A129 := A129.other W147 ne_a129_a145
        have A134 := A134.other W147 ne_a134_a145
        have A139 := A139.other W147 ne_a139_a145
        have A144 := A144.other W147 ne_a144_a145
        have Z147 : n0 ≤ h147.size := by rw [W147.size]; exact Z146
        have N147 := Fr.snoc X147 N146 z_a145
        have A145 : Arv Z h147 a145 k145 .double (4 : Int32) [(.double (FP.i2d i37))] (.double (0 : UInt64)) := Aq
        refine g_iload C X147 (pc' := 253) at_251 rfl rfl ?_
        refine g_iconst C X147 (pc' := 254) at_253 (v := (1 : Int32)) (by decide) rfl ?_
        refine g_icmpN C X147 at_254 (by decide) rfl ?_
        refine g_aload C X147 (pc' := 259) at_257 rfl rfl rfl ?_
        refine g_iconst C X147 (pc' := 260) at_259 (v := (1 : Int32)) (by decide) rfl ?_
        refine g_iload C X147 (pc' := 262) at_260 rfl rfl ?_
        refine g_iastore C X147 (pc' := 263) e147 A144 (by decide) (by decide) 1 1 (by decide) (of_decide_eq_true rfl) at_262 rfl ?_
        intro T148 h148 X148 e148 W148 Aq
        have A129 := A129.other W148 ne_a129_a144
        have A134 := A134.other W148 ne_a134_a144
        have A139 := A139.other W148 ne_a139_a144
        have A145 := A145.other W148 (Ne.symm ne_a144_a145)
        have Z148 : n0 ≤ h148.size := by rw [W148.size]; exact Z147
        have N148 := Fr.snoc X148 N147 z_a144
        have A144 : Arv Z h148 a144 k144 .int (4 : Int32) [(.int i2), (.int i3)] (.int (0 : Int32)) := Aq
        refine g_aload C X148 (pc' := 265) at_263 rfl rfl rfl ?_
        refine g_iconst C X148 (pc' := 266) at_265 (v := (1 : Int32)) (by decide) rfl ?_
        refine g_aload C X148 (pc' := 268) at_266 rfl rfl rfl ?_
        refine g_iconst C X148 (pc' := 269) at_268 (v := (1 : Int32)) (by decide) rfl ?_
        refine g_daload C X148 (pc' := 270) e148 A134 (by decide) (by decide) 1 (by decide) rfl at_269 rfl ?_
        refine g_dastore C X148 (pc' := 271) e148 A145 (by decide) (by decide) 1 1 (by decide) (of_decide_eq_true rfl) at_270 rfl ?_
        intro T149 h149 X149 e149 W149 Aq
        have A129 := A129.other W149 ne_a129_a145
        have A134 := A134.other W149 ne_a134_a145
        have A139 := A139.other W149 ne_a139_a145
        have A144 := A144.other W149 ne_a144_a145
        have Z149 : n0 ≤ h149.size := by rw [W149.size]; exact Z148
        have N149 := Fr.snoc X149 N148 z_a145
        have A145 : Arv Z h149 a145 k145 .double (4 : Int32) [(.double (FP.i2d i37)), (.double (FP.i2d i38))] (.double (0 : UInt64)) := Aq
        refine g_iload C X149 (pc' := 273) at_271 rfl rfl ?_
        refine g_iconst C X149 (pc' := 274) at_273 (v := (2 : Int32)) (by decide) rfl ?_
        refine g_icmpN C X149 at_274 (by decide) rfl ?_
        refine g_aload C X149 (pc' := 279) at_277 rfl rfl rfl ?_
        refine g_iconst C X149 (pc' := 280) at_279 (v := (2 : Int32)) (by decide) rfl ?_
        refine g_iload C X149 (pc' := 282) at_280 rfl rfl ?_
        refine g_iastore C X149 (pc' := 283) e149 A144 (by decide) (by decide) 2 1 (by decide) (of_decide_eq_true rfl) at_282 rfl ?_
        intro T150 h150 X150 e150 W150 Aq
        have A129 := A129.other W150 ne_a129_a144
        have A134 := A134.other W150 ne_a134_a144
        have A139 := A139.other W150 ne_a139_a144
        have A145 := A145.other W150 (Ne.symm ne_a144_a145)
        have Z150 : n0 ≤ h150.size := by rw [W150.size]; exact Z149
        have N150 := Fr.snoc X150 N149 z_a144
        have A144 : Arv Z h150 a144 k144 .int (4 : Int32) [(.int i2), (.int i3), (.int tz2)] (.int (0 : Int32)) := Aq
        refine g_aload C X150 (pc' := 285) at_283 rfl rfl rfl ?_
        refine g_iconst C X150 (pc' := 286) at_285 (v := (2 : Int32)) (by decide) rfl ?_
        refine g_aload C X150 (pc' := 288) at_286 rfl rfl rfl ?_
        refine g_iconst C X150 (pc' := 289) at_288 (v := (2 : Int32)) (by decide) rfl ?_
        refine g_daload C X150 (pc' := 290) e150 A134 (by decide) (by decide) 2 (by decide) rfl at_289 rfl ?_
        refine g_dastore C X150 (pc' := 291) e150 A145 (by decide) (by decide) 2 1 (by decide) (of_decide_eq_true rfl) at_290 rfl ?_
        intro T151 h151 X151 e151 W151 Aq
        have A129 := A129.other W151 ne_a129_a145
        have A134 := A134.other W151 ne_a134_a145
        have A139 := A139.other W151 ne_a139_a145
        have A144 := A144.other W151 ne_a144_a145
        have Z151 : n0 ≤ h151.size := by rw [W151.size]; exact Z150
        have N151 := Fr.snoc X151 N150 z_a145
        have A145 : Arv Z h151 a145 k145 .double (4 : Int32) [(.double (FP.i2d i37)), (.double (FP.i2d i38)), (.double (FP.i2d i39))] (.double (0 : UInt64)) := Aq
        refine g_iload C X151 (pc' := 293) at_291 rfl rfl ?_
        refine g_iconst C X151 (pc' := 294) at_293 (v := (3 : Int32)) (by decide) rfl ?_
        refine g_icmpN C X151 at_294 (by decide) rfl ?_
        refine g_aload C X151 (pc' := 299) at_297 rfl rfl rfl ?_
        refine g_iconst C X151 (pc' := 300) at_299 (v := (3 : Int32)) (by decide) rfl ?_
        refine g_iload C X151 (pc' := 302) at_300 rfl rfl ?_
        refine g_iastore C X151 (pc' := 303) e151 A144 (by decide) (by decide) 3 1 (by decide) (of_decide_eq_true rfl) at_302 rfl ?_
        intro T152 h152 X152 e152 W152 Aq
        have A129 := A129.other W152 ne_a129_a144
        have A134 := A134.other W152 ne_a134_a144
        have A139 := A139.other W152 ne_a139_a144
        have A145 := A145.other W152 (Ne.symm ne_a144_a145)
        have Z152 : n0 ≤ h152.size := by rw [W152.size]; exact Z151
        have N152 := Fr.snoc X152 N151 z_a144
        have A144 : Arv Z h152 a144 k144 .int (4 : Int32) [(.int i2), (.int i3), (.int tz2), (.int tz3)] (.int (0 : Int32)) := Aq
        refine g_aload C X152 (pc' := 305) at_303 rfl rfl rfl ?_
        refine g_iconst C X152 (pc' := 306) at_305 (v := (3 : Int32)) (by decide) rfl ?_
        refine g_aload C X152 (pc' := 308) at_306 rfl rfl rfl ?_
        refine g_iconst C X152 (pc' := 309) at_308 (v := (3 : Int32)) (by decide) rfl ?_
        refine g_daload C X152 (pc' := 310) e152 A134 (by decide) (by decide) 3 (by decide) rfl at_309 rfl ?_
        refine g_dastore C X152 (pc' := 311) e152 A145 (by decide) (by decide) 3 1 (by decide) (of_decide_eq_true rfl) at_310 rfl ?_
        intro T153 h153 X153 e153 W153 Aq
        have A129 := A129.other W153 ne_a129_a145
        have A134 := A134.other W153 ne_a134_a145
        have A139 := A139.other W153 ne_a139_a145
        have A144 := A144.other W153 ne_a144_a145
        have Z153 : n0 ≤ h153.size := by rw [W153.size]; exact Z152
        have N153 := Fr.snoc X153 N152 z_a145
        have A145 : Arv Z h153 a145 k145 .double (4 : Int32) [(.double (FP.i2d i37)), (.double (FP.i2d i38)), (.double (FP.i2d i39)), (.double (FP.i2d i40))] (.double (0 : UInt64)) := Aq
        refine g_iconst C X153 (pc' := 312) at_311 (v := (4 : Int32)) (by decide) rfl ?_
        refine g_newP C X153 (aty := .double) (hw _ (List.mem_of_getElem? (i := 1) rfl)) e153 at_312 (by decide) 4 (by decide) (by decide) (by decide) (by decide) rfl ?_
        intro T154 h154 a154 k154 g154 X154 e154 E154 A154
        have ne_a129_a154 : a129 ≠ a154 := Nat.ne_of_lt (by rw [g154]; exact A129.lt)
        have ne_a134_a154 : a134 ≠ a154 := Nat.ne_of_lt (by rw [g154]; exact A134.lt)
        have ne_a139_a154 : a139 ≠ a154 := Nat.ne_of_lt (by rw [g154]; exact A139.lt)
        have ne_a144_a154 : a144 ≠ a154 := Nat.ne_of_lt (by rw [g154]; exact A144.lt)
        have ne_a145_a154 : a145 ≠ a154 := Nat.ne_of_lt (by rw [g154]; exact A145.lt)
        have z_a154 : n0 ≤ a154 := by rw [g154]; exact Z153
        have A129 := A129.ext E154
        have A134 := A134.ext E154
        have A139 := A139.ext E154
        have A144 := A144.ext E154
        have A145 := A145.ext E154
        have Z154 : n0 ≤ h154.size := Nat.le_trans Z153 E154.1
        have A154 : Arv Z h154 a154 k154 .double (4 : Int32) [] (.double (0 : UInt64)) := A154
        refine g_dup C X154 (pc' := 315) at_314 rfl rfl ?_
        refine g_iconst C X154 (pc' := 316) at_315 (v := (0 : Int32)) (by decide) rfl ?_
        refine g_aload C X154 (pc' := 318) at_316 rfl rfl rfl ?_
        refine g_iconst C X154 (pc' := 319) at_318 (v := (0 : Int32)) (by decide) rfl ?_
        refine g_daload C X154 (pc' := 320) e154 A139 (by decide) (by decide) 0 (by decide) rfl at_319 rfl ?_
        refine g_dastore C X154 (pc' := 321) e154 A154 (by decide) (by decide) 0 1 (by decide) (of_decide_eq_true rfl) at_320 rfl ?_
        intro T155 h155 X155 e155 W155 Aq
        have A129 := A129.other W155 ne_a129_a154
        have A134 := A134.other W155 ne_a134_a154
        have A139 := A139.other W155 ne_a139_a154
        have A144 := A144.other W155 ne_a144_a154
        have A145 := A145.other W155 ne_a145_a154
        have Z155 : n0 ≤ h155.size := by rw [W155.size]; exact Z154
        have N155 := Fr.snoc X155 N153 z_a154
        have A154 : Arv Z h155 a154 k154 .double (4 : Int32) [(.double (FP.i2d i41))] (.double (0 : UInt64)) := Aq
        refine g_dup C X155 (pc' := 322) at_321 rfl rfl ?_
        refine g_iconst C X155 (pc' := 323) at_322 (v := (1 : Int32)) (by decide) rfl ?_
        refine g_aload C X155 (pc' := 325) at_323 rfl rfl rfl ?_
        refine g_iconst C X155 (pc' := 326) at_325 (v := (1 : Int32)) (by decide) rfl ?_
        refine g_daload C X155 (pc' := 327) e155 A139 (by decide) (by decide) 1 (by decide) rfl at_326 rfl ?_
        refine g_dastore C X155 (pc' := 328) e155 A154 (by decide) (by decide) 1 1 (by decide) (of_decide_eq_true rfl) at_327 rfl ?_
        intro T156 h156 X156 e156 W156 Aq
        have A129 := A129.other W156 ne_a129_a154
        have A134 := A134.other W156 ne_a134_a154
        have A139 := A139.other W156 ne_a139_a154
        have A144 := A144.other W156 ne_a144_a154
        have A145 := A145.other W156 ne_a145_a154
        have Z156 : n0 ≤ h156.size := by rw [W156.size]; exact Z155
        have N156 := Fr.snoc X156 N155 z_a154
        have A154 : Arv Z h156 a154 k154 .double (4 : Int32) [(.double (FP.i2d i41)), (.double (FP.i2d i42))] (.double (0 : UInt64)) := Aq
        refine g_dup C X156 (pc' := 329) at_328 rfl rfl ?_
        refine g_iconst C X156 (pc' := 330) at_329 (v := (2 : Int32)) (by decide) rfl ?_
        refine g_aload C X156 (pc' := 332) at_330 rfl rfl rfl ?_
        refine g_iconst C X156 (pc' := 333) at_332 (v := (2 : Int32)) (by decide) rfl ?_
        refine g_daload C X156 (pc' := 334) e156 A139 (by decide) (by decide) 2 (by decide) rfl at_333 rfl ?_
        refine g_dastore C X156 (pc' := 335) e156 A154 (by decide) (by decide) 2 1 (by decide) (of_decide_eq_true rfl) at_334 rfl ?_
        intro T157 h157 X157 e157 W157 Aq
        have A129 := A129.other W157 ne_a129_a154
        have A134 := A134.other W157 ne_a134_a154
        have A139 := A139.other W157 ne_a139_a154
        have A144 := A144.other W157 ne_a144_a154
        have A145 := A145.other W157 ne_a145_a154
        have Z157 : n0 ≤ h157.size := by rw [W157.size]; exact Z156
        have N157 := Fr.snoc X157 N156 z_a154
        have A154 : Arv Z h157 a154 k154 .double (4 : Int32) [(.double (FP.i2d i41)), (.double (FP.i2d i42)), (.double (FP.i2d i43))] (.double (0 : UInt64)) := Aq
        refine g_dup C X157 (pc' := 336) at_335 rfl rfl ?_
        refine g_iconst C X157 (pc' := 337) at_336 (v := (3 : Int32)) (by decide) rfl ?_
        refine g_aload C X157 (pc' := 339) at_337 rfl rfl rfl ?_
        refine g_iconst C X157 (pc' := 340) at_339 (v := (3 : Int32)) (by decide) rfl ?_
        refine g_daload C X157 (pc' := 341) e157 A139 (by decide) (by decide) 3 (by decide) rfl at_340 rfl ?_
        refine g_dastore C X157 (pc' := 342) e157 A154 (by decide) (by decide) 3 1 (by decide) (of_decide_eq_true rfl) at_341 rfl ?_
        intro T158 h158 X158 e158 W158 Aq
        have A129 := A129.other W158 ne_a129_a154
        have A134 := A134.other W158 ne_a134_a154
        have A139 := A139.other W158 ne_a139_a154
        have A144 := A144.other W158 ne_a144_a154
        have A145 := A145.other W158 ne_a145_a154
        have Z158 : n0 ≤ h158.size := by rw [W158.size]; exact Z157
        have N158 := Fr.snoc X158 N157 z_a154
        have A154 : Arv Z h158 a154 k154 .double (4 : Int32) [(.double (FP.i2d i41)), (.double (FP.i2d i42)), (.double (FP.i2d i43)), (.double (FP.i2d i44))] (.double (0 : UInt64)) := Aq
        refine g_astore C X158 (pc' := 344) at_342 rfl (l' := #[.val (.int p0), .val (.long p1), .second, .val (.long p2), .second, .val (.long p3), .second, .val (.long p4), .second, .val (.int (4 : Int32)), .val (.int i2), .val (.int i3), .val (.int zl), .val (.int i4), .val (.int zf), .val (.int tz2), .val (.int tz3), .val (.ref a129), .val (.ref a134), .val (.ref a139), .val (.ref a144), .val (.ref a145), .val (.ref a154), .unset, .unset]) rfl rfl ?_
        refine g_new C X158 (hw _ (List.mem_of_getElem? (i := 2) rfl)) (hw _ (List.mem_of_getElem? (i := 3) rfl)) (hw _ (List.mem_of_getElem? (i := 4) rfl)) e158 at_344 (by decide) (by decide) rfl ?_
        intro T159 h159 a159 g159 X159 e159 E159 A159 D159
        have ne_a129_a159 : a129 ≠ a159 := Nat.ne_of_lt (by rw [g159]; exact A129.lt)
        have ne_a134_a159 : a134 ≠ a159 := Nat.ne_of_lt (by rw [g159]; exact A134.lt)
        have ne_a139_a159 : a139 ≠ a159 := Nat.ne_of_lt (by rw [g159]; exact A139.lt)
        have ne_a144_a159 : a144 ≠ a159 := Nat.ne_of_lt (by rw [g159]; exact A144.lt)
        have ne_a145_a159 : a145 ≠ a159 := Nat.ne_of_lt (by rw [g159]; exact A145.lt)
        have ne_a154_a159 : a154 ≠ a159 := Nat.ne_of_lt (by rw [g159]; exact A154.lt)
        have z_a159 : n0 ≤ a159 := by rw [g159]; exact Z158
        have A129 := A129.ext E159
        have A134 := A134.ext E159
        have A139 := A139.ext E159
        have A144 := A144.ext E159
        have A145 := A145.ext E159
        have A154 := A154.ext E159
        have Z159 : n0 ≤ h159.size := Nat.le_trans Z158 E159.1
        refine g_dup C X159 (pc' := 348) at_347 rfl rfl ?_
        refine g_aload C X159 (pc' := 350) at_348 rfl rfl rfl ?_
        refine g_aload C X159 (pc' := 352) at_350 rfl rfl rfl ?_
        have F159_terms : ∃ w, Fld Z h159 a159 "com/example/kenning/kenning/retrieval/KMeans$Vector" "terms" "[I" w := ⟨_, D159 (Or.inr (hw _ (List.mem_of_getElem? (i := 17) rfl))) (ty := (.array .int)) (by decide)⟩
        have F159_weights : ∃ w, Fld Z h159 a159 "com/example/kenning/kenning/retrieval/KMeans$Vector" "weights" "[D" w := ⟨_, D159 (Or.inr (hw _ (List.mem_of_getElem? (i := 19) rfl))) (ty := (.array .double)) (by decide)⟩
        refine g_callI C X159 (c_init l Z a0 hw h159 n0 Z159 a159 z_a159 a144 a145 A159 F159_terms F159_weights) rfl (hw _ (List.mem_of_getElem? (i := 5) rfl)) (hw _ (List.mem_of_getElem? (i := 6) rfl)) (hw _ (List.mem_of_getElem? (i := 4) rfl)) (hw _ (List.mem_of_getElem? (i := 7) rfl)) (by decide) e159 at_352 rfl pdI a159 [(.ref a144), (.ref a145)] [(.ref a159)] rfl rfl rfl 1 rfl (by decide) (by decide) (by decide) (by decide) rfl ?_
        rintro _ T160 L160 X160 ⟨rfl, M160, K160, Aq, Ft160, Fw160⟩
        have A129 := A129.keep K160 (ninS ne_a129_a159 nin0)
        have A134 := A134.keep K160 (ninS ne_a134_a159 nin0)
        have A139 := A139.keep K160 (ninS ne_a139_a159 nin0)
        have A144 := A144.keep K160 (ninS ne_a144_a159 nin0)
        have A145 := A145.keep K160 (ninS ne_a145_a159 nin0)
        have A154 := A154.keep K160 (ninS ne_a154_a159 nin0)
        have A159 := A159.keep K160
        have Z160 : n0 ≤ T160.heap.size := Nat.le_trans Z159 K160.1
        have N160 := Fr.app N158 M160
        obtain ⟨h160, e160⟩ : ∃ z, T160.heap = z := ⟨_, rfl⟩
        rw [e160] at A129 A134 A139 A144 A145 A154 A159 Ft160 Fw160 Z160
        show Go p.tables e below _ T160 (mkF m 355 #[.val (.int p0), .val (.long p1), .second, .val (.long p2), .second, .val (.long p3), .second, .val (.long p4), .second, .val (.int (4 : Int32)), .val (.int i2), .val (.int i3), .val (.int zl), .val (.int i4), .val (.int zf), .val (.int tz2), .val (.int tz3), .val (.ref a129), .val (.ref a134), .val (.ref a139), .val (.ref a144), .val (.ref a145), .val (.ref a154), .unset, .unset] [(.ref a159)])
        refine g_aload C X160 (pc' := 357) at_355 rfl rfl rfl ?_
        refine g_callV C X160 (c_add4 l Z a0 hw h160 n0 Z160 a159 a154 a144 a145 z_a154 (Ne.symm ne_a154_a159) ne_a144_a154 ne_a145_a154 k144 k145 k154 i2 i3 tz2 tz3 i37.toInt i38.toInt i39.toInt i40.toInt hT (FP.i2d i37) (i2d_D i37) rg_i37 (FP.i2d i38) (i2d_D i38) rg_i38 (FP.i2d i39) (i2d_D i39) rg_i39 (FP.i2d i40) (i2d_D i40) rg_i40 (FP.i2d i41) _ (i2d_D i41) rg_i41 (FP.i2d i42) _ (i2d_D i42) rg_i42 (FP.i2d i43) _ (i2d_D i43) rg_i43 (FP.i2d i44) _ (i2d_D i44) rg_i44 Ft160 Fw160 A144 A145 A154) (hw _ (List.mem_of_getElem? (i := 20) rfl)) (hw _ (List.mem_of_getElem? (i := 21) rfl)) (hw _ (List.mem_of_getElem? (i := 23) rfl)) (hw _ (List.mem_of_getElem? (i := 22) rfl)) (hw _ (List.mem_of_getElem? (i := 4) rfl)) (hw _ (List.mem_of_getElem? (i := 24) rfl)) (by decide) e160 A159 at_357 rfl pdD [(.ref a154)] [] rfl rfl rfl 0 rfl (by decide) (by decide) (by decide) (by decide) rfl ?_
        rintro _ T161 L161 X161 ⟨rfl, M161, K161, z0, z1, z2, z3', b0, b1, b2, b3, Dz0, Dz1, Dz2, Dz3, Pb0, Pb1, Pb2, Pb3, V161⟩
        have A129 := A129.keep K161 (ninS ne_a129_a154 nin0)
        have A134 := A134.keep K161 (ninS ne_a134_a154 nin0)
        have A139 := A139.keep K161 (ninS ne_a139_a154 nin0)
        have A144 := A144.keep K161 (ninS ne_a144_a154 nin0)
        have A145 := A145.keep K161 (ninS ne_a145_a154 nin0)
        have A159 := A159.keep K161
        have Ft160 := Ft160.keep K161 (ninS (Ne.symm ne_a154_a159) nin0)
        have Fw160 := Fw160.keep K161 (ninS (Ne.symm ne_a154_a159) nin0)
        have Z161 : n0 ≤ T161.heap.size := Nat.le_trans Z160 K161.1
        have N161 := Fr.app N160 M161
        obtain ⟨h161, e161⟩ : ∃ z, T161.heap = z := ⟨_, rfl⟩
        rw [e161] at A129 A134 A139 A144 A145 A159 Ft160 Fw160 V161 Z161
        show Go p.tables e below _ T161 (mkF m 360 #[.val (.int p0), .val (.long p1), .second, .val (.long p2), .second, .val (.long p3), .second, .val (.long p4), .second, .val (.int (4 : Int32)), .val (.int i2), .val (.int i3), .val (.int zl), .val (.int i4), .val (.int zf), .val (.int tz2), .val (.int tz3), .val (.ref a129), .val (.ref a134), .val (.ref a139), .val (.ref a144), .val (.ref a145), .val (.ref a154), .unset, .unset] [])
        refine g_aload C X161 (pc' := 362) at_360 rfl rfl rfl ?_
        refine g_len C X161 (pc' := 363) e161 V161 at_362 rfl ?_
        refine g_iconst C X161 (pc' := 364) at_363 (v := (4 : Int32)) (by decide) rfl ?_
        refine g_icmpN C X161 at_364 (by decide) rfl ?_
        refine g_aload C X161 (pc' := 369) at_367 rfl rfl rfl ?_
        refine g_iconst C X161 (pc' := 370) at_369 (v := (0 : Int32)) (by decide) rfl ?_
        refine g_daload C X161 (pc' := 371) e161 V161 (by decide) (by decide) 0 (by decide) rfl at_370 rfl ?_
        refine g_iconst C X161 (pc' := 372) at_371 (v := (0 : Int32)) (by decide) rfl ?_
        refine g_iload C X161 (pc' := 374) at_372 rfl rfl ?_
        refine g_aload C X161 (pc' := 376) at_374 rfl rfl rfl ?_
        refine g_aload C X161 (pc' := 378) at_376 rfl rfl rfl ?_
        refine g_aload C X161 (pc' := 380) at_378 rfl rfl rfl ?_
        refine g_callS C X161 (c_exp4 l Z a0 hw h161 a129 a134 a139 k129 k134 k139 i2 i3 tz2 tz3 i37.toInt i38.toInt i39.toInt i40.toInt hT (FP.i2d i37) (i2d_D i37) rg_i37 (FP.i2d i38) (i2d_D i38) rg_i38 (FP.i2d i39) (i2d_D i39) rg_i39 (FP.i2d i40) (i2d_D i40) rg_i40 (FP.i2d i41) (FP.i2d i42) (FP.i2d i43) (FP.i2d i44) (0 : Int32) (by decide) (FP.i2d i41) _ (i2d_D i41) rg_i41 rfl A129 A134 A139) (hw _ (List.mem_of_getElem? (i := 25) rfl)) (hw _ (List.mem_of_getElem? (i := 26) rfl)) (hw _ (List.mem_of_getElem? (i := 27) rfl)) (hw _ (List.mem_of_getElem? (i := 28) rfl)) (by decide) e161 at_380 rfl pdE [(.int (0 : Int32)), (.int (4 : Int32)), (.ref a129), (.ref a134), (.ref a139)] [(.double z0)] rfl rfl rfl 2 rfl (by decide) (by decide) (by decide) (by decide) rfl ?_
        rintro _ T162 _ X162 ⟨r162, A_162, rfl, D_r162, P_162, rfl, e162⟩
        rw [List.append_nil] at X162
        have ea : A_162 = b0 := own_uniq P_162 Pb0
        rw [ea] at D_r162
        show Go p.tables e below _ T162 (mkF m 383 #[.val (.int p0), .val (.long p1), .second, .val (.long p2), .second, .val (.long p3), .second, .val (.long p4), .second, .val (.int (4 : Int32)), .val (.int i2), .val (.int i3), .val (.int zl), .val (.int i4), .val (.int zf), .val (.int tz2), .val (.int tz3), .val (.ref a129), .val (.ref a134), .val (.ref a139), .val (.ref a144), .val (.ref a145), .val (.ref a154), .unset, .unset] [(.double r162), (.double z0)])
        refine g_dcmpV C X162 at_383 (v := (0 : Int32)) ((dcmp_cmpI Dz0 D_r162 _).trans (cmpI_self _)) rfl ?_
        refine g_ifN C X162 at_384 (by decide) rfl ?_
        refine g_aload C X162 (pc' := 389) at_387 rfl rfl rfl ?_
        refine g_iconst C X162 (pc' := 390) at_389 (v := (1 : Int32)) (by decide) rfl ?_
        refine g_daload C X162 (pc' := 391) e162 V161 (by decide) (by decide) 1 (by decide) rfl at_390 rfl ?_
        refine g_iconst C X162 (pc' := 392) at_391 (v := (1 : Int32)) (by decide) rfl ?_
        refine g_iload C X162 (pc' := 394) at_392 rfl rfl ?_
        refine g_aload C X162 (pc' := 396) at_394 rfl rfl rfl ?_
        refine g_aload C X162 (pc' := 398) at_396 rfl rfl rfl ?_
        refine g_aload C X162 (pc' := 400) at_398 rfl rfl rfl ?_
        refine g_callS C X162 (c_exp4 l Z a0 hw h161 a129 a134 a139 k129 k134 k139 i2 i3 tz2 tz3 i37.toInt i38.toInt i39.toInt i40.toInt hT (FP.i2d i37) (i2d_D i37) rg_i37 (FP.i2d i38) (i2d_D i38) rg_i38 (FP.i2d i39) (i2d_D i39) rg_i39 (FP.i2d i40) (i2d_D i40) rg_i40 (FP.i2d i41) (FP.i2d i42) (FP.i2d i43) (FP.i2d i44) (1 : Int32) (by decide) (FP.i2d i42) _ (i2d_D i42) rg_i42 rfl A129 A134 A139) (hw _ (List.mem_of_getElem? (i := 25) rfl)) (hw _ (List.mem_of_getElem? (i := 26) rfl)) (hw _ (List.mem_of_getElem? (i := 27) rfl)) (hw _ (List.mem_of_getElem? (i := 28) rfl)) (by decide) e162 at_400 rfl pdE [(.int (1 : Int32)), (.int (4 : Int32)), (.ref a129), (.ref a134), (.ref a139)] [(.double z1)] rfl rfl rfl 2 rfl (by decide) (by decide) (by decide) (by decide) rfl ?_
        rintro _ T163 _ X163 ⟨r163, A_163, rfl, D_r163, P_163, rfl, e163⟩
        rw [List.append_nil] at X163
        have ea : A_163 = b1 := own_uniq P_163 Pb1
        rw [ea] at D_r163
        show Go p.tables e below _ T163 (mkF m 403 #[.val (.int p0), .val (.long p1), .second, .val (.long p2), .second, .val (.long p3), .second, .val (.long p4), .second, .val (.int (4 : Int32)), .val (.int i2), .val (.int i3), .val (.int zl), .val (.int i4), .val (.int zf), .val (.int tz2), .val (.int tz3), .val (.ref a129), .val (.ref a134), .val (.ref a139), .val (.ref a144), .val (.ref a145), .val (.ref a154), .unset, .unset] [(.double r163), (.double z1)])
        refine g_dcmpV C X163 at_403 (v := (0 : Int32)) ((dcmp_cmpI Dz1 D_r163 _).trans (cmpI_self _)) rfl ?_
        refine g_ifN C X163 at_404 (by decide) rfl ?_
        refine g_aload C X163 (pc' := 409) at_407 rfl rfl rfl ?_
        refine g_iconst C X163 (pc' := 410) at_409 (v := (2 : Int32)) (by decide) rfl ?_
        refine g_daload C X163 (pc' := 411) e163 V161 (by decide) (by decide) 2 (by decide) rfl at_410 rfl ?_
        refine g_iconst C X163 (pc' := 412) at_411 (v := (2 : Int32)) (by decide) rfl ?_
        refine g_iload C X163 (pc' := 414) at_412 rfl rfl ?_
        refine g_aload C X163 (pc' := 416) at_414 rfl rfl rfl ?_
        refine g_aload C X163 (pc' := 418) at_416 rfl rfl rfl ?_
        refine g_aload C X163 (pc' := 420) at_418 rfl rfl rfl ?_
        refine g_callS C X163 (c_exp4 l Z a0 hw h161 a129 a134 a139 k129 k134 k139 i2 i3 tz2 tz3 i37.toInt i38.toInt i39.toInt i40.toInt hT (FP.i2d i37) (i2d_D i37) rg_i37 (FP.i2d i38) (i2d_D i38) rg_i38 (FP.i2d i39) (i2d_D i39) rg_i39 (FP.i2d i40) (i2d_D i40) rg_i40 (FP.i2d i41) (FP.i2d i42) (FP.i2d i43) (FP.i2d i44) (2 : Int32) (by decide) (FP.i2d i43) _ (i2d_D i43) rg_i43 rfl A129 A134 A139) (hw _ (List.mem_of_getElem? (i := 25) rfl)) (hw _ (List.mem_of_getElem? (i := 26) rfl)) (hw _ (List.mem_of_getElem? (i := 27) rfl)) (hw _ (List.mem_of_getElem? (i := 28) rfl)) (by decide) e163 at_420 rfl pdE [(.int (2 : Int32)), (.int (4 : Int32)), (.ref a129), (.ref a134), (.ref a139)] [(.double z2)] rfl rfl rfl 2 rfl (by decide) (by decide) (by decide) (by decide) rfl ?_
        rintro _ T164 _ X164 ⟨r164, A_164, rfl, D_r164, P_164, rfl, e164⟩
        rw [List.append_nil] at X164
        have ea : A_164 = b2 := own_uniq P_164 Pb2
        rw [ea] at D_r164
        show Go p.tables e below _ T164 (mkF m 423 #[.val (.int p0), .val (.long p1), .second, .val (.long p2), .second, .val (.long p3), .second, .val (.long p4), .second, .val (.int (4 : Int32)), .val (.int i2), .val (.int i3), .val (.int zl), .val (.int i4), .val (.int zf), .val (.int tz2), .val (.int tz3), .val (.ref a129), .val (.ref a134), .val (.ref a139), .val (.ref a144), .val (.ref a145), .val (.ref a154), .unset, .unset] [(.double r164), (.double z2)])
        refine g_dcmpV C X164 at_423 (v := (0 : Int32)) ((dcmp_cmpI Dz2 D_r164 _).trans (cmpI_self _)) rfl ?_
        refine g_ifN C X164 at_424 (by decide) rfl ?_
        refine g_aload C X164 (pc' := 429) at_427 rfl rfl rfl ?_
        refine g_iconst C X164 (pc' := 430) at_429 (v := (3 : Int32)) (by decide) rfl ?_
        refine g_daload C X164 (pc' := 431) e164 V161 (by decide) (by decide) 3 (by decide) rfl at_430 rfl ?_
        refine g_iconst C X164 (pc' := 432) at_431 (v := (3 : Int32)) (by decide) rfl ?_
        refine g_iload C X164 (pc' := 434) at_432 rfl rfl ?_
        refine g_aload C X164 (pc' := 436) at_434 rfl rfl rfl ?_
        refine g_aload C X164 (pc' := 438) at_436 rfl rfl rfl ?_
        refine g_aload C X164 (pc' := 440) at_438 rfl rfl rfl ?_
        refine g_callS C X164 (c_exp4 l Z a0 hw h161 a129 a134 a139 k129 k134 k139 i2 i3 tz2 tz3 i37.toInt i38.toInt i39.toInt i40.toInt hT (FP.i2d i37) (i2d_D i37) rg_i37 (FP.i2d i38) (i2d_D i38) rg_i38 (FP.i2d i39) (i2d_D i39) rg_i39 (FP.i2d i40) (i2d_D i40) rg_i40 (FP.i2d i41) (FP.i2d i42) (FP.i2d i43) (FP.i2d i44) (3 : Int32) (by decide) (FP.i2d i44) _ (i2d_D i44) rg_i44 rfl A129 A134 A139) (hw _ (List.mem_of_getElem? (i := 25) rfl)) (hw _ (List.mem_of_getElem? (i := 26) rfl)) (hw _ (List.mem_of_getElem? (i := 27) rfl)) (hw _ (List.mem_of_getElem? (i := 28) rfl)) (by decide) e164 at_440 rfl pdE [(.int (3 : Int32)), (.int (4 : Int32)), (.ref a129), (.ref a134), (.ref a139)] [(.double z3')] rfl rfl rfl 2 rfl (by decide) (by decide) (by decide) (by decide) rfl ?_
        rintro _ T165 _ X165 ⟨r165, A_165, rfl, D_r165, P_165, rfl, e165⟩
        rw [List.append_nil] at X165
        have ea : A_165 = b3 := own_uniq P_165 Pb3
        rw [ea] at D_r165
        show Go p.tables e below _ T165 (mkF m 443 #[.val (.int p0), .val (.long p1), .second, .val (.long p2), .second, .val (.long p3), .second, .val (.long p4), .second, .val (.int (4 : Int32)), .val (.int i2), .val (.int i3), .val (.int zl), .val (.int i4), .val (.int zf), .val (.int tz2), .val (.int tz3), .val (.ref a129), .val (.ref a134), .val (.ref a139), .val (.ref a144), .val (.ref a145), .val (.ref a154), .unset, .unset] [(.double r165), (.double z3')])
        refine g_dcmpV C X165 at_443 (v := (0 : Int32)) ((dcmp_cmpI Dz3 D_r165 _).trans (cmpI_self _)) rfl ?_
        refine g_ifN C X165 at_444 (by decide) rfl ?_
        refine g_iconst C X165 (pc' := 448) at_447 (v := (1 : Int32)) (by decide) rfl ?_
        refine g_goto C X165 at_448 (pc' := 452) (by decide) (by decide) ?_
        refine g_istore C X165 (pc' := 454) at_452 (x := (1 : Int32)) rfl (l' := #[.val (.int p0), .val (.long p1), .second, .val (.long p2), .second, .val (.long p3), .second, .val (.long p4), .second, .val (.int (4 : Int32)), .val (.int i2), .val (.int i3), .val (.int zl), .val (.int i4), .val (.int zf), .val (.int tz2), .val (.int tz3), .val (.ref a129), .val (.ref a134), .val (.ref a139), .val (.ref a144), .val (.ref a145), .val (.ref a154), .val (.int (1 : Int32)), .unset]) rfl rfl ?_
        refine g_aload C X165 (pc' := 456) at_454 rfl rfl rfl ?_
        refine g_len C X165 (pc' := 457) e165 A144 at_456 rfl ?_
        refine g_iload C X165 (pc' := 459) at_457 rfl rfl ?_
        refine g_icmpN C X165 at_459 (by decide) rfl ?_
        refine g_aload C X165 (pc' := 464) at_462 rfl rfl rfl ?_
        refine g_len C X165 (pc' := 465) e165 A145 at_464 rfl ?_
        refine g_iload C X165 (pc' := 467) at_465 rfl rfl ?_
        refine g_icmpN C X165 at_467 (by decide) rfl ?_
        refine g_iload C X165 (pc' := 472) at_470 rfl rfl ?_
        refine g_iconst C X165 (pc' := 473) at_472 (v := (1 : Int32)) (by decide) rfl ?_
        refine g_icmpN C X165 at_473 (by decide) rfl ?_
        refine g_aload C X165 (pc' := 478) at_476 rfl rfl rfl ?_
        refine g_iconst C X165 (pc' := 479) at_478 (v := (0 : Int32)) (by decide) rfl ?_
        refine g_iaload C X165 (pc' := 480) e165 A144 (by decide) (by decide) 0 (by decide) rfl at_479 rfl ?_
        refine g_iload C X165 (pc' := 482) at_480 rfl rfl ?_
        refine g_icmp C X165 at_482 (pc' := 582) (pc'' := 485) (by decide) (by decide) rfl (fun c482 => ?_) (fun c482 => ?_)
        · have c482 : ¬ (i2.toInt = i2.toInt) := c482
          refine g_iconst C X165 (pc' := 583) at_582 (v := (0 : Int32)) (by decide) rfl ?_
          refine g_istore C X165 (pc' := 585) at_583 (x := (0 : Int32)) rfl (l' := #[.val (.int p0), .val (.long p1), .second, .val (.long p2), .second, .val (.long p3), .second, .val (.long p4), .second, .val (.int (4 : Int32)), .val (.int i2), .val (.int i3), .val (.int zl), .val (.int i4), .val (.int zf), .val (.int tz2), .val (.int tz3), .val (.ref a129), .val (.ref a134), .val (.ref a139), .val (.ref a144), .val (.ref a145), .val (.ref a154), .val (.int (1 : Int32)), .val (.int (0 : Int32))]) rfl rfl ?_
          refine g_iload C X165 (pc' := 587) at_585 rfl rfl ?_
          refine g_ifN C X165 at_587 (by decide) rfl ?_
          refine g_iload C X165 (pc' := 592) at_590 rfl rfl ?_
          refine g_ifY C X165 at_592 (pc' := 599) (by decide) (by decide) (by decide) ?_
          refine g_iconst C X165 (pc' := 600) at_599 (v := (0 : Int32)) (by decide) rfl ?_
          exfalso; omega
        · have c482 : i2.toInt = i2.toInt := Decidable.not_not.mp c482
          refine g_aload C X165 (pc' := 487) at_485 rfl rfl rfl ?_
          refine g_iconst C X165 (pc' := 488) at_487 (v := (0 : Int32)) (by decide) rfl ?_
          refine g_daload C X165 (pc' := 489) e165 A145 (by decide) (by decide) 0 (by decide) rfl at_488 rfl ?_
          refine g_aload C X165 (pc' := 491) at_489 rfl rfl rfl ?_
          refine g_iconst C X165 (pc' := 492) at_491 (v := (0 : Int32)) (by decide) rfl ?_
          refine g_daload C X165 (pc' := 493) e165 A134 (by decide) (by decide) 0 (by decide) rfl at_492 rfl ?_
          refine g_dcmpV C X165 at_493 (v := (0 : Int32)) ((dcmp_cmpI (i2d_D i37) (i2d_D i37) _).trans (cmpI_self _)) rfl ?_
          refine g_ifN C X165 at_494 (by decide) rfl ?_
          refine g_iload C X165 (pc' := 499) at_497 rfl rfl ?_
          refine g_iconst C X165 (pc' := 500) at_499 (v := (2 : Int32)) (by decide) rfl ?_
          refine g_icmpN C X165 at_500 (by decide) rfl ?_
          refine g_aload C X165 (pc' := 505) at_503 rfl rfl rfl ?_
          refine g_iconst C X165 (pc' := 506) at_505 (v := (1 : Int32)) (by decide) rfl ?_
          refine g_iaload C X165 (pc' := 507) e165 A144 (by decide) (by decide) 1 (by decide) rfl at_506 rfl ?_
          refine g_iload C X165 (pc' := 509) at_507 rfl rfl ?_
          refine g_icmp C X165 at_509 (pc' := 582) (pc'' := 512) (by decide) (by decide) rfl (fun c509 => ?_) (fun c509 => ?_)
          · have c509 : ¬ (i3.toInt = i3.toInt) := c509
            refine g_iconst C X165 (pc' := 583) at_582 (v := (0 : Int32)) (by decide) rfl ?_
            refine g_istore C X165 (pc' := 585) at_583 (x := (0 : Int32)) rfl (l' := #[.val (.int p0), .val (.long p1), .second, .val (.long p2), .second, .val (.long p3), .second, .val (.long p4), .second, .val (.int (4 : Int32)), .val (.int i2), .val (.int i3), .val (.int zl), .val (.int i4), .val (.int zf), .val (.int tz2), .val (.int tz3), .val (.ref a129), .val (.ref a134), .val (.ref a139), .val (.ref a144), .val (.ref a145), .val (.ref a154), .val (.int (1 : Int32)), .val (.int (0 : Int32))]) rfl rfl ?_
            refine g_iload C X165 (pc' := 587) at_585 rfl rfl ?_
            refine g_ifN C X165 at_587 (by decide) rfl ?_
            refine g_iload C X165 (pc' := 592) at_590 rfl rfl ?_
            refine g_ifY C X165 at_592 (pc' := 599) (by decide) (by decide) (by decide) ?_
            refine g_iconst C X165 (pc' := 600) at_599 (v := (0 : Int32)) (by decide) rfl ?_
            exfalso; omega
          · have c509 : i3.toInt = i3.toInt := Decidable.not_not.mp c509
            refine g_aload C X165 (pc' := 514) at_512 rfl rfl rfl ?_
            refine g_iconst C X165 (pc' := 515) at_514 (v := (1 : Int32)) (by decide) rfl ?_
            refine g_daload C X165 (pc' := 516) e165 A145 (by decide) (by decide) 1 (by decide) rfl at_515 rfl ?_
            refine g_aload C X165 (pc' := 518) at_516 rfl rfl rfl ?_
            refine g_iconst C X165 (pc' := 519) at_518 (v := (1 : Int32)) (by decide) rfl ?_
            refine g_daload C X165 (pc' := 520) e165 A134 (by decide) (by decide) 1 (by decide) rfl at_519 rfl ?_
            refine g_dcmpV C X165 at_520 (v := (0 : Int32)) ((dcmp_cmpI (i2d_D i38) (i2d_D i38) _).trans (cmpI_self _)) rfl ?_
            refine g_ifN C X165 at_521 (by decide) rfl ?_
            refine g_iload C X165 (pc' := 526) at_524 rfl rfl ?_
            refine g_iconst C X165 (pc' := 527) at_526 (v := (3 : Int32)) (by decide) rfl ?_
            refine g_icmpN C X165 at_527 (by decide) rfl ?_
            refine g_aload C X165 (pc' := 532) at_530 rfl rfl rfl ?_
            refine g_iconst C X165 (pc' := 533) at_532 (v := (2 : Int32)) (by decide) rfl ?_
            refine g_iaload C X165 (pc' := 534) e165 A144 (by decide) (by decide) 2 (by decide) rfl at_533 rfl ?_
            refine g_iload C X165 (pc' := 536) at_534 rfl rfl ?_
            refine g_icmp C X165 at_536 (pc' := 582) (pc'' := 539) (by decide) (by decide) rfl (fun c536 => ?_) (fun c536 => ?_)
            · have c536 : ¬ (tz2.toInt = tz2.toInt) := c536
              refine g_iconst C X165 (pc' := 583) at_582 (v := (0 : Int32)) (by decide) rfl ?_
              refine g_istore C X165 (pc' := 585) at_583 (x := (0 : Int32)) rfl (l' := #[.val (.int p0), .val (.long p1), .second, .val (.long p2), .second, .val (.long p3), .second, .val (.long p4), .second, .val (.int (4 : Int32)), .val (.int i2), .val (.int i3), .val (.int zl), .val (.int i4), .val (.int zf), .val (.int tz2), .val (.int tz3), .val (.ref a129), .val (.ref a134), .val (.ref a139), .val (.ref a144), .val (.ref a145), .val (.ref a154), .val (.int (1 : Int32)), .val (.int (0 : Int32))]) rfl rfl ?_
              refine g_iload C X165 (pc' := 587) at_585 rfl rfl ?_
              refine g_ifN C X165 at_587 (by decide) rfl ?_
              refine g_iload C X165 (pc' := 592) at_590 rfl rfl ?_
              refine g_ifY C X165 at_592 (pc' := 599) (by decide) (by decide) (by decide) ?_
              refine g_iconst C X165 (pc' := 600) at_599 (v := (0 : Int32)) (by decide) rfl ?_
              exfalso; omega
            · have c536 : tz2.toInt = tz2.toInt := Decidable.not_not.mp c536
              refine g_aload C X165 (pc' := 541) at_539 rfl rfl rfl ?_
              refine g_iconst C X165 (pc' := 542) at_541 (v := (2 : Int32)) (by decide) rfl ?_
              refine g_daload C X165 (pc' := 543) e165 A145 (by decide) (by decide) 2 (by decide) rfl at_542 rfl ?_
              refine g_aload C X165 (pc' := 545) at_543 rfl rfl rfl ?_
              refine g_iconst C X165 (pc' := 546) at_545 (v := (2 : Int32)) (by decide) rfl ?_
              refine g_daload C X165 (pc' := 547) e165 A134 (by decide) (by decide) 2 (by decide) rfl at_546 rfl ?_
              refine g_dcmpV C X165 at_547 (v := (0 : Int32)) ((dcmp_cmpI (i2d_D i39) (i2d_D i39) _).trans (cmpI_self _)) rfl ?_
              refine g_ifN C X165 at_548 (by decide) rfl ?_
              refine g_iload C X165 (pc' := 553) at_551 rfl rfl ?_
              refine g_iconst C X165 (pc' := 554) at_553 (v := (4 : Int32)) (by decide) rfl ?_
              refine g_icmpN C X165 at_554 (by decide) rfl ?_
              refine g_aload C X165 (pc' := 559) at_557 rfl rfl rfl ?_
              refine g_iconst C X165 (pc' := 560) at_559 (v := (3 : Int32)) (by decide) rfl ?_
              refine g_iaload C X165 (pc' := 561) e165 A144 (by decide) (by decide) 3 (by decide) rfl at_560 rfl ?_
              refine g_iload C X165 (pc' := 563) at_561 rfl rfl ?_
              refine g_icmp C X165 at_563 (pc' := 582) (pc'' := 566) (by decide) (by decide) rfl (fun c563 => ?_) (fun c563 => ?_)
              · have c563 : ¬ (tz3.toInt = tz3.toInt) := c563
                refine g_iconst C X165 (pc' := 583) at_582 (v := (0 : Int32)) (by decide) rfl ?_
                refine g_istore C X165 (pc' := 585) at_583 (x := (0 : Int32)) rfl (l' := #[.val (.int p0), .val (.long p1), .second, .val (.long p2), .second, .val (.long p3), .second, .val (.long p4), .second, .val (.int (4 : Int32)), .val (.int i2), .val (.int i3), .val (.int zl), .val (.int i4), .val (.int zf), .val (.int tz2), .val (.int tz3), .val (.ref a129), .val (.ref a134), .val (.ref a139), .val (.ref a144), .val (.ref a145), .val (.ref a154), .val (.int (1 : Int32)), .val (.int (0 : Int32))]) rfl rfl ?_
                refine g_iload C X165 (pc' := 587) at_585 rfl rfl ?_
                refine g_ifN C X165 at_587 (by decide) rfl ?_
                refine g_iload C X165 (pc' := 592) at_590 rfl rfl ?_
                refine g_ifY C X165 at_592 (pc' := 599) (by decide) (by decide) (by decide) ?_
                refine g_iconst C X165 (pc' := 600) at_599 (v := (0 : Int32)) (by decide) rfl ?_
                exfalso; omega
              · have c563 : tz3.toInt = tz3.toInt := Decidable.not_not.mp c563
                refine g_aload C X165 (pc' := 568) at_566 rfl rfl rfl ?_
                refine g_iconst C X165 (pc' := 569) at_568 (v := (3 : Int32)) (by decide) rfl ?_
                refine g_daload C X165 (pc' := 570) e165 A145 (by decide) (by decide) 3 (by decide) rfl at_569 rfl ?_
                refine g_aload C X165 (pc' := 572) at_570 rfl rfl rfl ?_
                refine g_iconst C X165 (pc' := 573) at_572 (v := (3 : Int32)) (by decide) rfl ?_
                refine g_daload C X165 (pc' := 574) e165 A134 (by decide) (by decide) 3 (by decide) rfl at_573 rfl ?_
                refine g_dcmpV C X165 at_574 (v := (0 : Int32)) ((dcmp_cmpI (i2d_D i40) (i2d_D i40) _).trans (cmpI_self _)) rfl ?_
                refine g_ifN C X165 at_575 (by decide) rfl ?_
                refine g_iconst C X165 (pc' := 579) at_578 (v := (1 : Int32)) (by decide) rfl ?_
                refine g_goto C X165 at_579 (pc' := 583) (by decide) (by decide) ?_
                refine g_istore C X165 (pc' := 585) at_583 (x := (1 : Int32)) rfl (l' := #[.val (.int p0), .val (.long p1), .second, .val (.long p2), .second, .val (.long p3), .second, .val (.long p4), .second, .val (.int (4 : Int32)), .val (.int i2), .val (.int i3), .val (.int zl), .val (.int i4), .val (.int zf), .val (.int tz2), .val (.int tz3), .val (.ref a129), .val (.ref a134), .val (.ref a139), .val (.ref a144), .val (.ref a145), .val (.ref a154), .val (.int (1 : Int32)), .val (.int (1 : Int32))]) rfl rfl ?_
                refine g_iload C X165 (pc' := 587) at_585 rfl rfl ?_
                refine g_ifN C X165 at_587 (by decide) rfl ?_
                refine g_iload C X165 (pc' := 592) at_590 rfl rfl ?_
                refine g_ifN C X165 at_592 (by decide) rfl ?_
                refine g_iconst C X165 (pc' := 596) at_595 (v := (1 : Int32)) (by decide) rfl ?_
                refine g_goto C X165 at_596 (pc' := 600) (by decide) (by decide) ?_
                exact g_zreturn C X165 at_600 (w := 1) (by decide) ⟨rfl, N161⟩ (by decide) (by decide)
    refine g_if C X0 at_83 (pc' := 90) (pc'' := 86) (by decide) (by decide) rfl (fun c83 => ?_) (fun c83 => ?_)
    · have c83 : ((XT.ushr p0 (7 : Int32)) &&& (1 : Int32)).toInt = 0 := c83
      refine g_iconst C X0 (pc' := 91) at_90 (v := (0 : Int32)) (by decide) rfl ?_
      refine g_istore C X0 (pc' := 93) at_91 (x := (0 : Int32)) rfl (l' := #[.val (.int p0), .val (.long p1), .second, .val (.long p2), .second, .val (.long p3), .second, .val (.long p4), .second, .val (.int i1), .val (.int i2), .val (.int i3), .val (.int zl), .val (.int i4), .val (.int (0 : Int32)), .unset, .unset, .unset, .unset, .unset, .unset, .unset, .unset, .unset, .unset]) rfl rfl ?_
      refine g_iload C X0 (pc' := 95) at_93 rfl rfl ?_
      refine g_ifY C X0 at_95 (pc' := 103) (by decide) (by decide) (by decide) ?_
      refine g_iload C X0 (pc' := 105) at_103 rfl rfl ?_
      refine g_istore C X0 (pc' := 107) at_105 (x := zl) rfl (l' := #[.val (.int p0), .val (.long p1), .second, .val (.long p2), .second, .val (.long p3), .second, .val (.long p4), .second, .val (.int i1), .val (.int i2), .val (.int i3), .val (.int zl), .val (.int i4), .val (.int (0 : Int32)), .val (.int zl), .unset, .unset, .unset, .unset, .unset, .unset, .unset, .unset, .unset]) rfl rfl ?_
      refine g_iload C X0 (pc' := 109) at_107 rfl rfl ?_
      refine g_ifY C X0 at_109 (pc' := 117) (by decide) (by decide) (by decide) ?_
      refine g_iload C X0 (pc' := 119) at_117 rfl rfl ?_
      refine g_istore C X0 (pc' := 121) at_119 (x := i4) rfl (l' := #[.val (.int p0), .val (.long p1), .second, .val (.long p2), .second, .val (.long p3), .second, .val (.long p4), .second, .val (.int i1), .val (.int i2), .val (.int i3), .val (.int zl), .val (.int i4), .val (.int (0 : Int32)), .val (.int zl), .val (.int i4), .unset, .unset, .unset, .unset, .unset, .unset, .unset, .unset]) rfl rfl ?_
      exact J121 _ _ _ bf.2
    · have c83 : ¬ (((XT.ushr p0 (7 : Int32)) &&& (1 : Int32)).toInt = 0) := c83
      refine g_iconst C X0 (pc' := 87) at_86 (v := (1 : Int32)) (by decide) rfl ?_
      refine g_goto C X0 at_87 (pc' := 91) (by decide) (by decide) ?_
      refine g_istore C X0 (pc' := 93) at_91 (x := (1 : Int32)) rfl (l' := #[.val (.int p0), .val (.long p1), .second, .val (.long p2), .second, .val (.long p3), .second, .val (.long p4), .second, .val (.int i1), .val (.int i2), .val (.int i3), .val (.int zl), .val (.int i4), .val (.int (1 : Int32)), .unset, .unset, .unset, .unset, .unset, .unset, .unset, .unset, .unset, .unset]) rfl rfl ?_
      refine g_iload C X0 (pc' := 95) at_93 rfl rfl ?_
      refine g_ifN C X0 at_95 (by decide) rfl ?_
      refine g_iload C X0 (pc' := 100) at_98 rfl rfl ?_
      refine g_goto C X0 at_100 (pc' := 105) (by decide) (by decide) ?_
      refine g_istore C X0 (pc' := 107) at_105 (x := i4) rfl (l' := #[.val (.int p0), .val (.long p1), .second, .val (.long p2), .second, .val (.long p3), .second, .val (.long p4), .second, .val (.int i1), .val (.int i2), .val (.int i3), .val (.int zl), .val (.int i4), .val (.int (1 : Int32)), .val (.int i4), .unset, .unset, .unset, .unset, .unset, .unset, .unset, .unset, .unset]) rfl rfl ?_
      refine g_iload C X0 (pc' := 109) at_107 rfl rfl ?_
      refine g_ifN C X0 at_109 (by decide) rfl ?_
      refine g_iload C X0 (pc' := 114) at_112 rfl rfl ?_
      refine g_goto C X0 at_114 (pc' := 119) (by decide) (by decide) ?_
      refine g_istore C X0 (pc' := 121) at_119 (x := zl) rfl (l' := #[.val (.int p0), .val (.long p1), .second, .val (.long p2), .second, .val (.long p3), .second, .val (.long p4), .second, .val (.int i1), .val (.int i2), .val (.int i3), .val (.int zl), .val (.int i4), .val (.int (1 : Int32)), .val (.int i4), .val (.int zl), .unset, .unset, .unset, .unset, .unset, .unset, .unset, .unset]) rfl rfl ?_
      exact J121 _ _ _ bf.1
  refine g_iload C X0 (pc' := 33) at_31 rfl rfl ?_
  refine g_if C X0 at_33 (pc' := 45) (pc'' := 36) (by decide) (by decide) rfl (fun c33 => ?_) (fun c33 => ?_)
  · have c33 : i2.toInt = 0 := c33
    refine g_iload C X0 (pc' := 47) at_45 rfl rfl ?_
    refine g_iconst C X0 (pc' := 48) at_47 (v := (1 : Int32)) (by decide) rfl ?_
    refine g_icmp C X0 at_48 (pc' := 61) (pc'' := 51) (by decide) (by decide) rfl (fun c48 => ?_) (fun c48 => ?_)
    · have c48 : i2.toInt = 1 := c48
      refine g_iconst C X0 (pc' := 62) at_61 (v := (2 : Int32)) (by decide) rfl ?_
      have z62 : (2 : Int32).toInt = 2 := by decide
      exact J62 _ (by omega)
    · have c48 : ¬ (i2.toInt = 1) := c48
      refine g_iload C X0 (pc' := 53) at_51 rfl rfl ?_
      refine g_iconst C X0 (pc' := 54) at_53 (v := (1 : Int32)) (by decide) rfl ?_
      refine g_icmp C X0 at_54 (pc' := 61) (pc'' := 57) (by decide) (by decide) rfl (fun c54 => ?_) (fun c54 => ?_)
      · have c54 : i3.toInt = 1 := c54
        refine g_iconst C X0 (pc' := 62) at_61 (v := (2 : Int32)) (by decide) rfl ?_
        have z62 : (2 : Int32).toInt = 2 := by decide
        exact J62 _ (by omega)
      · have c54 : ¬ (i3.toInt = 1) := c54
        refine g_iconst C X0 (pc' := 58) at_57 (v := (1 : Int32)) (by decide) rfl ?_
        refine g_goto C X0 at_58 (pc' := 62) (by decide) (by decide) ?_
        have z62 : (1 : Int32).toInt = 1 := by decide
        exact J62 _ (by omega)
  · have c33 : ¬ (i2.toInt = 0) := c33
    refine g_iload C X0 (pc' := 38) at_36 rfl rfl ?_
    refine g_if C X0 at_38 (pc' := 45) (pc'' := 41) (by decide) (by decide) rfl (fun c38 => ?_) (fun c38 => ?_)
    · have c38 : i3.toInt = 0 := c38
      refine g_iload C X0 (pc' := 47) at_45 rfl rfl ?_
      refine g_iconst C X0 (pc' := 48) at_47 (v := (1 : Int32)) (by decide) rfl ?_
      refine g_icmp C X0 at_48 (pc' := 61) (pc'' := 51) (by decide) (by decide) rfl (fun c48 => ?_) (fun c48 => ?_)
      · have c48 : i2.toInt = 1 := c48
        refine g_iconst C X0 (pc' := 62) at_61 (v := (2 : Int32)) (by decide) rfl ?_
        have z62 : (2 : Int32).toInt = 2 := by decide
        exact J62 _ (by omega)
      · have c48 : ¬ (i2.toInt = 1) := c48
        refine g_iload C X0 (pc' := 53) at_51 rfl rfl ?_
        refine g_iconst C X0 (pc' := 54) at_53 (v := (1 : Int32)) (by decide) rfl ?_
        refine g_icmp C X0 at_54 (pc' := 61) (pc'' := 57) (by decide) (by decide) rfl (fun c54 => ?_) (fun c54 => ?_)
        · have c54 : i3.toInt = 1 := c54
          refine g_iconst C X0 (pc' := 62) at_61 (v := (2 : Int32)) (by decide) rfl ?_
          have z62 : (2 : Int32).toInt = 2 := by decide
          exact J62 _ (by omega)
        · have c54 : ¬ (i3.toInt = 1) := c54
          refine g_iconst C X0 (pc' := 58) at_57 (v := (1 : Int32)) (by decide) rfl ?_
          refine g_goto C X0 at_58 (pc' := 62) (by decide) (by decide) ?_
          have z62 : (1 : Int32).toInt = 1 := by decide
          exact J62 _ (by omega)
    · have c38 : ¬ (i3.toInt = 0) := c38
      refine g_iconst C X0 (pc' := 42) at_41 (v := (0 : Int32)) (by decide) rfl ?_
      refine g_goto C X0 at_42 (pc' := 62) (by decide) (by decide) ?_
      have z62 : (0 : Int32).toInt = 0 := by decide
      exact J62 _ (by omega)
set_option maxRecDepth 65536 in
set_option maxHeartbeats 40000000 in
theorem comes_1 {Post : Tables → Env → Array Value → State → Outcome → State → Prop} (hpost : ∀ tb e args s v u, (limb_1_1.after args s (.returned v) u = true ∧ limb_1_2.after args s (.returned v) u = true ∧ True) → FrameEnd s (.returned v) u (Jvm.fieldLocs frame_1_writes args s ++ Jvm.arrayLocs frame_1_arrays args s ++ Jvm.staticLocs frame_1_statics s) 24 128 → Post tb e args s (.returned v) u) :
    ArmFor flags0 classFile x code maxLocals ret World_1 tables_1 room_1 Calls_1 rest_1 Pre_1 Post := by
  intro l hfl _ _ p e ha hc hk s m args below hf hA hF happ hP
  obtain ⟨hcalls, hrest, hpre⟩ := hP
  obtain ⟨-, -, -, hnamed, -, -, -, hat⟩ := (Spec.applies_iff hf).mp happ
  obtain ⟨hg, hn⟩ := and_e (Cond.before_iff.mp (show (Jvm.Cond.and given_1 narrow_1).before args s = true from hpre))
  obtain ⟨g_c, g_0⟩ := and_e hg
  obtain ⟨k_0, g_1⟩ := and_e g_0
  obtain ⟨k_1, g_2⟩ := and_e g_1
  obtain ⟨k_2, g_3⟩ := and_e g_2
  obtain ⟨k_3, g_4⟩ := and_e g_3
  have k_4 := g_4
  obtain ⟨w0, w1, w2, w3, w4, rfl⟩ : ∃ w0 w1 w2 w3 w4 : Value, args = #[w0, w1, w2, w3, w4] := by
    have hs : args.size = 5 := by simpa [Cond.value, given_1] using g_c
    obtain ⟨L⟩ := args
    match L, hs with
    | [w0, w1, w2, w3, w4], _ => exact ⟨w0, w1, w2, w3, w4, rfl⟩
  have hw := fun d (hd : d ∈ tables_1) => atoms_spec (ws := Jvm.Cond.code x code maxLocals ret :: tables_1) hat d (List.mem_cons_of_mem _ hd)
  have hfit : Fit s := fun {y c} hc i hi => by
    obtain ⟨ha, rfl⟩ := Array.getElem?_eq_some_iff.mp hc
    have q := List.all_eq_true.mp ((Array.all_eq_true_iff_forall_mem.mp hF) _ (Array.getElem_mem ha)) i (List.mem_range.mpr hi)
    simpa [Array.getElem?_eq_getElem hi] using q
  obtain ⟨p0, q_0⟩ := is_v k_0
  obtain rfl : w0 = (.int p0) := Option.some.inj q_0
  obtain ⟨p1, q_1⟩ := isL_v k_1
  obtain rfl : w1 = (.long p1) := Option.some.inj q_1
  obtain ⟨p2, q_2⟩ := isL_v k_2
  obtain rfl : w2 = (.long p2) := Option.some.inj q_2
  obtain ⟨p3, q_3⟩ := isL_v k_3
  obtain rfl : w3 = (.long p3) := Option.some.inj q_3
  obtain ⟨p4, q_4⟩ := isL_v k_4
  obtain rfl : w4 = (.long p4) := Option.some.inj q_4
  obtain ⟨n, o, h1, h2, h3, _, L, rfl, ⟨rfl, N⟩, hq⟩ := law l s _ hw p0 p1 p2 p3 p4 s.heap s.heap.size (Nat.le_refl _)  tables_1 p e ha hc hk s m _ below hf ((Spec.applies_iff_loose hf).mp happ).1 ⟨rfl, State.Warmed39.refl s, rfl⟩ trivial
  refine ⟨n, _, h1, h2, h3, hpost _ _ _ _ _ _ ⟨Cond.after_iff.mpr rfl, Cond.after_iff.mpr (eq_i res_at (Term.int_eval (1)) rfl), trivial⟩ ⟨hq.1, hq.2.1, (hq.2.2.sift fun y hy => Or.inr (N y hy)).mono (by decide) (by decide)⟩⟩
theorem main_1_1 : Claimed_1_1 := comes_1 fun _ _ _ _ _ _ h hF => ⟨h.1, hF⟩
theorem main_1_2 : Claimed_1_2 := comes_1 fun _ _ _ _ _ _ h hF => ⟨h.2.1, hF⟩
end Jvm.Pilot.@@N@@
namespace Jvm.Pilot.@@N@@
open Jvm Jvm.ClassFile Sem Op Lib Jvm.Free Jvm.Stand Jvm.Pilot.@@N@@.Jvm.D
/-! MADE BY PROGRAM (witnessworld.py) out of the Statement's table words and the real class files: 12 classes; the members and pool entries that the words name. The judged class is class 1, her method 1. -/
namespace start1
open Jvm.ClassFile
def u (s : String) : CpInfo := .utf8 (stringToUtf16 s)
/-- a pool by its gaps: so many unusable entries, then the entry; so many at the end -/
def gap : Nat → List CpInfo → List CpInfo
  | 0, r => r
  | n + 1, r => .unusable :: gap n r
def poolList (es : List (Nat × CpInfo)) (last : Nat) : List CpInfo := es.foldr (fun e r => gap e.1 (e.2 :: r)) (gap last [])
def pool (es : List (Nat × CpInfo)) (last : Nat) : Array CpInfo := ⟨poolList es last⟩
def fileOf (pool : Array CpInfo) (this : Nat) (attrs : Array Attribute := #[]) (ms : Array MethodInfo := #[]) (fl : Nat := 33) (sup : Nat := 0) (ifs : Array Nat := #[]) (fds : Array FieldInfo := #[]) : ClassFile where
  minorVersion := 0
  majorVersion := 65
  constantPool := pool
  accessFlags := fl
  thisClass := this
  superClass := sup
  interfaces := ifs
  fields := fds
  methods := ms
  attributes := attrs
def plain (name : String) (sup : Option ClassId) : Class where
  name := name
  kind := .ordinary
  loader := none
  accessFlags := 33
  super := sup
  interfaces := #[]
  cf := none
  fields := #[]
  methods := #[]
  instanceTypes := #[]
  staticTypes := #[]
  resolved := #[]
  callSites := []
  init := .initialized
  statics := none
  mirror := none

def pool0 : Array CpInfo := pool [(5, u "<init>"), (0, u "()V"), (1, .class_ 10), (1, u "java/lang/Object")] 113

def k0c0 : Code := { maxStack := 0, maxLocals := 1, code := object_method_1_code, exceptionTable := #[], attributes := #[] }
def k0m0 : Method := { name := "<init>", desc := "()V", sig := { parameters := [], returnType := none }, accessFlags := 1, code := some k0c0 }
/-- java/lang/Object -/
def k0 : Class := { plain "java/lang/Object" none with
  accessFlags := 33
  interfaces := #[]
  cf := some (fileOf pool0 8 #[] #[{ accessFlags := 1, nameIndex := 5, descriptorIndex := 6, attributes := #[] }] 33 0 #[] #[])
  fields := #[]
  methods := #[k0m0]
  instanceTypes := #[]
  staticTypes := #[]
  resolved := Array.replicate 124 none
  statics := none }

def pool1 : Array CpInfo := pool [(2, .class_ 4), (1, u "java/lang/Object"), (0, u "<init>"), (0, u "()V"), (0, .class_ 8), (0, u "com/example/kenning/kenning/retrieval/KMeans$Vector"), (0, .methodref 7 10), (0, .nameAndType 5 11), (0, u "([I[D)V"), (0, .methodref 7 13), (0, .nameAndType 14 15), (0, u "addTo"), (0, u "([D)V"), (0, .methodref 17 18), (0, .class_ 19), (0, .nameAndType 20 21), (0, u "com/example/kenning/kenning/retrieval/VectorAddToPinLaw"), (0, u "expected"), (0, u "(II[I[D[D)D"), (2, u "law"), (0, u "(IJJJJ)Z")] 11

def k1m0 : Method := { name := "<init>", desc := "()V", sig := { parameters := [], returnType := none }, accessFlags := 1, code := none }
def k1c1 : Code := { maxStack := 7, maxLocals := 25, code := code, exceptionTable := #[], attributes := #[] }
def k1m1 : Method := { name := "law", desc := "(IJJJJ)Z", sig := { parameters := [.int, .long, .long, .long, .long], returnType := some .boolean }, accessFlags := 9, code := some k1c1 }
def k1c2 : Code := { maxStack := 4, maxLocals := 7, code := method_3_code, exceptionTable := #[], attributes := #[] }
def k1m2 : Method := { name := "expected", desc := "(II[I[D[D)D", sig := { parameters := [.int, .int, (.array .int), (.array .double), (.array .double)], returnType := some .double }, accessFlags := 10, code := some k1c2 }
/-- com/example/kenning/kenning/retrieval/VectorAddToPinLaw -/
def k1 : Class := { plain "com/example/kenning/kenning/retrieval/VectorAddToPinLaw" (some 0) with
  accessFlags := 49
  interfaces := #[]
  cf := some (fileOf pool1 17 #[] #[{ accessFlags := 1, nameIndex := 5, descriptorIndex := 6, attributes := #[] }, { accessFlags := 9, nameIndex := 24, descriptorIndex := 25, attributes := #[] }, { accessFlags := 10, nameIndex := 20, descriptorIndex := 21, attributes := #[] }] 49 2 #[] #[])
  fields := #[]
  methods := #[k1m0, k1m1, k1m2]
  instanceTypes := #[]
  staticTypes := #[]
  resolved := Array.replicate 37 none
  statics := none }

def pool2 : Array CpInfo := pool [(1, .methodref 2 3), (0, .class_ 4), (0, .nameAndType 5 6), (0, u "java/lang/Object"), (0, u "<init>"), (0, u "()V"), (0, .class_ 8), (0, u "java/lang/Record")] 13

def k2c0 : Code := { maxStack := 1, maxLocals := 1, code := jdk_30_method_1_code, exceptionTable := #[], attributes := #[] }
def k2m0 : Method := { name := "<init>", desc := "()V", sig := { parameters := [], returnType := none }, accessFlags := 4, code := some k2c0 }
/-- java/lang/Record -/
def k2 : Class := { plain "java/lang/Record" (some 0) with
  accessFlags := 1057
  interfaces := #[]
  cf := some (fileOf pool2 7 #[] #[{ accessFlags := 4, nameIndex := 5, descriptorIndex := 6, attributes := #[] }] 1057 2 #[] #[])
  fields := #[]
  methods := #[k2m0]
  instanceTypes := #[]
  staticTypes := #[]
  resolved := Array.replicate 22 none
  statics := none }

def pool3 : Array CpInfo := pool [(1, .methodref 2 3), (0, .class_ 4), (0, .nameAndType 5 6), (0, u "java/lang/Record"), (0, u "<init>"), (0, u "()V"), (0, .fieldref 8 9), (0, .class_ 10), (0, .nameAndType 11 12), (0, u "com/example/kenning/kenning/retrieval/KMeans$Vector"), (0, u "terms"), (0, u "[I"), (0, .fieldref 8 14), (0, .nameAndType 15 16), (0, u "weights"), (0, u "[D"), (1, .class_ 20), (1, u "com/example/kenning/kenning/retrieval/KMeans"), (14, u "([I[D)V"), (6, u "addTo"), (0, u "([D)V")] 28

def k3c0 : Code := { maxStack := 2, maxLocals := 3, code := prog_50_method_1_code, exceptionTable := #[], attributes := #[] }
def k3m0 : Method := { name := "<init>", desc := "([I[D)V", sig := { parameters := [(.array .int), (.array .double)], returnType := none }, accessFlags := 0, code := some k3c0 }
def k3c1 : Code := { maxStack := 6, maxLocals := 3, code := prog_50_method_4_code, exceptionTable := #[], attributes := #[] }
def k3m1 : Method := { name := "addTo", desc := "([D)V", sig := { parameters := [(.array .double)], returnType := none }, accessFlags := 0, code := some k3c1 }
/-- com/example/kenning/kenning/retrieval/KMeans$Vector -/
def k3 : Class := { plain "com/example/kenning/kenning/retrieval/KMeans$Vector" (some 2) with
  accessFlags := 48
  interfaces := #[]
  cf := some (fileOf pool3 8 #[.nestHost 18] #[{ accessFlags := 0, nameIndex := 5, descriptorIndex := 35, attributes := #[] }, { accessFlags := 0, nameIndex := 42, descriptorIndex := 43, attributes := #[] }] 48 2 #[] #[{ accessFlags := 18, nameIndex := 11, descriptorIndex := 12, attributes := #[] }, { accessFlags := 18, nameIndex := 15, descriptorIndex := 16, attributes := #[] }])
  fields := #[{ name := "terms", type := (.array .int), accessFlags := 18, slot := 0, constantValue := 0 }, { name := "weights", type := (.array .double), accessFlags := 18, slot := 1, constantValue := 0 }]
  methods := #[k3m0, k3m1]
  instanceTypes := #[(.array .int), (.array .double)]
  staticTypes := #[]
  resolved := Array.replicate 72 none
  statics := none }

def pool4 : Array CpInfo := pool [(1, u "java/lang/Cloneable"), (0, .class_ 1), (0, u "java/lang/Object"), (0, .class_ 3)] 3

/-- java/lang/Cloneable -/
def k4 : Class := { plain "java/lang/Cloneable" (some 0) with
  accessFlags := 1537
  interfaces := #[]
  cf := some (fileOf pool4 2 #[] #[] 1537 4 #[] #[])
  fields := #[]
  methods := #[]
  instanceTypes := #[]
  staticTypes := #[]
  resolved := Array.replicate 8 none
  statics := none }

def pool5 : Array CpInfo := pool [(1, u "java/io/Serializable"), (0, .class_ 1), (0, u "java/lang/Object"), (0, .class_ 3)] 3

/-- java/io/Serializable -/
def k5 : Class := { plain "java/io/Serializable" (some 0) with
  accessFlags := 1537
  interfaces := #[]
  cf := some (fileOf pool5 2 #[] #[] 1537 4 #[] #[])
  fields := #[]
  methods := #[]
  instanceTypes := #[]
  staticTypes := #[]
  resolved := Array.replicate 8 none
  statics := none }

/-- the primitive byte -/
def k6 : Class := { plain "byte" none with kind := .primitive 'B', accessFlags := 0x411 }
/-- [B -/
def k7 : Class := { plain "[B" (some 0) with kind := .array 6 .byte, interfaces := #[4, 5], accessFlags := 1041 }

/-- the primitive double -/
def k8 : Class := { plain "double" none with kind := .primitive 'D', accessFlags := 0x411 }
/-- [D -/
def k9 : Class := { plain "[D" (some 0) with kind := .array 8 .double, interfaces := #[4, 5], accessFlags := 1041 }

/-- the primitive int -/
def k10 : Class := { plain "int" none with kind := .primitive 'I', accessFlags := 0x411 }
/-- [I -/
def k11 : Class := { plain "[I" (some 0) with kind := .array 10 .int, interfaces := #[4, 5], accessFlags := 1041 }

def heap : Heap := #[]
def classes : Array Class := #[k0, k1, k2, k3, k4, k5, k6, k7, k8, k9, k10, k11]
def interned : List (Array UInt16 × Addr) := []
def slotsUsed : Nat := 0
def theMethod : MethodId := ⟨1, 1⟩
def args0 : Array Value := #[.int 3, .long 7, .long 2, .long 4, .long 5]
def aboutOver (below : List Frame) : State where
  vm := { classes := classes, interned := interned.toArray }
  heap := heap
  slotsUsed := slotsUsed
  threads := #[{ frames := .invoking theMethod args0 :: below }]
def below0 : List Frame := [.native { method := ⟨0, 0⟩, args := #[] }]
def about1 : State := aboutOver below0
def p0 : Program := .bare "" "" ""
def e0 : Env := launch0.env 0 0 0
theorem w_frames : about1.frames = Frame.invoking theMethod args0 :: below0 := rfl
set_option maxRecDepth 65536 in
theorem w_args : argsFit about1.vm theMethod args0 = true := by decide +kernel
set_option maxRecDepth 65536 in
theorem w_heap : heapFits about1 = true := by decide +kernel
set_option maxRecDepth 65536 in
theorem w_runnable : about1.curStatus? = some .runnable := by decide +kernel
set_option maxRecDepth 65536 in
theorem w_alone : about1.alone = true := by decide +kernel
set_option maxRecDepth 65536 in
theorem w_named : about1.methodNamed? x = some theMethod := by decide +kernel
set_option maxRecDepth 65536 in
theorem w_hears : about1.hears theMethod below0 = true := by decide +kernel
set_option maxRecDepth 65536 in
theorem w_ripe : about1.ripe theMethod args0 below0 = true := by decide +kernel
theorem w_running : about1.status = .running := rfl
set_option maxRecDepth 65536 in
theorem w_room : about1.hasRoom e0.platform room_1 = true :=
  launch0.hasRoom_least _ room_1 (by decide +kernel) (by decide +kernel) (by decide +kernel) (by decide +kernel) (by decide +kernel) (by decide +kernel)
theorem allAtoms_all (ts : List Jvm.Cond) (a : Array Jvm.Value) (st : Jvm.State) : (allAtoms ts).before a st = ts.all (fun c => c.before a st) := by
  induction ts with
  | nil => rfl
  | cons c t ih =>
    show (Jvm.Cond.and c (allAtoms t)).before a st = _
    rw [Jvm.Cond.before_and, ih, List.all_cons]
def words1 : List Jvm.Cond := Jvm.Cond.code x code maxLocals ret :: tables_1
/-- a 'code' word, met by the world's own term for the bytes: nothing is compared byte by byte -/
theorem code_word {y : MethodName} {bytes : ByteArray} {mx : Nat} {rt : Option FieldType} {a : Array Value} {s : State} {m : MethodId} {meth : Method} {c : Code} (h1 : s.methodNamed? y = some m) (h2 : s.vm.method? m = some meth) (h3 : meth.code = some c) (h4 : c.code = bytes)
    (h5 : (c.maxLocals == mx && c.exceptionTable.isEmpty && decide (c.maxStack ≤ mostOperands) && decide (meth.sig.returnType = rt) && !meth.locks && decide (parseMethodDescriptor y.desc = some meth.sig)) = true) : (Jvm.Cond.code y bytes mx rt).before a s = true := by
  simp only [Bool.and_eq_true, beq_iff_eq, Bool.not_eq_true', decide_eq_true_eq] at h5
  obtain ⟨⟨⟨⟨⟨g1, g2⟩, g3⟩, g4⟩, g5⟩, g6⟩ := h5
  simp [Cond.before, Cond.holds, Cond.value, h1, h2, h3, h4, g1, g2, g3, g4, g5, g6]
def isCode : Jvm.Cond → Bool
  | .code _ _ _ _ => true
  | _ => false
theorem all_split {L : List Jvm.Cond} {P : Jvm.Cond → Bool} (h1 : L.all (fun c => isCode c || P c) = true) (h2 : ∀ c ∈ L.filter isCode, P c = true) : L.all P = true := by
  refine List.all_eq_true.mpr fun c hc => ?_
  have h := List.all_eq_true.mp h1 c hc
  rcases Bool.eq_false_or_eq_true (isCode c) with hi | hi
  · exact h2 c (List.mem_filter.mpr ⟨hc, hi⟩)
  · simpa [hi] using h
set_option maxRecDepth 65536 in
theorem w_c0 : (Jvm.Cond.code x code maxLocals ret).before args0 about1 = true := code_word (m := ⟨1, 1⟩) (meth := k1m1) (c := k1c1) (by decide +kernel) rfl rfl rfl (by decide +kernel)
set_option maxRecDepth 65536 in
theorem w_c1 : (Jvm.Cond.code ({ cls := "com/example/kenning/kenning/retrieval/KMeans$Vector", name := "<init>", desc := "([I[D)V" } : Jvm.MethodName) prog_50_method_1_code (3 : Nat) (Option.none : Option Jvm.ClassFile.FieldType)).before args0 about1 = true := code_word (m := ⟨3, 0⟩) (meth := k3m0) (c := k3c0) (by decide +kernel) rfl rfl rfl (by decide +kernel)
set_option maxRecDepth 65536 in
theorem w_c2 : (Jvm.Cond.code ({ cls := "java/lang/Record", name := "<init>", desc := "()V" } : Jvm.MethodName) jdk_30_method_1_code (1 : Nat) (Option.none : Option Jvm.ClassFile.FieldType)).before args0 about1 = true := code_word (m := ⟨2, 0⟩) (meth := k2m0) (c := k2c0) (by decide +kernel) rfl rfl rfl (by decide +kernel)
set_option maxRecDepth 65536 in
theorem w_c3 : (Jvm.Cond.code ({ cls := "java/lang/Object", name := "<init>", desc := "()V" } : Jvm.MethodName) object_method_1_code (1 : Nat) (Option.none : Option Jvm.ClassFile.FieldType)).before args0 about1 = true := code_word (m := ⟨0, 0⟩) (meth := k0m0) (c := k0c0) (by decide +kernel) rfl rfl rfl (by decide +kernel)
set_option maxRecDepth 65536 in
theorem w_c4 : (Jvm.Cond.code ({ cls := "com/example/kenning/kenning/retrieval/KMeans$Vector", name := "addTo", desc := "([D)V" } : Jvm.MethodName) prog_50_method_4_code (3 : Nat) (Option.none : Option Jvm.ClassFile.FieldType)).before args0 about1 = true := code_word (m := ⟨3, 1⟩) (meth := k3m1) (c := k3c1) (by decide +kernel) rfl rfl rfl (by decide +kernel)
set_option maxRecDepth 65536 in
theorem w_c5 : (Jvm.Cond.code ({ cls := "com/example/kenning/kenning/retrieval/VectorAddToPinLaw", name := "expected", desc := "(II[I[D[D)D" } : Jvm.MethodName) method_3_code (7 : Nat) (Option.some Jvm.ClassFile.FieldType.double)).before args0 about1 = true := code_word (m := ⟨1, 2⟩) (meth := k1m2) (c := k1c2) (by decide +kernel) rfl rfl rfl (by decide +kernel)
def codes1 : List Jvm.Cond := [Jvm.Cond.code x code maxLocals ret, Jvm.Cond.code ({ cls := "com/example/kenning/kenning/retrieval/KMeans$Vector", name := "<init>", desc := "([I[D)V" } : Jvm.MethodName) prog_50_method_1_code (3 : Nat) (Option.none : Option Jvm.ClassFile.FieldType), Jvm.Cond.code ({ cls := "java/lang/Record", name := "<init>", desc := "()V" } : Jvm.MethodName) jdk_30_method_1_code (1 : Nat) (Option.none : Option Jvm.ClassFile.FieldType), Jvm.Cond.code ({ cls := "java/lang/Object", name := "<init>", desc := "()V" } : Jvm.MethodName) object_method_1_code (1 : Nat) (Option.none : Option Jvm.ClassFile.FieldType), Jvm.Cond.code ({ cls := "com/example/kenning/kenning/retrieval/KMeans$Vector", name := "addTo", desc := "([D)V" } : Jvm.MethodName) prog_50_method_4_code (3 : Nat) (Option.none : Option Jvm.ClassFile.FieldType), Jvm.Cond.code ({ cls := "com/example/kenning/kenning/retrieval/VectorAddToPinLaw", name := "expected", desc := "(II[I[D[D)D" } : Jvm.MethodName) method_3_code (7 : Nat) (Option.some Jvm.ClassFile.FieldType.double)]
set_option maxRecDepth 65536 in
theorem codes_eq : words1.filter isCode = codes1 := rfl
theorem w_codes : ∀ c ∈ words1.filter isCode, c.before args0 about1 = true := by
  rw [codes_eq]
  intro c hc
  simp only [codes1, List.mem_cons, List.not_mem_nil, or_false] at hc
  rcases hc with rfl | rfl | rfl | rfl | rfl | rfl
  · exact w_c0
  · exact w_c1
  · exact w_c2
  · exact w_c3
  · exact w_c4
  · exact w_c5
set_option maxRecDepth 65536 in
theorem w_t1 : (words1.take 24).all (fun c => isCode c || c.before args0 about1) = true := by decide +kernel
set_option maxRecDepth 65536 in
theorem w_t2 : (words1.drop 24).all (fun c => isCode c || c.before args0 about1) = true := by decide +kernel
theorem w_tables : (allAtoms (Jvm.Cond.code x code maxLocals ret :: tables_1)).before args0 about1 = true := by
  rw [allAtoms_all]
  show words1.all (fun c => c.before args0 about1) = true
  refine all_split ?_ w_codes
  rw [← List.take_append_drop 24 words1, List.all_append, w_t1, w_t2]
  rfl
set_option maxRecDepth 65536 in
theorem w_case : (Jvm.Cond.and given_1 narrow_1).before args0 about1 = true := by decide +kernel
theorem w_applies : (headSpec (Jvm.Cond.code x code maxLocals ret :: tables_1) room_1).applies x e0.platform about1 = true :=
  (Spec.applies_iff w_frames).mpr ⟨w_running, w_runnable, w_alone, w_named, w_hears, w_ripe, w_room, w_tables⟩
theorem atStart : AtStart classFile x code maxLocals ret World_1 tables_1 room_1 Calls_1 rest_1 Pre_1 launch0 p0 e0 about1 theMethod args0 below0 :=
  ⟨lists_1, trivial, launch0.admits_env _ _ _, launch0.least_env, fairChoices_fair.cas, fairChoices_fair.clock, w_frames, w_args, w_heap, w_applies, trivial, trivial, w_case⟩
end start1
theorem witness_1 : WitnessClaimed_1 := ⟨start1.p0, start1.e0, start1.about1, start1.theMethod, start1.args0, start1.below0, start1.atStart⟩
end Jvm.Pilot.@@N@@
