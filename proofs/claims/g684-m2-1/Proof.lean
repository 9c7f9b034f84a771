import JvmDerived
import JvmDerived.Pilot.@@N@@Statement
import JvmDerived.Pilot.@@N@@Code
set_option linter.unusedVariables false
set_option linter.unusedSimpArgs false
namespace Jvm.OwnKit
open Sem ClassFile Op Lib Jvm.Stand Jvm.Free Jvm.LawKit Jvm.RoadKit
section Walk
variable {p : Program} {l : Launch} {e : Env} {R : Room} {s : State} {m : MethodId} {args : Array Value} {below : List Frame} {meth : Method} {c : Code} {T : State} {locs : List Loc} {cells slots : Nat} {Z : State} {a0 : Array Value} {h : Heap} {G : Outcome → State → Prop}
variable {x0 : MethodName} {code : ByteArray} {maxL : Nat} {ret : Option FieldType}
/-- what is still owed from the frame g on: the run ends, and G holds of the end -/
def Go (tb : Tables) (e : Env) (below : List Frame) (G : Outcome → State → Prop) (T : State) (g : JFrame) : Prop :=
  ∃ s₂ o, Steps tb e below (T.setTop g) s₂ ∧ s₂.status = .running ∧ Ended s₂ below o ∧ G o s₂
theorem Go.step {tb : Tables} {T T' : State} {g g' : JFrame} (q : ∀ t, Steps tb e below (T'.setTop g') t → Steps tb e below (T.setTop g) t) (k : Go tb e below G T' g') : Go tb e below G T g := by
  obtain ⟨s2, o, h1, h2⟩ := k
  exact ⟨s2, o, q _ h1, h2⟩
/-- what stands still while one body is walked -/
def Cx (p : Program) (l : Launch) (s : State) (m : MethodId) (meth : Method) (c : Code) (Z : State) (x0 : MethodName) (code : ByteArray) (maxL : Nat) (ret : Option FieldType) : Prop :=
  p.tables.exec = Jvm.exec ∧ Z.Warmed39 s.vm ∧ c.code = code ∧ c.maxLocals = maxL ∧ s.vm.findClass x0.cls = some m.cls ∧ meth.sig.returnType = ret ∧ meth.locks = false ∧ meth.name = x0.name
theorem Cx.exec (C : Cx p l s m meth c Z x0 code maxL ret) : p.tables.exec = Jvm.exec := C.1
theorem Cx.warm (C : Cx p l s m meth c Z x0 code maxL ret) : Z.Warmed39 s.vm := C.2.1
theorem Cx.bytes (C : Cx p l s m meth c Z x0 code maxL ret) : c.code = code := C.2.2.1
theorem Cx.maxl (C : Cx p l s m meth c Z x0 code maxL ret) : c.maxLocals = maxL := C.2.2.2.1
theorem Cx.own (C : Cx p l s m meth c Z x0 code maxL ret) : s.vm.findClass x0.cls = some m.cls := C.2.2.2.2.1
theorem Cx.rets (C : Cx p l s m meth c Z x0 code maxL ret) : meth.sig.returnType = ret := C.2.2.2.2.2.1
theorem Cx.unlocked (C : Cx p l s m meth c Z x0 code maxL ret) : meth.locks = false := C.2.2.2.2.2.2.1
theorem Cx.nm (C : Cx p l s m meth c Z x0 code maxL ret) : meth.name = x0.name := C.2.2.2.2.2.2.2
theorem Cx.at (C : Cx p l s m meth c Z x0 code maxL ret) {pc : Nat} {r : Except ClassFile.DecodeError (ClassFile.Instr × Nat)} (h2 : decode code pc = r) : decode c.code pc = r := hb C.bytes h2
/-- the end of a walk: what is returned, the heap and the places written answer Q -/
def End (s : State) (Q : Option Value → Heap → List Loc → Prop) (k n : Nat) (o : Outcome) (U : State) : Prop := ∃ v L, o = .returned v ∧ Q v U.heap L ∧ FrameEnd s o U L k n
/-- a body's contract at one call: the arguments as, the heap h -/
def Con (l : Launch) (Z : State) (y : MethodName) (bytes : ByteArray) (maxL : Nat) (ret : Option FieldType) (rm : Room) (as : Array Value) (h : Heap) (Q : Option Value → Heap → List Loc → Prop) : Prop :=
  ∀ ws, MetFree l y (head1 (Cond.code y bytes maxL ret :: ws) rm) (fun a U => a = as ∧ Z.Warmed39 U.vm ∧ U.heap = h) (fun _ _ _ _ _ => True) (fun _ U o U' => End U Q rm.cells rm.slots o U')
theorem con_of_go {rm : Room} {as : Array Value} {Q : Option Value → Heap → List Loc → Prop} {Ls : Array Slot} (hn : plainName x0.cls = true) (hef : ∀ m, entryFrame m as maxL = mkF m 0 Ls [])
    (H : ∀ (p : Program) (e : Env) (s : State) (m : MethodId) (below : List Frame) (meth : Method) (c : Code) (T : State), Cx p l s m meth c Z x0 code maxL ret → Stand p l e rm s m as below meth c T [] 0 0 → T.heap = h → Go p.tables e below (End s Q rm.cells rm.slots) T (mkF m 0 Ls [])) :
    Con l Z x0 code maxL ret rm as h Q := by
  intro ws
  refine MetFree.of_bodySF (plainFor_of_name hn) hisR ?_
  intro p e s m args below meth c s₁ Bd hml hP hK
  obtain ⟨rfl, hZ, hh⟩ := hP
  have X0 : Stand p l e rm s m args below meth c s₁ [] 0 0 := Stand.of_body Bd
  have e0 : s₁.heap = h := by rw [← hh, Bd.state]; rfl
  have q := H p e s m below meth c s₁ ⟨Bd.exec, hZ, Bd.bytes, hml, findClass_of_methodNamed Bd.named, Bd.returns, Bd.notSynchronized, (name_of_methodNamed Bd.named Bd.method).1⟩ X0 e0
  rw [hef]
  exact q
theorem g_aloadN (C : Cx p l s m meth c Z x0 code maxL ret) (X : Stand p l e R s m args below meth c T locs cells slots) {pc pc' : Nat} {Ls : Array Slot} {st : List Value} {k : Fin 4} {v : Value} (hd : decode code pc = .ok (.aload_n k, 1)) (hl : Ls[k.val]? = some (.val v)) (hv : v.isRef = true) (hp : pc + 1 = pc')
    (K : Go p.tables e below G T (mkF m pc' Ls (v :: st))) : Go p.tables e below G T (mkF m pc Ls (st)) := by
  subst hp; exact Go.step (fun _ k => XS.aloadN X.here C.exec rfl (C.at hd) hl hv k) K
theorem g_aload (C : Cx p l s m meth c Z x0 code maxL ret) (X : Stand p l e R s m args below meth c T locs cells slots) {pc pc' : Nat} {Ls : Array Slot} {st : List Value} {k : Nat} {v : Value} (hd : decode code pc = .ok (.aload k, 2)) (hl : Ls[k]? = some (.val v)) (hv : v.isRef = true) (hp : pc + 2 = pc')
    (K : Go p.tables e below G T (mkF m pc' Ls (v :: st))) : Go p.tables e below G T (mkF m pc Ls (st)) := by
  subst hp; exact Go.step (fun _ k => XS.aload X.here C.exec rfl (C.at hd) hl hv k) K
theorem g_iloadN (C : Cx p l s m meth c Z x0 code maxL ret) (X : Stand p l e R s m args below meth c T locs cells slots) {pc pc' : Nat} {Ls : Array Slot} {st : List Value} {k : Fin 4} {v : Int32} (hd : decode code pc = .ok (.iload_n k, 1)) (hl : Ls[k.val]? = some (.val (.int v))) (hp : pc + 1 = pc')
    (K : Go p.tables e below G T (mkF m pc' Ls (.int v :: st))) : Go p.tables e below G T (mkF m pc Ls (st)) := by
  subst hp; exact Go.step (fun _ k => XS.iloadN X.here C.exec rfl (C.at hd) hl k) K
theorem g_iload (C : Cx p l s m meth c Z x0 code maxL ret) (X : Stand p l e R s m args below meth c T locs cells slots) {pc pc' : Nat} {Ls : Array Slot} {st : List Value} {k : Nat} {v : Int32} (hd : decode code pc = .ok (.iload k, 2)) (hl : Ls[k]? = some (.val (.int v))) (hp : pc + 2 = pc')
    (K : Go p.tables e below G T (mkF m pc' Ls (.int v :: st))) : Go p.tables e below G T (mkF m pc Ls (st)) := by
  subst hp; exact Go.step (fun _ k => XS.iload X.here C.exec rfl (C.at hd) hl k) K
theorem g_istoreN (C : Cx p l s m meth c Z x0 code maxL ret) (X : Stand p l e R s m args below meth c T locs cells slots) {pc pc' : Nat} {Ls : Array Slot} {st : List Value} {k : Fin 4} {x y : Int32} {l' : Array Slot} (hd : decode code pc = .ok (.istore_n k, 1)) (hv : x = y) (hl : storeLocals Ls k.val (.int x) = some l') (hp : pc + 1 = pc')
    (K : Go p.tables e below G T (mkF m pc' l' (st))) : Go p.tables e below G T (mkF m pc Ls (.int y :: st)) := by
  subst hp; subst hv; exact Go.step (fun _ k => XS.istoreN X.here C.exec rfl (C.at hd) rfl hl k) K
theorem g_istore (C : Cx p l s m meth c Z x0 code maxL ret) (X : Stand p l e R s m args below meth c T locs cells slots) {pc pc' : Nat} {Ls : Array Slot} {st : List Value} {k : Nat} {x y : Int32} {l' : Array Slot} (hd : decode code pc = .ok (.istore k, 2)) (hv : x = y) (hl : storeLocals Ls k (.int x) = some l') (hp : pc + 2 = pc')
    (K : Go p.tables e below G T (mkF m pc' l' (st))) : Go p.tables e below G T (mkF m pc Ls (.int y :: st)) := by
  subst hp; subst hv; exact Go.step (fun _ k => XS.istore X.here C.exec rfl (C.at hd) rfl hl k) K
theorem g_lloadN (C : Cx p l s m meth c Z x0 code maxL ret) (X : Stand p l e R s m args below meth c T locs cells slots) {pc pc' : Nat} {Ls : Array Slot} {st : List Value} {k : Fin 4} {v : Int64} (hd : decode code pc = .ok (.lload_n k, 1)) (hl : Ls[k.val]? = some (.val (.long v))) (hp : pc + 1 = pc')
    (K : Go p.tables e below G T (mkF m pc' Ls (.long v :: st))) : Go p.tables e below G T (mkF m pc Ls (st)) := by
  subst hp; exact Go.step (fun _ k => XT.lloadN X.here C.exec rfl (C.at hd) hl k) K
theorem g_lload (C : Cx p l s m meth c Z x0 code maxL ret) (X : Stand p l e R s m args below meth c T locs cells slots) {pc pc' : Nat} {Ls : Array Slot} {st : List Value} {k : Nat} {v : Int64} (hd : decode code pc = .ok (.lload k, 2)) (hl : Ls[k]? = some (.val (.long v))) (hp : pc + 2 = pc')
    (K : Go p.tables e below G T (mkF m pc' Ls (.long v :: st))) : Go p.tables e below G T (mkF m pc Ls (st)) := by
  subst hp; exact Go.step (fun _ k => XT.lload X.here C.exec rfl (C.at hd) hl k) K
theorem g_lstoreN (C : Cx p l s m meth c Z x0 code maxL ret) (X : Stand p l e R s m args below meth c T locs cells slots) {pc pc' : Nat} {Ls : Array Slot} {st : List Value} {k : Fin 4} {x y : Int64} {l' : Array Slot} (hd : decode code pc = .ok (.lstore_n k, 1)) (hv : x = y) (hl : storeLocals Ls k.val (.long x) = some l') (hp : pc + 1 = pc')
    (K : Go p.tables e below G T (mkF m pc' l' (st))) : Go p.tables e below G T (mkF m pc Ls (.long y :: st)) := by
  subst hp; subst hv; exact Go.step (fun _ k => XT.lstoreN X.here C.exec rfl (C.at hd) rfl hl k) K
theorem g_lstore (C : Cx p l s m meth c Z x0 code maxL ret) (X : Stand p l e R s m args below meth c T locs cells slots) {pc pc' : Nat} {Ls : Array Slot} {st : List Value} {k : Nat} {x y : Int64} {l' : Array Slot} (hd : decode code pc = .ok (.lstore k, 2)) (hv : x = y) (hl : storeLocals Ls k (.long x) = some l') (hp : pc + 2 = pc')
    (K : Go p.tables e below G T (mkF m pc' l' (st))) : Go p.tables e below G T (mkF m pc Ls (.long y :: st)) := by
  subst hp; subst hv; exact Go.step (fun _ k => XT.lstore X.here C.exec rfl (C.at hd) rfl hl k) K
theorem g_dloadN (C : Cx p l s m meth c Z x0 code maxL ret) (X : Stand p l e R s m args below meth c T locs cells slots) {pc pc' : Nat} {Ls : Array Slot} {st : List Value} {k : Fin 4} {v : UInt64} (hd : decode code pc = .ok (.dload_n k, 1)) (hl : Ls[k.val]? = some (.val (.double v))) (hp : pc + 1 = pc')
    (K : Go p.tables e below G T (mkF m pc' Ls (.double v :: st))) : Go p.tables e below G T (mkF m pc Ls (st)) := by
  subst hp; exact Go.step (fun _ k => XS.dloadN X.here C.exec rfl (C.at hd) hl k) K
theorem g_dload (C : Cx p l s m meth c Z x0 code maxL ret) (X : Stand p l e R s m args below meth c T locs cells slots) {pc pc' : Nat} {Ls : Array Slot} {st : List Value} {k : Nat} {v : UInt64} (hd : decode code pc = .ok (.dload k, 2)) (hl : Ls[k]? = some (.val (.double v))) (hp : pc + 2 = pc')
    (K : Go p.tables e below G T (mkF m pc' Ls (.double v :: st))) : Go p.tables e below G T (mkF m pc Ls (st)) := by
  subst hp; exact Go.step (fun _ k => XS.dload X.here C.exec rfl (C.at hd) hl k) K
theorem g_dstoreN (C : Cx p l s m meth c Z x0 code maxL ret) (X : Stand p l e R s m args below meth c T locs cells slots) {pc pc' : Nat} {Ls : Array Slot} {st : List Value} {k : Fin 4} {x y : UInt64} {l' : Array Slot} (hd : decode code pc = .ok (.dstore_n k, 1)) (hv : x = y) (hl : storeLocals Ls k.val (.double x) = some l') (hp : pc + 1 = pc')
    (K : Go p.tables e below G T (mkF m pc' l' (st))) : Go p.tables e below G T (mkF m pc Ls (.double y :: st)) := by
  subst hp; subst hv; exact Go.step (fun _ k => XS.dstoreN X.here C.exec rfl (C.at hd) rfl hl k) K
theorem g_dstore (C : Cx p l s m meth c Z x0 code maxL ret) (X : Stand p l e R s m args below meth c T locs cells slots) {pc pc' : Nat} {Ls : Array Slot} {st : List Value} {k : Nat} {x y : UInt64} {l' : Array Slot} (hd : decode code pc = .ok (.dstore k, 2)) (hv : x = y) (hl : storeLocals Ls k (.double x) = some l') (hp : pc + 2 = pc')
    (K : Go p.tables e below G T (mkF m pc' l' (st))) : Go p.tables e below G T (mkF m pc Ls (.double y :: st)) := by
  subst hp; subst hv; exact Go.step (fun _ k => XS.dstore X.here C.exec rfl (C.at hd) rfl hl k) K
theorem g_astoreN (C : Cx p l s m meth c Z x0 code maxL ret) (X : Stand p l e R s m args below meth c T locs cells slots) {pc pc' : Nat} {Ls : Array Slot} {st : List Value} {k : Fin 4} {v : Value} {l' : Array Slot} (hd : decode code pc = .ok (.astore_n k, 1)) (hv : v.isRef = true) (hl : storeLocals Ls k.val v = some l') (hp : pc + 1 = pc')
    (K : Go p.tables e below G T (mkF m pc' l' (st))) : Go p.tables e below G T (mkF m pc Ls (v :: st)) := by
  subst hp; exact Go.step (fun _ k => XS.astoreN X.here C.exec rfl (C.at hd) rfl hv hl k) K
theorem g_astore (C : Cx p l s m meth c Z x0 code maxL ret) (X : Stand p l e R s m args below meth c T locs cells slots) {pc pc' : Nat} {Ls : Array Slot} {st : List Value} {k : Nat} {v : Value} {l' : Array Slot} (hd : decode code pc = .ok (.astore k, 2)) (hv : v.isRef = true) (hl : storeLocals Ls k v = some l') (hp : pc + 2 = pc')
    (K : Go p.tables e below G T (mkF m pc' l' (st))) : Go p.tables e below G T (mkF m pc Ls (v :: st)) := by
  subst hp; exact Go.step (fun _ k => XS.astore X.here C.exec rfl (C.at hd) rfl hv hl k) K
theorem g_iconst (C : Cx p l s m meth c Z x0 code maxL ret) (X : Stand p l e R s m args below meth c T locs cells slots) {pc pc' : Nat} {Ls : Array Slot} {st : List Value} {i : Int} {v : Int32} (hd : decode code pc = .ok (.iconst i, 1)) (hv : Int32.ofInt i = v) (hp : pc + 1 = pc')
    (K : Go p.tables e below G T (mkF m pc' Ls (.int v :: st))) : Go p.tables e below G T (mkF m pc Ls (st)) := by
  subst hp; subst hv; exact Go.step (fun _ k => XS.iconst X.here C.exec rfl (C.at hd)  k) K
theorem g_bipush (C : Cx p l s m meth c Z x0 code maxL ret) (X : Stand p l e R s m args below meth c T locs cells slots) {pc pc' : Nat} {Ls : Array Slot} {st : List Value} {i : Int} {v : Int32} (hd : decode code pc = .ok (.bipush i, 2)) (hv : (Int8.ofInt i).toInt32 = v) (hp : pc + 2 = pc')
    (K : Go p.tables e below G T (mkF m pc' Ls (.int v :: st))) : Go p.tables e below G T (mkF m pc Ls (st)) := by
  subst hp; subst hv; exact Go.step (fun _ k => XS.bipush X.here C.exec rfl (C.at hd)  k) K
theorem g_sipush (C : Cx p l s m meth c Z x0 code maxL ret) (X : Stand p l e R s m args below meth c T locs cells slots) {pc pc' : Nat} {Ls : Array Slot} {st : List Value} {i : Int} {v : Int32} (hd : decode code pc = .ok (.sipush i, 3)) (hv : (Int16.ofInt i).toInt32 = v) (hp : pc + 3 = pc')
    (K : Go p.tables e below G T (mkF m pc' Ls (.int v :: st))) : Go p.tables e below G T (mkF m pc Ls (st)) := by
  subst hp; subst hv; exact Go.step (fun _ k => XS.sipush X.here C.exec rfl (C.at hd)  k) K
theorem g_aconstNull (C : Cx p l s m meth c Z x0 code maxL ret) (X : Stand p l e R s m args below meth c T locs cells slots) {pc pc' : Nat} {Ls : Array Slot} {st : List Value}  (hd : decode code pc = .ok (.aconst_null, 1))  (hp : pc + 1 = pc')
    (K : Go p.tables e below G T (mkF m pc' Ls (.null :: st))) : Go p.tables e below G T (mkF m pc Ls (st)) := by
  subst hp; exact Go.step (fun _ k => XS.aconstNull X.here C.exec rfl (C.at hd)  k) K
theorem g_lconst (C : Cx p l s m meth c Z x0 code maxL ret) (X : Stand p l e R s m args below meth c T locs cells slots) {pc pc' : Nat} {Ls : Array Slot} {st : List Value} {k : Fin 2} {v : Int64} (hd : decode code pc = .ok (.lconst k, 1)) (hv : Int64.ofNat k = v) (hp : pc + 1 = pc')
    (K : Go p.tables e below G T (mkF m pc' Ls (.long v :: st))) : Go p.tables e below G T (mkF m pc Ls (st)) := by
  subst hp; subst hv; exact Go.step (fun _ k => XT.lconst X.here C.exec rfl (C.at hd)  k) K
theorem g_dconst0 (C : Cx p l s m meth c Z x0 code maxL ret) (X : Stand p l e R s m args below meth c T locs cells slots) {pc pc' : Nat} {Ls : Array Slot} {st : List Value} {v : UInt64} (hd : decode code pc = .ok (.dconst 0, 1)) (hv : FP.dconst0 = v) (hp : pc + 1 = pc')
    (K : Go p.tables e below G T (mkF m pc' Ls (.double v :: st))) : Go p.tables e below G T (mkF m pc Ls (st)) := by
  subst hp; exact Go.step (fun _ k => XS.dconst0 X.here C.exec rfl (C.at hd) hv k) K
theorem g_dconst1 (C : Cx p l s m meth c Z x0 code maxL ret) (X : Stand p l e R s m args below meth c T locs cells slots) {pc pc' : Nat} {Ls : Array Slot} {st : List Value} {v : UInt64} (hd : decode code pc = .ok (.dconst 1, 1)) (hv : FP.dconst1 = v) (hp : pc + 1 = pc')
    (K : Go p.tables e below G T (mkF m pc' Ls (.double v :: st))) : Go p.tables e below G T (mkF m pc Ls (st)) := by
  subst hp; exact Go.step (fun _ k => XS.dconst1 X.here C.exec rfl (C.at hd) hv k) K
theorem g_iadd (C : Cx p l s m meth c Z x0 code maxL ret) (X : Stand p l e R s m args below meth c T locs cells slots) {pc pc' : Nat} {Ls : Array Slot} {st : List Value} {x y : Int32} (hd : decode code pc = .ok (.iadd, 1))  (hp : pc + 1 = pc')
    (K : Go p.tables e below G T (mkF m pc' Ls (.int (x + y) :: st))) : Go p.tables e below G T (mkF m pc Ls (.int y :: .int x :: st)) := by
  subst hp; exact Go.step (fun _ k => XS.iadd X.here C.exec rfl (C.at hd) rfl k) K
theorem g_isub (C : Cx p l s m meth c Z x0 code maxL ret) (X : Stand p l e R s m args below meth c T locs cells slots) {pc pc' : Nat} {Ls : Array Slot} {st : List Value} {x y : Int32} (hd : decode code pc = .ok (.isub, 1))  (hp : pc + 1 = pc')
    (K : Go p.tables e below G T (mkF m pc' Ls (.int (x - y) :: st))) : Go p.tables e below G T (mkF m pc Ls (.int y :: .int x :: st)) := by
  subst hp; exact Go.step (fun _ k => XS.isub X.here C.exec rfl (C.at hd) rfl k) K
theorem g_iand (C : Cx p l s m meth c Z x0 code maxL ret) (X : Stand p l e R s m args below meth c T locs cells slots) {pc pc' : Nat} {Ls : Array Slot} {st : List Value} {x y : Int32} (hd : decode code pc = .ok (.iand, 1))  (hp : pc + 1 = pc')
    (K : Go p.tables e below G T (mkF m pc' Ls (.int (x &&& y) :: st))) : Go p.tables e below G T (mkF m pc Ls (.int y :: .int x :: st)) := by
  subst hp; exact Go.step (fun _ k => XS.iand X.here C.exec rfl (C.at hd) rfl k) K
theorem g_imul (C : Cx p l s m meth c Z x0 code maxL ret) (X : Stand p l e R s m args below meth c T locs cells slots) {pc pc' : Nat} {Ls : Array Slot} {st : List Value} {x y : Int32} (hd : decode code pc = .ok (.imul, 1))  (hp : pc + 1 = pc')
    (K : Go p.tables e below G T (mkF m pc' Ls (.int (x * y) :: st))) : Go p.tables e below G T (mkF m pc Ls (.int y :: .int x :: st)) := by
  subst hp; exact Go.step (fun _ k => XS.imul X.here C.exec rfl (C.at hd) rfl k) K
theorem g_idiv (C : Cx p l s m meth c Z x0 code maxL ret) (X : Stand p l e R s m args below meth c T locs cells slots) {pc pc' : Nat} {Ls : Array Slot} {st : List Value} {x y : Int32} (hd : decode code pc = .ok (.idiv, 1)) (hy : y ≠ 0) (hp : pc + 1 = pc')
    (K : Go p.tables e below G T (mkF m pc' Ls (.int (x / y) :: st))) : Go p.tables e below G T (mkF m pc Ls (.int y :: .int x :: st)) := by
  subst hp; exact Go.step (fun _ k => XS.idiv X.here C.exec rfl (C.at hd) rfl hy k) K
theorem g_ineg (C : Cx p l s m meth c Z x0 code maxL ret) (X : Stand p l e R s m args below meth c T locs cells slots) {pc pc' : Nat} {Ls : Array Slot} {st : List Value} {x : Int32} (hd : decode code pc = .ok (.ineg, 1))  (hp : pc + 1 = pc')
    (K : Go p.tables e below G T (mkF m pc' Ls (.int (-x) :: st))) : Go p.tables e below G T (mkF m pc Ls (.int x :: st)) := by
  subst hp; exact Go.step (fun _ k => XS.ineg X.here C.exec rfl (C.at hd) rfl k) K
theorem g_ixor (C : Cx p l s m meth c Z x0 code maxL ret) (X : Stand p l e R s m args below meth c T locs cells slots) {pc pc' : Nat} {Ls : Array Slot} {st : List Value} {x y : Int32} (hd : decode code pc = .ok (.ixor, 1))  (hp : pc + 1 = pc')
    (K : Go p.tables e below G T (mkF m pc' Ls (.int (x ^^^ y) :: st))) : Go p.tables e below G T (mkF m pc Ls (.int y :: .int x :: st)) := by
  subst hp; exact Go.step (fun _ k => XT.ixor X.here C.exec rfl (C.at hd) rfl k) K
theorem g_ior (C : Cx p l s m meth c Z x0 code maxL ret) (X : Stand p l e R s m args below meth c T locs cells slots) {pc pc' : Nat} {Ls : Array Slot} {st : List Value} {x y : Int32} (hd : decode code pc = .ok (.ior, 1))  (hp : pc + 1 = pc')
    (K : Go p.tables e below G T (mkF m pc' Ls (.int (x ||| y) :: st))) : Go p.tables e below G T (mkF m pc Ls (.int y :: .int x :: st)) := by
  subst hp; exact Go.step (fun _ k => XT.ior X.here C.exec rfl (C.at hd) rfl k) K
theorem g_ishl (C : Cx p l s m meth c Z x0 code maxL ret) (X : Stand p l e R s m args below meth c T locs cells slots) {pc pc' : Nat} {Ls : Array Slot} {st : List Value} {x y : Int32} (hd : decode code pc = .ok (.ishl, 1))  (hp : pc + 1 = pc')
    (K : Go p.tables e below G T (mkF m pc' Ls (.int (x <<< (y &&& 31)) :: st))) : Go p.tables e below G T (mkF m pc Ls (.int y :: .int x :: st)) := by
  subst hp; exact Go.step (fun _ k => XT.ishl X.here C.exec rfl (C.at hd) rfl k) K
theorem g_ishr (C : Cx p l s m meth c Z x0 code maxL ret) (X : Stand p l e R s m args below meth c T locs cells slots) {pc pc' : Nat} {Ls : Array Slot} {st : List Value} {x y : Int32} (hd : decode code pc = .ok (.ishr, 1))  (hp : pc + 1 = pc')
    (K : Go p.tables e below G T (mkF m pc' Ls (.int (x >>> (y &&& 31)) :: st))) : Go p.tables e below G T (mkF m pc Ls (.int y :: .int x :: st)) := by
  subst hp; exact Go.step (fun _ k => XT.ishr X.here C.exec rfl (C.at hd) rfl k) K
theorem g_iushr (C : Cx p l s m meth c Z x0 code maxL ret) (X : Stand p l e R s m args below meth c T locs cells slots) {pc pc' : Nat} {Ls : Array Slot} {st : List Value} {x y : Int32} (hd : decode code pc = .ok (.iushr, 1))  (hp : pc + 1 = pc')
    (K : Go p.tables e below G T (mkF m pc' Ls (.int (XT.ushr x y) :: st))) : Go p.tables e below G T (mkF m pc Ls (.int y :: .int x :: st)) := by
  subst hp; exact Go.step (fun _ k => XT.iushr X.here C.exec rfl (C.at hd) rfl k) K
theorem g_ladd (C : Cx p l s m meth c Z x0 code maxL ret) (X : Stand p l e R s m args below meth c T locs cells slots) {pc pc' : Nat} {Ls : Array Slot} {st : List Value} {x y : Int64} (hd : decode code pc = .ok (.ladd, 1))  (hp : pc + 1 = pc')
    (K : Go p.tables e below G T (mkF m pc' Ls (.long (x + y) :: st))) : Go p.tables e below G T (mkF m pc Ls (.long y :: .long x :: st)) := by
  subst hp; exact Go.step (fun _ k => XT.ladd X.here C.exec rfl (C.at hd) rfl k) K
theorem g_lsub (C : Cx p l s m meth c Z x0 code maxL ret) (X : Stand p l e R s m args below meth c T locs cells slots) {pc pc' : Nat} {Ls : Array Slot} {st : List Value} {x y : Int64} (hd : decode code pc = .ok (.lsub, 1))  (hp : pc + 1 = pc')
    (K : Go p.tables e below G T (mkF m pc' Ls (.long (x - y) :: st))) : Go p.tables e below G T (mkF m pc Ls (.long y :: .long x :: st)) := by
  subst hp; exact Go.step (fun _ k => XT.lsub X.here C.exec rfl (C.at hd) rfl k) K
theorem g_lmul (C : Cx p l s m meth c Z x0 code maxL ret) (X : Stand p l e R s m args below meth c T locs cells slots) {pc pc' : Nat} {Ls : Array Slot} {st : List Value} {x y : Int64} (hd : decode code pc = .ok (.lmul, 1))  (hp : pc + 1 = pc')
    (K : Go p.tables e below G T (mkF m pc' Ls (.long (x * y) :: st))) : Go p.tables e below G T (mkF m pc Ls (.long y :: .long x :: st)) := by
  subst hp; exact Go.step (fun _ k => XT.lmul X.here C.exec rfl (C.at hd) rfl k) K
theorem g_land (C : Cx p l s m meth c Z x0 code maxL ret) (X : Stand p l e R s m args below meth c T locs cells slots) {pc pc' : Nat} {Ls : Array Slot} {st : List Value} {x y : Int64} (hd : decode code pc = .ok (.land, 1))  (hp : pc + 1 = pc')
    (K : Go p.tables e below G T (mkF m pc' Ls (.long (x &&& y) :: st))) : Go p.tables e below G T (mkF m pc Ls (.long y :: .long x :: st)) := by
  subst hp; exact Go.step (fun _ k => XT.land X.here C.exec rfl (C.at hd) rfl k) K
theorem g_lor (C : Cx p l s m meth c Z x0 code maxL ret) (X : Stand p l e R s m args below meth c T locs cells slots) {pc pc' : Nat} {Ls : Array Slot} {st : List Value} {x y : Int64} (hd : decode code pc = .ok (.lor, 1))  (hp : pc + 1 = pc')
    (K : Go p.tables e below G T (mkF m pc' Ls (.long (x ||| y) :: st))) : Go p.tables e below G T (mkF m pc Ls (.long y :: .long x :: st)) := by
  subst hp; exact Go.step (fun _ k => XT.lor X.here C.exec rfl (C.at hd) rfl k) K
theorem g_lxor (C : Cx p l s m meth c Z x0 code maxL ret) (X : Stand p l e R s m args below meth c T locs cells slots) {pc pc' : Nat} {Ls : Array Slot} {st : List Value} {x y : Int64} (hd : decode code pc = .ok (.lxor, 1))  (hp : pc + 1 = pc')
    (K : Go p.tables e below G T (mkF m pc' Ls (.long (x ^^^ y) :: st))) : Go p.tables e below G T (mkF m pc Ls (.long y :: .long x :: st)) := by
  subst hp; exact Go.step (fun _ k => XT.lxor X.here C.exec rfl (C.at hd) rfl k) K
theorem g_lneg (C : Cx p l s m meth c Z x0 code maxL ret) (X : Stand p l e R s m args below meth c T locs cells slots) {pc pc' : Nat} {Ls : Array Slot} {st : List Value} {x : Int64} (hd : decode code pc = .ok (.lneg, 1))  (hp : pc + 1 = pc')
    (K : Go p.tables e below G T (mkF m pc' Ls (.long (-x) :: st))) : Go p.tables e below G T (mkF m pc Ls (.long x :: st)) := by
  subst hp; exact Go.step (fun _ k => XT.lneg X.here C.exec rfl (C.at hd) rfl k) K
theorem g_i2l (C : Cx p l s m meth c Z x0 code maxL ret) (X : Stand p l e R s m args below meth c T locs cells slots) {pc pc' : Nat} {Ls : Array Slot} {st : List Value} {x : Int32} (hd : decode code pc = .ok (.i2l, 1))  (hp : pc + 1 = pc')
    (K : Go p.tables e below G T (mkF m pc' Ls (.long x.toInt64 :: st))) : Go p.tables e below G T (mkF m pc Ls (.int x :: st)) := by
  subst hp; exact Go.step (fun _ k => XT.i2l X.here C.exec rfl (C.at hd) rfl k) K
theorem g_l2i (C : Cx p l s m meth c Z x0 code maxL ret) (X : Stand p l e R s m args below meth c T locs cells slots) {pc pc' : Nat} {Ls : Array Slot} {st : List Value} {x : Int64} (hd : decode code pc = .ok (.l2i, 1))  (hp : pc + 1 = pc')
    (K : Go p.tables e below G T (mkF m pc' Ls (.int x.toInt32 :: st))) : Go p.tables e below G T (mkF m pc Ls (.long x :: st)) := by
  subst hp; exact Go.step (fun _ k => XT.l2i X.here C.exec rfl (C.at hd) rfl k) K
theorem g_i2b (C : Cx p l s m meth c Z x0 code maxL ret) (X : Stand p l e R s m args below meth c T locs cells slots) {pc pc' : Nat} {Ls : Array Slot} {st : List Value} {x : Int32} (hd : decode code pc = .ok (.i2b, 1))  (hp : pc + 1 = pc')
    (K : Go p.tables e below G T (mkF m pc' Ls (.int x.toInt8.toInt32 :: st))) : Go p.tables e below G T (mkF m pc Ls (.int x :: st)) := by
  subst hp; exact Go.step (fun _ k => XT.i2b X.here C.exec rfl (C.at hd) rfl k) K
theorem g_i2s (C : Cx p l s m meth c Z x0 code maxL ret) (X : Stand p l e R s m args below meth c T locs cells slots) {pc pc' : Nat} {Ls : Array Slot} {st : List Value} {x : Int32} (hd : decode code pc = .ok (.i2s, 1))  (hp : pc + 1 = pc')
    (K : Go p.tables e below G T (mkF m pc' Ls (.int x.toInt16.toInt32 :: st))) : Go p.tables e below G T (mkF m pc Ls (.int x :: st)) := by
  subst hp; exact Go.step (fun _ k => XT.i2s X.here C.exec rfl (C.at hd) rfl k) K
theorem g_i2d (C : Cx p l s m meth c Z x0 code maxL ret) (X : Stand p l e R s m args below meth c T locs cells slots) {pc pc' : Nat} {Ls : Array Slot} {st : List Value} {x : Int32} (hd : decode code pc = .ok (.i2d, 1))  (hp : pc + 1 = pc')
    (K : Go p.tables e below G T (mkF m pc' Ls (.double (FP.i2d x) :: st))) : Go p.tables e below G T (mkF m pc Ls (.int x :: st)) := by
  subst hp; exact Go.step (fun _ k => XS.i2dS X.here C.exec rfl (C.at hd) rfl rfl k) K
theorem g_l2d (C : Cx p l s m meth c Z x0 code maxL ret) (X : Stand p l e R s m args below meth c T locs cells slots) {pc pc' : Nat} {Ls : Array Slot} {st : List Value} {x : Int64} (hd : decode code pc = .ok (.l2d, 1))  (hp : pc + 1 = pc')
    (K : Go p.tables e below G T (mkF m pc' Ls (.double (FP.l2d x) :: st))) : Go p.tables e below G T (mkF m pc Ls (.long x :: st)) := by
  subst hp; exact Go.step (fun _ k => XS.l2dS X.here C.exec rfl (C.at hd) rfl rfl k) K
theorem g_dneg (C : Cx p l s m meth c Z x0 code maxL ret) (X : Stand p l e R s m args below meth c T locs cells slots) {pc pc' : Nat} {Ls : Array Slot} {st : List Value} {x : UInt64} (hd : decode code pc = .ok (.dneg, 1))  (hp : pc + 1 = pc')
    (K : Go p.tables e below G T (mkF m pc' Ls (.double (FP.dneg x) :: st))) : Go p.tables e below G T (mkF m pc Ls (.double x :: st)) := by
  subst hp; exact Go.step (fun _ k => XS.dnegS X.here C.exec rfl (C.at hd) rfl rfl k) K
theorem g_dcmp (C : Cx p l s m meth c Z x0 code maxL ret) (X : Stand p l e R s m args below meth c T locs cells slots) {pc pc' : Nat} {Ls : Array Slot} {st : List Value} {o : CmpOp} {x y : UInt64} (hd : decode code pc = .ok (.dcmp o, 1))  (hp : pc + 1 = pc')
    (K : Go p.tables e below G T (mkF m pc' Ls (.int (cmpValue (FP.dcmp x y) o) :: st))) : Go p.tables e below G T (mkF m pc Ls (.double y :: .double x :: st)) := by
  subst hp; exact Go.step (fun _ k => XS.dcmpS X.here C.exec rfl (C.at hd) rfl rfl k) K
theorem g_dcmpV (C : Cx p l s m meth c Z x0 code maxL ret) (X : Stand p l e R s m args below meth c T locs cells slots) {pc pc' : Nat} {Ls : Array Slot} {st : List Value} {o : CmpOp} {x y : UInt64} {v : Int32} (hd : decode code pc = .ok (.dcmp o, 1)) (hv : cmpValue (FP.dcmp x y) o = v) (hp : pc + 1 = pc')
    (K : Go p.tables e below G T (mkF m pc' Ls (.int v :: st))) : Go p.tables e below G T (mkF m pc Ls (.double y :: .double x :: st)) := by
  subst hp; exact Go.step (fun _ k => XS.dcmpS X.here C.exec rfl (C.at hd) rfl hv k) K
theorem g_dadd (C : Cx p l s m meth c Z x0 code maxL ret) (X : Stand p l e R s m args below meth c T locs cells slots) {pc pc' : Nat} {Ls : Array Slot} {st : List Value} {x y : UInt64} (hd : decode code pc = .ok (.dadd, 1)) (hn : Jvm.Free.Fl.NoNaN64 (FP.dadd x y)) (hp : pc + 1 = pc')
    (K : Go p.tables e below G T (mkF m pc' Ls (.double (FP.dadd x y) :: st))) : Go p.tables e below G T (mkF m pc Ls (.double y :: .double x :: st)) := by
  subst hp; exact Go.step (fun _ k => XS.daddS X.here C.exec rfl (C.at hd) rfl hn rfl k) K
theorem g_dsub (C : Cx p l s m meth c Z x0 code maxL ret) (X : Stand p l e R s m args below meth c T locs cells slots) {pc pc' : Nat} {Ls : Array Slot} {st : List Value} {x y : UInt64} (hd : decode code pc = .ok (.dsub, 1)) (hn : Jvm.Free.Fl.NoNaN64 (FP.dsub x y)) (hp : pc + 1 = pc')
    (K : Go p.tables e below G T (mkF m pc' Ls (.double (FP.dsub x y) :: st))) : Go p.tables e below G T (mkF m pc Ls (.double y :: .double x :: st)) := by
  subst hp; exact Go.step (fun _ k => XS.dsubS X.here C.exec rfl (C.at hd) rfl hn rfl k) K
theorem g_dmul (C : Cx p l s m meth c Z x0 code maxL ret) (X : Stand p l e R s m args below meth c T locs cells slots) {pc pc' : Nat} {Ls : Array Slot} {st : List Value} {x y : UInt64} (hd : decode code pc = .ok (.dmul, 1)) (hn : Jvm.Free.Fl.NoNaN64 (FP.dmul x y)) (hp : pc + 1 = pc')
    (K : Go p.tables e below G T (mkF m pc' Ls (.double (FP.dmul x y) :: st))) : Go p.tables e below G T (mkF m pc Ls (.double y :: .double x :: st)) := by
  subst hp; exact Go.step (fun _ k => XS.dmulS X.here C.exec rfl (C.at hd) rfl hn rfl k) K
theorem g_ddiv (C : Cx p l s m meth c Z x0 code maxL ret) (X : Stand p l e R s m args below meth c T locs cells slots) {pc pc' : Nat} {Ls : Array Slot} {st : List Value} {x y : UInt64} (hd : decode code pc = .ok (.ddiv, 1)) (hn : Jvm.Free.Fl.NoNaN64 (FP.ddiv x y)) (hp : pc + 1 = pc')
    (K : Go p.tables e below G T (mkF m pc' Ls (.double (FP.ddiv x y) :: st))) : Go p.tables e below G T (mkF m pc Ls (.double y :: .double x :: st)) := by
  subst hp; exact Go.step (fun _ k => XS.ddivS X.here C.exec rfl (C.at hd) rfl hn rfl k) K
theorem g_lcmp (C : Cx p l s m meth c Z x0 code maxL ret) (X : Stand p l e R s m args below meth c T locs cells slots) {pc pc' : Nat} {Ls : Array Slot} {st : List Value} {x y : Int64} (hd : decode code pc = .ok (.lcmp, 1))  (hp : pc + 1 = pc')
    (K : Go p.tables e below G T (mkF m pc' Ls (.int (XT.cmpL x y) :: st))) : Go p.tables e below G T (mkF m pc Ls (.long y :: .long x :: st)) := by
  subst hp; exact Go.step (fun _ k => XT.lcmp X.here C.exec rfl (C.at hd) rfl k) K
theorem g_pop (C : Cx p l s m meth c Z x0 code maxL ret) (X : Stand p l e R s m args below meth c T locs cells slots) {pc pc' : Nat} {Ls : Array Slot} {st : List Value} {x : Value} (hd : decode code pc = .ok (.pop, 1)) (hc : x.category = 1) (hp : pc + 1 = pc')
    (K : Go p.tables e below G T (mkF m pc' Ls (st))) : Go p.tables e below G T (mkF m pc Ls (x :: st)) := by
  subst hp; exact Go.step (fun _ k => XT.pop X.here C.exec rfl (C.at hd) rfl hc k) K
theorem g_dup (C : Cx p l s m meth c Z x0 code maxL ret) (X : Stand p l e R s m args below meth c T locs cells slots) {pc pc' : Nat} {Ls : Array Slot} {st : List Value} {x : Value} (hd : decode code pc = .ok (.dup, 1)) (hc : x.category = 1) (hp : pc + 1 = pc')
    (K : Go p.tables e below G T (mkF m pc' Ls (x :: x :: st))) : Go p.tables e below G T (mkF m pc Ls (x :: st)) := by
  subst hp; exact Go.step (fun _ k => XS.dup X.here C.exec rfl (C.at hd) rfl hc k) K
theorem g_dupX1 (C : Cx p l s m meth c Z x0 code maxL ret) (X : Stand p l e R s m args below meth c T locs cells slots) {pc pc' : Nat} {Ls : Array Slot} {st : List Value} {x y : Value} (hd : decode code pc = .ok (.dup_x1, 1)) (hc : x.category = 1) (hc' : y.category = 1) (hp : pc + 1 = pc')
    (K : Go p.tables e below G T (mkF m pc' Ls (x :: y :: x :: st))) : Go p.tables e below G T (mkF m pc Ls (x :: y :: st)) := by
  subst hp; exact Go.step (fun _ k => XT.dupX1 X.here C.exec rfl (C.at hd) rfl hc hc' k) K
theorem g_dup2 (C : Cx p l s m meth c Z x0 code maxL ret) (X : Stand p l e R s m args below meth c T locs cells slots) {pc pc' : Nat} {Ls : Array Slot} {st : List Value} {x y : Value} (hd : decode code pc = .ok (.dup2, 1)) (hc : x.category = 1) (hc' : y.category = 1) (hp : pc + 1 = pc')
    (K : Go p.tables e below G T (mkF m pc' Ls (x :: y :: x :: y :: st))) : Go p.tables e below G T (mkF m pc Ls (x :: y :: st)) := by
  subst hp; exact Go.step (fun _ k => XT.dup2 X.here C.exec rfl (C.at hd) rfl hc hc' k) K
theorem g_iinc (C : Cx p l s m meth c Z x0 code maxL ret) (X : Stand p l e R s m args below meth c T locs cells slots) {pc pc' : Nat} {Ls : Array Slot} {st : List Value} {k : Nat} {cst : Int} {x z : Int32} {l' : Array Slot} (hd : decode code pc = .ok (.iinc k cst, 3)) (hl : Ls[k]? = some (.val (.int x))) (hz : z = x + Int32.ofInt cst) (hl' : storeLocals Ls k (.int z) = some l') (hp : pc + 3 = pc')
    (K : Go p.tables e below G T (mkF m pc' l' (st))) : Go p.tables e below G T (mkF m pc Ls (st)) := by
  subst hp; subst hz; exact Go.step (fun _ k => XS.iinc X.here C.exec rfl (C.at hd) hl hl' k) K
theorem g_irem (C : Cx p l s m meth c Z x0 code maxL ret) (X : Stand p l e R s m args below meth c T locs cells slots) {pc pc' : Nat} {Ls : Array Slot} {st : List Value} {x y : Int32} (hd : decode code pc = .ok (.irem, 1)) (hy : y ≠ 0) (hp : pc + 1 = pc')
    (K : Go p.tables e below G T (mkF m pc' Ls (.int (x % y) :: st))) : Go p.tables e below G T (mkF m pc Ls (.int y :: .int x :: st)) := by
  subst hp; exact Go.step (fun _ k => iremM X C.exec rfl (C.at hd) rfl hy k) K
theorem g_lushr (C : Cx p l s m meth c Z x0 code maxL ret) (X : Stand p l e R s m args below meth c T locs cells slots) {pc pc' : Nat} {Ls : Array Slot} {st : List Value} {x : Int64} {y : Int32} (hd : decode code pc = .ok (.lushr, 1)) (hp : pc + 1 = pc')
    (K : Go p.tables e below G T (mkF m pc' Ls (.long (XT.ushrL x y) :: st))) : Go p.tables e below G T (mkF m pc Ls (.int y :: .long x :: st)) := by
  subst hp; exact Go.step (fun _ k => XT.lushr X.here C.exec rfl (C.at hd) rfl k) K
/-- what a branch asks, of whole numbers -/
abbrev cpI : ClassFile.Cond → Int → Int → Prop
  | .eq, x, y => x = y
  | .ne, x, y => ¬ x = y
  | .lt, x, y => x < y
  | .ge, x, y => ¬ x < y
  | .gt, x, y => y < x
  | .le, x, y => ¬ y < x
theorem holds_icmp (cd : ClassFile.Cond) (x y : Int32) : if_icmp.holds cd x y = true ↔ cpI cd x.toInt y.toInt := by
  cases cd <;> simp only [if_icmp.holds, cpI, decide_eq_true_eq, beq_iff_eq, bne_iff_ne, ne_eq, Int32.lt_iff_toInt_lt, Int32.le_iff_toInt_le, Int32.toInt_inj, Int.not_lt, ge_iff_le, gt_iff_lt]
theorem holds_if (cd : ClassFile.Cond) (x : Int32) : ifCond.holds cd x = true ↔ cpI cd x.toInt 0 := by
  rw [if0]; exact holds_icmp cd x 0
theorem g_goto (C : Cx p l s m meth c Z x0 code maxL ret) (X : Stand p l e R s m args below meth c T locs cells slots) {pc pc' : Nat} {Ls : Array Slot} {st : List Value} {o : Int} (hd : decode code pc = .ok (.goto o, 3)) (ho : 0 ≤ (pc : Int) + o) (hp : ((pc : Int) + o).toNat = pc')
    (K : Go p.tables e below G T (mkF m pc' Ls st)) : Go p.tables e below G T (mkF m pc Ls st) :=
  Go.step (fun _ k => XS.goto X.here C.exec rfl rfl (C.at hd) ho hp k) K
theorem g_if (C : Cx p l s m meth c Z x0 code maxL ret) (X : Stand p l e R s m args below meth c T locs cells slots) {pc pc' pc'' : Nat} {Ls : Array Slot} {st : List Value} {cd : ClassFile.Cond} {x : Int32} {o : Int} (hd : decode code pc = .ok (.ifCond cd o, 3)) (ho : 0 ≤ (pc : Int) + o) (hp : ((pc : Int) + o).toNat = pc') (hp3 : pc + 3 = pc'')
    (K1 : cpI cd x.toInt 0 → Go p.tables e below G T (mkF m pc' Ls st)) (K2 : ¬ cpI cd x.toInt 0 → Go p.tables e below G T (mkF m pc'' Ls st)) : Go p.tables e below G T (mkF m pc Ls (.int x :: st)) := by
  subst hp3
  cases hc : ifCond.holds cd x with
  | true => exact Go.step (fun _ k => XS.ifYes X.here C.exec rfl rfl (C.at hd) rfl hc ho hp k) (K1 ((holds_if cd x).mp hc))
  | false => exact Go.step (fun _ k => XS.ifNo X.here C.exec rfl (C.at hd) rfl hc k) (K2 fun q => by rw [(holds_if cd x).mpr q] at hc; cases hc)
theorem g_icmp (C : Cx p l s m meth c Z x0 code maxL ret) (X : Stand p l e R s m args below meth c T locs cells slots) {pc pc' pc'' : Nat} {Ls : Array Slot} {st : List Value} {cd : ClassFile.Cond} {x y : Int32} {o : Int} (hd : decode code pc = .ok (.if_icmp cd o, 3)) (ho : 0 ≤ (pc : Int) + o) (hp : ((pc : Int) + o).toNat = pc') (hp3 : pc + 3 = pc'')
    (K1 : cpI cd x.toInt y.toInt → Go p.tables e below G T (mkF m pc' Ls st)) (K2 : ¬ cpI cd x.toInt y.toInt → Go p.tables e below G T (mkF m pc'' Ls st)) : Go p.tables e below G T (mkF m pc Ls (.int y :: .int x :: st)) := by
  subst hp3
  cases hc : if_icmp.holds cd x y with
  | true => exact Go.step (fun _ k => XS.icmpYes X.here C.exec rfl rfl (C.at hd) rfl hc ho hp k) (K1 ((holds_icmp cd x y).mp hc))
  | false => exact Go.step (fun _ k => XS.icmpNo X.here C.exec rfl (C.at hd) rfl hc k) (K2 fun q => by rw [(holds_icmp cd x y).mpr q] at hc; cases hc)
theorem g_ifY (C : Cx p l s m meth c Z x0 code maxL ret) (X : Stand p l e R s m args below meth c T locs cells slots) {pc pc' : Nat} {Ls : Array Slot} {st : List Value} {cd : ClassFile.Cond} {x : Int32} {o : Int} (hd : decode code pc = .ok (.ifCond cd o, 3)) (ho : 0 ≤ (pc : Int) + o) (hp : ((pc : Int) + o).toNat = pc') (hc : cpI cd x.toInt 0)
    (K1 : Go p.tables e below G T (mkF m pc' Ls st)) : Go p.tables e below G T (mkF m pc Ls (.int x :: st)) :=
  Go.step (fun _ k => XS.ifYes X.here C.exec rfl rfl (C.at hd) rfl ((holds_if cd x).mpr hc) ho hp k) K1
theorem g_ifN (C : Cx p l s m meth c Z x0 code maxL ret) (X : Stand p l e R s m args below meth c T locs cells slots) {pc pc' : Nat} {Ls : Array Slot} {st : List Value} {cd : ClassFile.Cond} {x : Int32} {o : Int} (hd : decode code pc = .ok (.ifCond cd o, 3)) (hc : ¬ cpI cd x.toInt 0) (hp : pc + 3 = pc')
    (K1 : Go p.tables e below G T (mkF m pc' Ls st)) : Go p.tables e below G T (mkF m pc Ls (.int x :: st)) := by
  subst hp
  exact Go.step (fun _ k => XS.ifNo X.here C.exec rfl (C.at hd) rfl (Bool.eq_false_iff.mpr fun q => hc ((holds_if cd x).mp q)) k) K1
theorem g_icmpY (C : Cx p l s m meth c Z x0 code maxL ret) (X : Stand p l e R s m args below meth c T locs cells slots) {pc pc' : Nat} {Ls : Array Slot} {st : List Value} {cd : ClassFile.Cond} {x y : Int32} {o : Int} (hd : decode code pc = .ok (.if_icmp cd o, 3)) (ho : 0 ≤ (pc : Int) + o) (hp : ((pc : Int) + o).toNat = pc') (hc : cpI cd x.toInt y.toInt)
    (K1 : Go p.tables e below G T (mkF m pc' Ls st)) : Go p.tables e below G T (mkF m pc Ls (.int y :: .int x :: st)) :=
  Go.step (fun _ k => XS.icmpYes X.here C.exec rfl rfl (C.at hd) rfl ((holds_icmp cd x y).mpr hc) ho hp k) K1
theorem g_icmpN (C : Cx p l s m meth c Z x0 code maxL ret) (X : Stand p l e R s m args below meth c T locs cells slots) {pc pc' : Nat} {Ls : Array Slot} {st : List Value} {cd : ClassFile.Cond} {x y : Int32} {o : Int} (hd : decode code pc = .ok (.if_icmp cd o, 3)) (hc : ¬ cpI cd x.toInt y.toInt) (hp : pc + 3 = pc')
    (K1 : Go p.tables e below G T (mkF m pc' Ls st)) : Go p.tables e below G T (mkF m pc Ls (.int y :: .int x :: st)) := by
  subst hp
  exact Go.step (fun _ k => XS.icmpNo X.here C.exec rfl (C.at hd) rfl (Bool.eq_false_iff.mpr fun q => hc ((holds_icmp cd x y).mp q)) k) K1
/-! leaving the body -/
theorem g_out {k n : Nat} {Q : Option Value → Heap → List Loc → Prop} (C : Cx p l s m meth c Z x0 code maxL ret) (X : Stand p l e R s m args below meth c T locs cells slots) {v : Option Value} {g : JFrame} (hv : ret = none → v = none)
    (st : ∀ fs, (∀ (f : JFrame) (acts : List Action), f.method = m → f.locked = none → f.entered = [] → (doReturn e (T.setTop f) acts v).1 = T.setFrames fs) → Steps p.tables e below (T.setTop g) (T.setFrames fs))
    (hQ : Q v T.heap locs) (hk : cells ≤ k) (hn : slots ≤ n) : Go p.tables e below (End s Q k n) T g := by
  obtain ⟨fs, hr, hrun, hended, hW, hsame⟩ := X.leave (v := v) (fun q => hv (C.rets ▸ q)) C.unlocked
  exact ⟨_, _, st fs hr, hrun, hended, v, locs, rfl, hQ, ⟨_, rfl⟩, hW, hsame.mono hk hn⟩
theorem g_ireturn {k n : Nat} {Q : Option Value → Heap → List Loc → Prop} (C : Cx p l s m meth c Z x0 code maxL (some .int)) (X : Stand p l e R s m args below meth c T locs cells slots) {pc : Nat} {Ls : Array Slot} {st : List Value} {z : Int32} (hd : decode code pc = .ok (.ireturn, 1))
    (hQ : Q (some (.int z)) T.heap locs) (hk : cells ≤ k) (hn : slots ≤ n) : Go p.tables e below (End s Q k n) T (mkF m pc Ls (.int z :: st)) :=
  g_out C X (v := some (.int z)) (fun q => by cases q) (fun fs hr => retOut X C.exec C.rets rfl (Or.inl ⟨rfl, Or.inl rfl, _, rfl⟩) (C.at hd) hr) hQ hk hn
theorem g_zreturn {k n : Nat} {Q : Option Value → Heap → List Loc → Prop} (C : Cx p l s m meth c Z x0 code maxL (some .boolean)) (X : Stand p l e R s m args below meth c T locs cells slots) {pc : Nat} {Ls : Array Slot} {st : List Value} {z w : Int32} (hd : decode code pc = .ok (.ireturn, 1)) (hw : nar .boolean z = w)
    (hQ : Q (some (.int w)) T.heap locs) (hk : cells ≤ k) (hn : slots ≤ n) : Go p.tables e below (End s Q k n) T (mkF m pc Ls (.int z :: st)) :=
  g_out C X (v := some (.int w)) (fun q => by cases q) (fun fs hr => retN X C.exec (t := .boolean) C.rets (by simp) (C.at hd) (hw ▸ hr)) hQ hk hn
theorem g_lreturn {k n : Nat} {Q : Option Value → Heap → List Loc → Prop} (C : Cx p l s m meth c Z x0 code maxL (some .long)) (X : Stand p l e R s m args below meth c T locs cells slots) {pc : Nat} {Ls : Array Slot} {st : List Value} {z : Int64} (hd : decode code pc = .ok (.lreturn, 1))
    (hQ : Q (some (.long z)) T.heap locs) (hk : cells ≤ k) (hn : slots ≤ n) : Go p.tables e below (End s Q k n) T (mkF m pc Ls (.long z :: st)) :=
  g_out C X (v := some (.long z)) (fun q => by cases q) (fun fs hr => retOut X C.exec C.rets rfl (Or.inr (Or.inl ⟨rfl, rfl, _, rfl⟩)) (C.at hd) hr) hQ hk hn
theorem g_dreturn {k n : Nat} {Q : Option Value → Heap → List Loc → Prop} (C : Cx p l s m meth c Z x0 code maxL (some .double)) (X : Stand p l e R s m args below meth c T locs cells slots) {pc : Nat} {Ls : Array Slot} {st : List Value} {z : UInt64} (hd : decode code pc = .ok (.dreturn, 1))
    (hQ : Q (some (.double z)) T.heap locs) (hk : cells ≤ k) (hn : slots ≤ n) : Go p.tables e below (End s Q k n) T (mkF m pc Ls (.double z :: st)) :=
  g_out C X (v := some (.double z)) (fun q => by cases q) (fun fs hr => retOut X C.exec C.rets rfl (Or.inr (Or.inr (Or.inl ⟨rfl, rfl, _, rfl⟩))) (C.at hd) hr) hQ hk hn
theorem g_areturn {k n : Nat} {Q : Option Value → Heap → List Loc → Prop} {t : FieldType} (C : Cx p l s m meth c Z x0 code maxL (some t)) (X : Stand p l e R s m args below meth c T locs cells slots) {pc : Nat} {Ls : Array Slot} {st : List Value} {w : Value} (hd : decode code pc = .ok (.areturn, 1)) (ht : t.isReference = true) (hw : w.isRef = true) (hna : narrow t w = w)
    (hQ : Q (some w) T.heap locs) (hk : cells ≤ k) (hn : slots ≤ n) : Go p.tables e below (End s Q k n) T (mkF m pc Ls (w :: st)) :=
  g_out C X (v := some w) (fun q => by cases q) (fun fs hr => retOut X C.exec C.rets hna (Or.inr (Or.inr (Or.inr (Or.inr ⟨rfl, ht, hw⟩)))) (C.at hd) hr) hQ hk hn
theorem g_return {k n : Nat} {Q : Option Value → Heap → List Loc → Prop} (C : Cx p l s m meth c Z x0 code maxL none) (X : Stand p l e R s m args below meth c T locs cells slots) {pc : Nat} {Ls : Array Slot} (hd : decode code pc = .ok (.return_, 1))
    (hQ : Q none T.heap locs) (hk : cells ≤ k) (hn : slots ≤ n) : Go p.tables e below (End s Q k n) T (mkF m pc Ls []) :=
  g_out C X (v := none) (fun _ => rfl) (fun fs hr => X.returnOut C.exec C.rets (C.at hd) hr) hQ hk hn
/-! calls -/
theorem g_callS (C : Cx p l s m meth c Z x0 code maxL ret) (X : Stand p l e R s m args below meth c T locs cells slots) {index : Nat} {y : MethodName} {bytes : ByteArray} {mL : Nat} {rt : Option FieldType} {rm : Room} {as : Array Value} {Q : Option Value → Heap → List Loc → Prop} (K0 : Con l Z y bytes mL rt rm as h Q)
    (w1 : (Cond.methodLink x0.cls index y).before a0 Z = true) (w2 : (Cond.static y).before a0 Z = true) (w3 : (Cond.initialized y.cls).before a0 Z = true) (w4 : (Cond.code y bytes mL rt).before a0 Z = true)
    (hy : y.cls ≠ "java/lang/invoke/MethodHandle" ∧ y.cls ≠ "java/lang/invoke/VarHandle") (eT : T.heap = h) {pc pc' : Nat} {Ls : Array Slot} {st : List Value} (hd : decode code pc = .ok (.invokestatic index, 3)) (hsz : Ls.size = maxL)
    {ps : List FieldType} {r : Option FieldType} (hpd : parseMethodDescriptor y.desc = some ⟨ps, r⟩) (argsL rest : List Value) (hlen : argsL.length = ps.length) (has : argsL.toArray = as) (hst : st = argsL.reverse ++ rest) (W : Nat) (hW : (rest.map fun v => v.category).sum = W)
    (hfr : rm.frames + 1 ≤ R.frames) (hlo : W + (mL + 11) + rm.locals ≤ R.locals) (hce : cells + rm.cells ≤ R.cells) (hsl : slots + rm.slots ≤ R.slots) (hp : pc + 3 = pc')
    (K : ∀ v T' L, Stand p l e R s m args below meth c T' (locs ++ L) (cells + rm.cells) (slots + rm.slots) → Q v T'.heap L → Go p.tables e below G T' (mkF m pc' Ls (v.toList ++ rest))) : Go p.tables e below G T (mkF m pc Ls st) := by
  subst hp has
  obtain ⟨v, _, ⟨T1, L1, k1, n1⟩, -, X1, ⟨Lc, hQ, q1, q2, q3⟩, st1⟩ := Jvm.LawKit.callS X C.exec (y := y) C.own (mvT C.warm w1) (mvT C.warm w2) (mvT C.warm w3) (mvT C.warm w4) hy (backOf (W := W) (K0 []) C.warm w4 w3 hfr hlo)
    (g := mkF m pc Ls st) rfl (by rw [C.maxl]; exact hsz) (argsL := argsL) (rest := rest) (lenOf hpd hlen) hst (by show 2 * 0 + _ ≤ _; rw [hW]; omega) (C.at hd) (fun _ _ => ⟨rfl, eT, hce, hsl⟩)
  dsimp only [Pt.U, Pt.locs, Pt.cells, Pt.slots] at X1 q1 q2 q3 st1 hQ
  subst q1 q2 q3
  exact Go.step st1 (K v T1 Lc X1 hQ)
theorem go_trans {tb : Tables} {T1 : State} {g g1 : JFrame} (st : Steps tb e below (T.setTop g) (T1.setTop g1)) (k : Go tb e below G T1 g1) : Go tb e below G T g := by
  obtain ⟨s2, o, h1, h2⟩ := k
  exact ⟨s2, o, st.trans h1, h2⟩
theorem g_callI (C : Cx p l s m meth c Z x0 code maxL ret) (X : Stand p l e R s m args below meth c T locs cells slots) {index : Nat} {y : MethodName} {bytes : ByteArray} {mL : Nat} {rm : Room} {as : Array Value} {Q : Option Value → Heap → List Loc → Prop} (K0 : Con l Z y bytes mL none rm as h Q) (hy1 : y.name = "<init>")
    (w1 : (Cond.methodLink x0.cls index y).before a0 Z = true) (w2 : (Cond.instanceMethod y).before a0 Z = true) (w3 : (Cond.initialized y.cls).before a0 Z = true) (w4 : (Cond.code y bytes mL none).before a0 Z = true)
    (hy : y.cls ≠ "java/lang/invoke/MethodHandle" ∧ y.cls ≠ "java/lang/invoke/VarHandle") (eT : T.heap = h) {pc pc' : Nat} {Ls : Array Slot} {st : List Value} (hd : decode code pc = .ok (.invokespecial index, 3)) (hsz : Ls.size = maxL)
    {ps : List FieldType} {r : Option FieldType} (hpd : parseMethodDescriptor y.desc = some ⟨ps, r⟩) (a : Addr) (argsL rest : List Value) (hlen : argsL.length = ps.length) (has : (.ref a :: argsL).toArray = as) (hst : st = argsL.reverse ++ .ref a :: rest) (W : Nat) (hW : (rest.map fun v => v.category).sum = W)
    (hfr : rm.frames + 1 ≤ R.frames) (hlo : W + (mL + 11) + rm.locals ≤ R.locals) (hce : cells + rm.cells ≤ R.cells) (hsl : slots + rm.slots ≤ R.slots) (hp : pc + 3 = pc')
    (K : ∀ v T' L, Stand p l e R s m args below meth c T' (locs ++ L) (cells + rm.cells) (slots + rm.slots) → Q v T'.heap L → Go p.tables e below G T' (mkF m pc' Ls (v.toList ++ rest))) : Go p.tables e below G T (mkF m pc Ls st) := by
  subst hp has
  obtain ⟨v, _, ⟨T1, L1, k1, n1⟩, -, X1, ⟨Lc, hQ, q1, q2, q3⟩, st1⟩ := X.specialBack C.exec (y := y) hy1 C.own (mvT C.warm w1) (mvT C.warm w2) (mvT C.warm w4) hy (backOf (W := W) (K0 []) C.warm w4 w3 hfr hlo)
    (g := mkF m pc Ls st) rfl (by rw [C.maxl]; exact hsz) (Steps.refl _) (a := a) (argsL := argsL) (rest := rest) (lenOf hpd hlen) hst (by show 2 * 0 + _ ≤ _; rw [hW]; omega) (C.at hd) (fun _ _ => ⟨rfl, eT, hce, hsl⟩)
  dsimp only [Pt.U, Pt.locs, Pt.cells, Pt.slots] at X1 q1 q2 q3 st1 hQ
  subst q1 q2 q3
  exact go_trans st1 (K v T1 Lc X1 hQ)
theorem g_callV (C : Cx p l s m meth c Z x0 code maxL ret) (X : Stand p l e R s m args below meth c T locs cells slots) {index : Nat} {y : MethodName} {cls : String} {bytes : ByteArray} {mL : Nat} {rt : Option FieldType} {rm : Room} {as : Array Value} {Q : Option Value → Heap → List Loc → Prop} (K0 : Con l Z y bytes mL rt rm as h Q)
    (w1 : (Cond.methodLink x0.cls index y).before a0 Z = true) (w2 : (Cond.declares y).before a0 Z = true) (w5 : (Cond.selects cls y y).before a0 Z = true) (w6 : (Cond.instanceMethod y).before a0 Z = true) (w3 : (Cond.initialized y.cls).before a0 Z = true) (w4 : (Cond.code y bytes mL rt).before a0 Z = true)
    (hy : y.cls ≠ "java/lang/invoke/MethodHandle" ∧ y.cls ≠ "java/lang/invoke/VarHandle") (eT : T.heap = h) {a : Addr} (E : Exa Z h a cls) {pc pc' : Nat} {Ls : Array Slot} {st : List Value} (hd : decode code pc = .ok (.invokevirtual index, 3)) (hsz : Ls.size = maxL)
    {ps : List FieldType} {r : Option FieldType} (hpd : parseMethodDescriptor y.desc = some ⟨ps, r⟩) (argsL rest : List Value) (hlen : argsL.length = ps.length) (has : (.ref a :: argsL).toArray = as) (hst : st = argsL.reverse ++ .ref a :: rest) (W : Nat) (hW : (rest.map fun v => v.category).sum = W)
    (hfr : rm.frames + 1 ≤ R.frames) (hlo : W + (mL + 11) + rm.locals ≤ R.locals) (hce : cells + rm.cells ≤ R.cells) (hsl : slots + rm.slots ≤ R.slots) (hp : pc + 3 = pc')
    (K : ∀ v T' L, Stand p l e R s m args below meth c T' (locs ++ L) (cells + rm.cells) (slots + rm.slots) → Q v T'.heap L → Go p.tables e below G T' (mkF m pc' Ls (v.toList ++ rest))) : Go p.tables e below G T (mkF m pc Ls st) := by
  subst hp has
  obtain ⟨cq, kq, qa, qb, qc⟩ := isOf C.warm eT E
  obtain ⟨v, _, ⟨T1, L1, k1, n1⟩, -, X1, ⟨Lc, hQ, q1, q2, q3⟩, st1⟩ := X.virtualBack C.exec (y := y) (z := y) C.own (mvT C.warm w1) (mvT C.warm w2) (notFace_of_selects (args := #[]) (mvT C.warm w5)) (mvT C.warm w5) (mvT C.warm w6) hy (backOf (W := W) (K0 []) C.warm w4 w3 hfr hlo) qa qc
    (g := mkF m pc Ls st) rfl (by rw [C.maxl]; exact hsz) (Steps.refl _) (argsL := argsL) (rest := rest) (lenOf hpd hlen) hst (by show 2 * 0 + _ ≤ _; rw [hW]; omega) (C.at hd) (fun _ _ => ⟨rfl, eT, hce, hsl⟩)
  dsimp only [Pt.U, Pt.locs, Pt.cells, Pt.slots] at X1 q1 q2 q3 st1 hQ
  subst q1 q2 q3
  exact go_trans st1 (K v T1 Lc X1 hQ)
theorem g_initO (C : Cx p l s m meth c Z x0 code maxL ret) (X : Stand p l e R s m args below meth c T locs cells slots) {index : Nat} (w1 : (Cond.methodLink x0.cls index Lib.objectInit).before a0 Z = true) (w2 : (Cond.instanceMethod Lib.objectInit).before a0 Z = true) (w3 : (Cond.code Lib.objectInit ⟨#[0xb1]⟩ 1 none).before a0 Z = true) (eT : T.heap = h)
    {pc pc' : Nat} {Ls : Array Slot} {a : Addr} {rest : List Value} (hd : decode code pc = .ok (.invokespecial index, 3)) (hsz : Ls.size = maxL) (W : Nat) (hW : (rest.map fun v => v.category).sum = W) (hfr : 1 ≤ R.frames) (hlo : W + 12 ≤ R.locals) (hp : pc + 3 = pc')
    (K : ∀ T', Stand p l e R s m args below meth c T' locs cells slots → T'.heap = h → Go p.tables e below G T' (mkF m pc' Ls rest)) : Go p.tables e below G T (mkF m pc Ls (.ref a :: rest)) := by
  subst hp
  obtain ⟨T1, X1, e1, st1⟩ := initO X C.exec C.warm C.own w1 w2 w3 eT (g := mkF m pc Ls (.ref a :: rest)) rfl (by rw [C.maxl]; exact hsz) rfl (C.at hd) hfr (W := W) (by show 2 * 0 + _ ≤ _; rw [hW]; omega) hlo
  exact Go.step st1 (K T1 X1 e1)
/-! the heap -/
theorem g_new (C : Cx p l s m meth c Z x0 code maxL ret) (X : Stand p l e R s m args below meth c T locs cells slots) {cls : String} {index n : Nat} (w : (Cond.classLink x0.cls index cls).before a0 Z = true) (wi : (Cond.instantiable cls n).before a0 Z = true) (wz : (Cond.initialized cls).before a0 Z = true) (eT : T.heap = h)
    {pc pc' : Nat} {Ls : Array Slot} {st : List Value} (hd : decode code pc = .ok (.new index, 3)) (hc : cells + 1 ≤ R.cells) (hl : slots + n ≤ R.slots) (hp : pc + 3 = pc')
    (K : ∀ T' h' a, a = h.size → Stand p l e R s m args below meth c T' locs (cells + 1) (slots + n) → T'.heap = h' → Ext h h' → Exa Z h' a cls → (∀ {O nm d : String} {ty : FieldType}, Laid Z a0 cls O nm d → parseFieldDescriptor d = some ty → Fld Z h' a O nm d (defaultValue ty)) → Go p.tables e below G T' (mkF m pc' Ls (.ref a :: st))) :
    Go p.tables e below G T (mkF m pc Ls st) := by
  subst hp
  obtain ⟨T1, h1, X1, e1, E1, A1, D1, -, st1⟩ := newO X C.exec C.warm C.own w wi wz eT (g := mkF m pc Ls st) rfl (C.at hd) hc hl
  exact Go.step st1 (K T1 h1 h.size rfl X1 e1 E1 A1 D1)
theorem g_newP (C : Cx p l s m meth c Z x0 code maxL ret) (X : Stand p l e R s m args below meth c T locs cells slots) {aty : ArrayType} (w : (Cond.arrayClass (newarray.typeOf aty)).before a0 Z = true) (eT : T.heap = h)
    {pc pc' : Nat} {Ls : Array Slot} {st : List Value} {z : Int32} (hd : decode code pc = .ok (.newarray aty, 2)) (hz : ¬ z < 0) (cap : Nat) (hcap : z.toNatClampNeg ≤ cap) (hb : cap * 8 ≤ 536870912) (hc : cells + 1 ≤ R.cells) (hl : slots + cap ≤ R.slots) (hp : pc + 2 = pc')
    (K : ∀ T' h' a k, a = h.size → Stand p l e R s m args below meth c T' locs (cells + 1) (slots + cap) → T'.heap = h' → Ext h h' → Arv Z h' a k (newarray.typeOf aty) z [] (defaultValue (newarray.typeOf aty)) → Go p.tables e below G T' (mkF m pc' Ls (.ref a :: st))) :
    Go p.tables e below G T (mkF m pc Ls (.int z :: st)) := by
  subst hp
  obtain ⟨T1, h1, cA, X1, e1, E1, A1, st1⟩ := newP X C.exec C.warm w eT (g := mkF m pc Ls (.int z :: st)) rfl (C.at hd) rfl hz hcap hb hc hl
  exact Go.step st1 (K T1 h1 h.size cA rfl X1 e1 E1 (Arv.new A1 hz))
theorem g_getF (C : Cx p l s m meth c Z x0 code maxL ret) (X : Stand p l e R s m args below meth c T locs cells slots) {R0 O n d host : String} {index : Nat} (w : (Cond.fieldLink x0.cls index R0 n d).before a0 Z = true ∨ (Cond.fieldLinkNest x0.cls index R0 n d host).before a0 Z = true) (via : Via Z R0 O n d) (eT : T.heap = h) {a : Addr} {v : Value} (F : Fld Z h a O n d v)
    {pc pc' : Nat} {Ls : Array Slot} {st : List Value} (hd : decode code pc = .ok (.getfield index, 3)) (hp : pc + 3 = pc')
    (K : ∀ T', Stand p l e R s m args below meth c T' locs cells slots → T'.heap = h → Go p.tables e below G T' (mkF m pc' Ls (v :: st))) : Go p.tables e below G T (mkF m pc Ls (.ref a :: st)) := by
  subst hp
  obtain ⟨T1, X1, e1, st1⟩ := getF X C.exec C.warm C.own w via eT F (g := mkF m pc Ls (.ref a :: st)) rfl rfl (C.at hd)
  exact Go.step st1 (K T1 X1 e1)
theorem g_putF (C : Cx p l s m meth c Z x0 code maxL ret) (X : Stand p l e R s m args below meth c T locs cells slots) {R0 O n d host cls : String} {index kk : Nat} {ty : FieldType} (w : (Cond.fieldLink x0.cls index R0 n d).before a0 Z = true ∨ (Cond.fieldLinkNest x0.cls index R0 n d host).before a0 Z = true) (via : Via Z R0 O n d) (eT : T.heap = h) {a : Addr} {v old : Value} (F : Fld Z h a O n d old) (E : Exa Z h a cls)
    (L : (Cond.lays cls O n d).before a0 Z = true ∨ ((Cond.laysFinal cls O n d).before a0 Z = true ∧ x0.cls = O ∧ x0.name = "<init>")) (wi : (Cond.instantiable cls kk).before a0 Z = true) (hty : parseFieldDescriptor d = some ty) (hn : narrow ty v = v) (hf : fits ty v = true)
    {pc pc' : Nat} {Ls : Array Slot} {st : List Value} (hd : decode code pc = .ok (.putfield index, 3)) (hp : pc + 3 = pc')
    (K : ∀ T' h', Stand p l e R s m args below meth c T' (locs ++ [⟨a, RoadKit.slotOf Z O n d⟩]) cells slots → T'.heap = h' → Wr h h' a (RoadKit.slotOf Z O n d) v → Go p.tables e below G T' (mkF m pc' Ls st)) : Go p.tables e below G T (mkF m pc Ls (v :: .ref a :: st)) := by
  subst hp
  obtain ⟨T1, h1, X1, e1, W1, st1⟩ := putF X C.exec C.warm C.own w via eT F E (L.imp id fun q => ⟨q.1, q.2.1, C.nm.trans q.2.2⟩) wi hty hn hf (g := mkF m pc Ls (v :: .ref a :: st)) rfl rfl (C.at hd)
  exact Go.step st1 (K T1 h1 X1 e1 W1)
/-- an array whose values are a list: read, length, store -/
theorem Arv.cell {a : Addr} {k : ClassId} {ty : FieldType} {z : Int32} {vs : List Value} {d : Value} (A : Arv Z h a k ty z vs d) : ∃ cl : Cell, Arr Z h a cl ty ∧ cl.slots.size = z.toNatClampNeg ∧ ¬ z < 0 ∧ Has cl vs d := by
  obtain ⟨cl, A1, -, S, N, H, -⟩ := A
  exact ⟨cl, A1, S, N, H⟩
theorem g_len (C : Cx p l s m meth c Z x0 code maxL ret) (X : Stand p l e R s m args below meth c T locs cells slots) {a : Addr} {k : ClassId} {ty : FieldType} {z : Int32} {vs : List Value} {d : Value} (eT : T.heap = h) (A : Arv Z h a k ty z vs d) {pc pc' : Nat} {Ls : Array Slot} {st : List Value} (hd : decode code pc = .ok (.arraylength, 1)) (hp : pc + 1 = pc')
    (K : Go p.tables e below G T (mkF m pc' Ls (.int z :: st))) : Go p.tables e below G T (mkF m pc Ls (.ref a :: st)) := by
  subst hp
  obtain ⟨cl, A1, S, N, H⟩ := Arv.cell A
  refine Go.step (fun t q => X.arraylength C.exec (cell := cl) (by rw [eT]; exact A1.1) (State.isArrayOf_alike C.warm.alike A1.2.1) (g := mkF m pc Ls (.ref a :: st)) rfl rfl (C.at hd) t ?_) K
  rw [len_of S N]; exact q
theorem inb {cl : Cell} {z j : Int32} (S : cl.slots.size = z.toNatClampNeg) (h0 : 0 ≤ j.toInt) (h1 : j.toInt < z.toInt) : ¬ (j < 0 ∨ cl.slots.size ≤ j.toNatClampNeg) :=
  inb_of S ⟨fun q => by rw [Int32.lt_iff_toInt_lt] at q; exact absurd q (Int.not_lt.mpr h0), Int32.lt_iff_toInt_lt.mpr h1⟩
theorem g_iaload (C : Cx p l s m meth c Z x0 code maxL ret) (X : Stand p l e R s m args below meth c T locs cells slots) {a : Addr} {k : ClassId} {z j : Int32} {vs : List Value} {d : Value} {v : Int32} (eT : T.heap = h) (A : Arv Z h a k .int z vs d) (h0 : 0 ≤ j.toInt) (h1 : j.toInt < z.toInt) (i : Nat) (hj : j.toNatClampNeg = i) (hv : vs.getD i d = .int v) {pc pc' : Nat} {Ls : Array Slot} {st : List Value} (hd : decode code pc = .ok (.iaload, 1)) (hp : pc + 1 = pc')
    (K : Go p.tables e below G T (mkF m pc' Ls (.int v :: st))) : Go p.tables e below G T (mkF m pc Ls (.int j :: .ref a :: st)) := by
  subst hp
  obtain ⟨cl, A1, S, N, H⟩ := Arv.cell A
  exact Go.step (fun t q => X.iaload C.exec (j := j) (v := .int v) (by rw [eT]; exact A1.1) (State.isArrayOf_alike C.warm.alike A1.2.1) A1.2.2 (inb S h0 h1) (H.at (inb S h0 h1) (by rw [hj]; exact hv)) (g := mkF m pc Ls (.int j :: .ref a :: st)) rfl rfl (C.at hd) t q) K
theorem g_daload (C : Cx p l s m meth c Z x0 code maxL ret) (X : Stand p l e R s m args below meth c T locs cells slots) {a : Addr} {k : ClassId} {z j : Int32} {vs : List Value} {d : Value} {v : UInt64} (eT : T.heap = h) (A : Arv Z h a k .double z vs d) (h0 : 0 ≤ j.toInt) (h1 : j.toInt < z.toInt) (i : Nat) (hj : j.toNatClampNeg = i) (hv : vs.getD i d = .double v) {pc pc' : Nat} {Ls : Array Slot} {st : List Value} (hd : decode code pc = .ok (.daload, 1)) (hp : pc + 1 = pc')
    (K : Go p.tables e below G T (mkF m pc' Ls (.double v :: st))) : Go p.tables e below G T (mkF m pc Ls (.int j :: .ref a :: st)) := by
  subst hp
  obtain ⟨cl, A1, S, N, H⟩ := Arv.cell A
  exact Go.step (fun t q => X.daload C.exec (j := j) (v := .double v) (by rw [eT]; exact A1.1) (State.isArrayOf_alike C.warm.alike A1.2.1) A1.2.2 (inb S h0 h1) (H.at (inb S h0 h1) (by rw [hj]; exact hv)) (g := mkF m pc Ls (.int j :: .ref a :: st)) rfl rfl (C.at hd) t q) K
theorem g_aaload (C : Cx p l s m meth c Z x0 code maxL ret) (X : Stand p l e R s m args below meth c T locs cells slots) {a : Addr} {k : ClassId} {z j : Int32} {ty : FieldType} {vs : List Value} {d v : Value} (eT : T.heap = h) (A : Arv Z h a k ty z vs d) (hty : ty.isReference = true) (hr : v.isRef = true) (h0 : 0 ≤ j.toInt) (h1 : j.toInt < z.toInt) (i : Nat) (hj : j.toNatClampNeg = i) (hv : vs.getD i d = v) {pc pc' : Nat} {Ls : Array Slot} {st : List Value} (hd : decode code pc = .ok (.aaload, 1)) (hp : pc + 1 = pc')
    (K : Go p.tables e below G T (mkF m pc' Ls (v :: st))) : Go p.tables e below G T (mkF m pc Ls (.int j :: .ref a :: st)) := by
  subst hp
  obtain ⟨cl, A1, S, N, H⟩ := Arv.cell A
  exact Go.step (fun t q => X.aaload C.exec (j := j) (v := v) (by rw [eT]; exact A1.1) (State.isArrayOf_alike C.warm.alike A1.2.1) hty A1.2.2 (inb S h0 h1) (H.at (inb S h0 h1) (by rw [hj]; exact hv)) (g := mkF m pc Ls (.int j :: .ref a :: st)) rfl rfl (C.at hd) t q) K
theorem Arv.put {h' : Heap} {a : Addr} {k : ClassId} {ty : FieldType} {z j : Int32} {vs : List Value} {d v : Value} (A : Arv Z h a k ty z vs d) (W : Wr h h' a j.toNatClampNeg v) (hv : fits ty v = true) (i : Nat) (hj : j.toNatClampNeg = i) (n : Nat) (hi : i < vs.length + n) : Arv Z h' a k ty z ((vs ++ List.replicate n d).set i v) d := by
  obtain ⟨cl, A1, q1, S, N, H, Gf⟩ := Arv.pad A (pad_rep vs d n)
  exact Arv.set A1 q1 S N H Gf hv W i hj (by rw [List.length_append, List.length_replicate]; exact hi)
theorem g_iastore (C : Cx p l s m meth c Z x0 code maxL ret) (X : Stand p l e R s m args below meth c T locs cells slots) {a : Addr} {k : ClassId} {z j x : Int32} {vs : List Value} {d : Value} (eT : T.heap = h) (A : Arv Z h a k .int z vs d) (h0 : 0 ≤ j.toInt) (h1 : j.toInt < z.toInt) (i n : Nat) (hj : j.toNatClampNeg = i) (hi : i < vs.length + n) {pc pc' : Nat} {Ls : Array Slot} {st : List Value} (hd : decode code pc = .ok (.iastore, 1)) (hp : pc + 1 = pc')
    (K : ∀ T' h', Stand p l e R s m args below meth c T' (locs ++ [⟨a, j.toNatClampNeg⟩]) cells slots → T'.heap = h' → Wr h h' a j.toNatClampNeg (.int x) → Arv Z h' a k .int z ((vs ++ List.replicate n d).set i (.int x)) d → Go p.tables e below G T' (mkF m pc' Ls st)) : Go p.tables e below G T (mkF m pc Ls (.int x :: .int j :: .ref a :: st)) := by
  subst hp
  obtain ⟨cl, A1, S, N, H⟩ := Arv.cell A
  obtain ⟨T1, h2, X1, e1, W1, st1⟩ := stI X C.exec C.warm eT A1 (inb S h0 h1) (g := mkF m pc Ls (.int x :: .int j :: .ref a :: st)) rfl rfl (C.at hd)
  exact Go.step st1 (K T1 h2 X1 e1 W1 (Arv.put A W1 rfl i hj n hi))
theorem g_dastore (C : Cx p l s m meth c Z x0 code maxL ret) (X : Stand p l e R s m args below meth c T locs cells slots) {a : Addr} {k : ClassId} {z j : Int32} {x : UInt64} {vs : List Value} {d : Value} (eT : T.heap = h) (A : Arv Z h a k .double z vs d) (h0 : 0 ≤ j.toInt) (h1 : j.toInt < z.toInt) (i n : Nat) (hj : j.toNatClampNeg = i) (hi : i < vs.length + n) {pc pc' : Nat} {Ls : Array Slot} {st : List Value} (hd : decode code pc = .ok (.dastore, 1)) (hp : pc + 1 = pc')
    (K : ∀ T' h', Stand p l e R s m args below meth c T' (locs ++ [⟨a, j.toNatClampNeg⟩]) cells slots → T'.heap = h' → Wr h h' a j.toNatClampNeg (.double x) → Arv Z h' a k .double z ((vs ++ List.replicate n d).set i (.double x)) d → Go p.tables e below G T' (mkF m pc' Ls st)) : Go p.tables e below G T (mkF m pc Ls (.double x :: .int j :: .ref a :: st)) := by
  subst hp
  obtain ⟨cl, A1, S, N, H⟩ := Arv.cell A
  obtain ⟨T1, h2, X1, e1, W1, st1⟩ := stD X C.exec C.warm eT A1 (inb S h0 h1) (g := mkF m pc Ls (.double x :: .int j :: .ref a :: st)) rfl rfl (C.at hd)
  exact Go.step st1 (K T1 h2 X1 e1 W1 (Arv.put A W1 rfl i hj n hi))
theorem g_ldc2J (C : Cx p l s m meth c Z x0 code maxL ret) (X : Stand p l e R s m args below meth c T locs cells slots) {index : Nat} {v : Int64} (w : (Cond.constantLong x0.cls index v).before a0 Z = true) {pc pc' : Nat} {Ls : Array Slot} {st : List Value} (hd : decode code pc = .ok (.ldc2_w index, 3)) (hp : pc + 3 = pc')
    (K : Go p.tables e below G T (mkF m pc' Ls (.long v :: st))) : Go p.tables e below G T (mkF m pc Ls st) := by
  subst hp
  exact Go.step (fun t q => X.ldc2Long C.exec C.own (mvT C.warm w) (g := mkF m pc Ls st) rfl (C.at hd) t q) K
theorem g_ldcI (C : Cx p l s m meth c Z x0 code maxL ret) (X : Stand p l e R s m args below meth c T locs cells slots) {index : Nat} {v : Int32} (w : (Cond.constant x0.cls index v).before a0 Z = true) {pc pc' : Nat} {Ls : Array Slot} {st : List Value} (hd : decode code pc = .ok (.ldc index, 2)) (hp : pc + 2 = pc')
    (K : Go p.tables e below G T (mkF m pc' Ls (.int v :: st))) : Go p.tables e below G T (mkF m pc Ls st) := by
  subst hp
  exact Go.step (fun t q => X.ldcInt C.exec C.own (mvT C.warm w) (g := mkF m pc Ls st) rfl (C.at hd) t q) K
theorem FldE.wr {h' : Heap} {a b : Addr} {C n d : String} {sl : Nat} {v : Value} (W : Wr h h' b sl v) (F : ∃ w, Fld Z h a C n d w) : ∃ w, Fld Z h' a C n d w := by
  obtain ⟨w, F⟩ := F
  by_cases q : a ≠ b ∨ RoadKit.slotOf Z C n d ≠ sl
  · exact ⟨w, F.other W q⟩
  · have q1 : a = b := Decidable.not_not.mp fun z => q (Or.inl z)
    have q2 : RoadKit.slotOf Z C n d = sl := Decidable.not_not.mp fun z => q (Or.inr z)
    subst q1 q2
    exact ⟨v, F.same W⟩
theorem g_ldc2D (C : Cx p l s m meth c Z x0 code maxL ret) (X : Stand p l e R s m args below meth c T locs cells slots) {index : Nat} {b : UInt64} (w : (Cond.constantDouble x0.cls index b).before a0 Z = true) {pc pc' : Nat} {Ls : Array Slot} {st : List Value} (hd : decode code pc = .ok (.ldc2_w index, 3)) (hp : pc + 3 = pc')
    (K : Go p.tables e below G T (mkF m pc' Ls (.double b :: st))) : Go p.tables e below G T (mkF m pc Ls st) := by
  subst hp
  exact Go.step (fun t q => X.ldc2DoubleC C.exec C.own (mvT C.warm w) (g := mkF m pc Ls st) rfl (C.at hd) t q) K
end Walk
/-! doubles that are whole numbers -/
section Dbl
open Jvm.FP.Core Jvm.Free.Fl
theorem nn_of_int {i : Int} {a : UInt64} (q : DInt i a) : NoNaN64 a := val64_no.mpr (DInt_ne_nan q)
def cmpI (i j : Int) : Int32 := if j < i then 1 else if i = j then 0 else -1
theorem cmpI_lt (i j : Int) : (cmpI i j).toInt < 0 ↔ i < j := by
  unfold cmpI
  split
  · exact ⟨fun q => absurd q (by decide), fun q => by omega⟩
  · split
    · exact ⟨fun q => absurd q (by decide), fun q => by omega⟩
    · exact ⟨fun _ => by omega, fun _ => by decide⟩
theorem cmpI_gt (i j : Int) : 0 < (cmpI i j).toInt ↔ j < i := by
  unfold cmpI
  split
  · exact ⟨fun _ => by assumption, fun _ => by decide⟩
  · split
    · exact ⟨fun q => absurd q (by decide), fun q => by omega⟩
    · exact ⟨fun q => absurd q (by decide), fun q => by omega⟩
theorem cmpI_eq (i j : Int) : (cmpI i j).toInt = 0 ↔ i = j := by
  unfold cmpI
  split
  · exact ⟨fun q => absurd q (by decide), fun q => by omega⟩
  · split
    · exact ⟨fun _ => by assumption, fun _ => by decide⟩
    · exact ⟨fun q => absurd q (by decide), fun q => by omega⟩
theorem cmpI_self (i : Int) : cmpI i i = 0 := by
  unfold cmpI
  rw [if_neg (Int.lt_irrefl i), if_pos rfl]
theorem cmpL_lt (x y : Int64) : (XT.cmpL x y).toInt < 0 ↔ x.toInt < y.toInt := by
  unfold XT.cmpL
  rw [← Int64.lt_iff_toInt_lt]
  split
  · rename_i q; exact ⟨fun q => absurd q (by decide), fun q' => absurd q' (Int64.lt_asymm q)⟩
  · split
    · rename_i q; subst q; exact ⟨fun q => absurd q (by decide), fun q' => absurd q' Int64.lt_irrefl⟩
    · rename_i q1 q2; exact ⟨fun _ => by have q3 : ¬ x.toInt = y.toInt := fun q => q2 (Int64.toInt_inj.mp q); rw [Int64.lt_iff_toInt_lt] at q1 ⊢; omega, fun _ => by decide⟩
theorem cmpL_gt (x y : Int64) : 0 < (XT.cmpL x y).toInt ↔ y.toInt < x.toInt := by
  unfold XT.cmpL
  rw [← Int64.lt_iff_toInt_lt]
  split
  · rename_i q; exact ⟨fun _ => q, fun _ => by decide⟩
  · split
    · rename_i q0 q; exact ⟨fun q => absurd q (by decide), fun q' => absurd q' q0⟩
    · rename_i q0 q; exact ⟨fun q => absurd q (by decide), fun q' => absurd q' q0⟩
theorem cmpL_eq (x y : Int64) : (XT.cmpL x y).toInt = 0 ↔ x.toInt = y.toInt := by
  unfold XT.cmpL
  rw [Int64.toInt_inj]
  split
  · rename_i q; exact ⟨fun q => absurd q (by decide), fun q' => absurd q (by rw [q']; exact Int64.lt_irrefl)⟩
  · split
    · rename_i q; exact ⟨fun _ => q, fun _ => by decide⟩
    · rename_i q0 q; exact ⟨fun q => absurd q (by decide), fun q' => absurd q' q⟩
theorem cmpV_of {r : Option Ordering} {i j : Int} (q : r = some (compare i j)) (o : CmpOp) : cmpValue r o = cmpI i j := by
  subst q
  unfold cmpI
  split
  · rename_i q; rw [(compare_gt_iff i j).mpr q]; rfl
  · split
    · rename_i q; rw [(compare_eq_iff i j).mpr q]; rfl
    · rename_i q1 q2; rw [(compare_lt_iff i j).mpr (by omega)]; rfl
theorem dcmp_cmpI {i j : Int} {a b : UInt64} (ha : DInt i a) (hb : DInt j b) (o : CmpOp) : cmpValue (FP.dcmp a b) o = cmpI i j := cmpV_of (dcmp_int ha hb) o
theorem dint_zero : DInt 0 FP.dconst0 := by
  unfold DInt
  rw [show val64 FP.dconst0 = _ from val64_dconst0]
  show signed false (0 * _) = 0 * _
  rw [Nat.zero_mul, Int.zero_mul]; rfl
end Dbl
end Jvm.OwnKit
namespace Jvm.OwnKit
section Dbl
open Jvm.FP.Core Jvm.Free.Fl
theorem i2d_D (x : Int32) : DInt x.toInt (FP.i2d x) := i2d_int x
theorem l2d_D {x : Int64} (h : x.toInt.natAbs ≤ 2 ^ 53) : DInt x.toInt (FP.l2d x) := l2d_int h
theorem dadd_D {i j : Int} {a b : UInt64} (ha : DInt i a) (hb : DInt j b) (h : (i + j).natAbs ≤ 2 ^ 53) : DInt (i + j) (FP.dadd a b) := dadd_int ha hb h
theorem dsub_D {i j : Int} {a b : UInt64} (ha : DInt i a) (hb : DInt j b) (h : (i - j).natAbs ≤ 2 ^ 53) : DInt (i - j) (FP.dsub a b) := dsub_int ha hb h
theorem dmul_D {i j : Int} {a b : UInt64} (ha : DInt i a) (hb : DInt j b) (h : (i * j).natAbs ≤ 2 ^ 53) : DInt (i * j) (FP.dmul a b) := dmul_int ha hb h
theorem dint_one' : DInt 1 FP.dconst1 := dint_one
theorem dneg_int' {i : Int} {a : UInt64} (ha : DInt i a) : DInt (-i) (FP.dneg a) := by
  unfold DInt
  rw [FP.val64_dneg]
  exact whole_negate ha
theorem own_pow_cancel {c k d q1 q2 r1 r2 : Nat} {q r : Int} (hq : (q1 : Int) - q2 = q) (hr : (r1 : Int) - r2 = r) (h : c * 2 ^ (q1 + r2) = k * d * 2 ^ (q2 + r1)) : c * 2 ^ (q - r).toNat = k * d * 2 ^ (r - q).toNat := by
  obtain ⟨n, hn⟩ : ∃ n : Nat, n = min (q1 + r2) (q2 + r1) := ⟨_, rfl⟩
  have e1 : q1 + r2 = (q - r).toNat + n := by omega
  have e2 : q2 + r1 = (r - q).toNat + n := by omega
  rw [e1, e2, Nat.pow_add, Nat.pow_add, ← Nat.mul_assoc, ← Nat.mul_assoc] at h
  exact Nat.eq_of_mul_eq_mul_right (Nat.two_pow_pos n) h
theorem ddiv_int {i j k : Int} {a b : UInt64} (ha : DInt i a) (hb : DInt j b) (hj : j ≠ 0) (hk : i = k * j) (h : k.natAbs ≤ 2 ^ 53) : DInt k (FP.ddiv a b) := by
  unfold DInt at *
  show Whole k (val64 (ddiv a b))
  rw [val64_ddiv]
  cases hva : val64 a with
  | nan => rw [hva] at ha; exact ha.elim
  | inf => rw [hva] at ha; exact ha.elim
  | fin s c q =>
    cases hvb : val64 b with
    | nan => rw [hvb] at hb; exact hb.elim
    | inf => rw [hvb] at hb; exact hb.elim
    | fin t d r =>
      rw [hva] at ha
      rw [hvb] at hb
      have hd : d ≠ 0 := fun q => hj ((whole_zero hb).mp q)
      have h1 := whole_natAbs ha
      have h2 := whole_natAbs hb
      have e1 : quotient b64 (.fin s c q) (.fin t d r) = round b64 (.fin (s != t) k.natAbs 0) := by
        show (if d = 0 then _ else roundRatio b64 (s != t) c d (q - r)) = roundRatio b64 (s != t) k.natAbs 1 0
        rw [if_neg hd]
        refine roundRatio_congr (by omega) (by decide) ?_
        have e2 : c * 2 ^ (q.toNat + (-r).toNat) = k.natAbs * d * 2 ^ ((-q).toNat + r.toNat) := by
          rw [Nat.pow_add, Nat.pow_add, ← Nat.mul_assoc, h1, hk, Int.natAbs_mul]
          calc k.natAbs * j.natAbs * 2 ^ (-q).toNat * 2 ^ (-r).toNat = k.natAbs * 2 ^ (-q).toNat * (j.natAbs * 2 ^ (-r).toNat) := by ac_rfl
            _ = k.natAbs * 2 ^ (-q).toNat * (d * 2 ^ r.toNat) := by rw [h2]
            _ = k.natAbs * d * (2 ^ (-q).toNat * 2 ^ r.toNat) := by ac_rfl
        have e3 := own_pow_cancel (q := q) (r := r) (by omega) (by omega) e2
        rw [Nat.mul_one, show (q - r - 0).toNat = (q - r).toNat by omega, show (0 - (q - r)).toNat = (r - q).toNat by omega]
        exact e3
      rw [e1]
      refine whole_round good_b64 wide_b64 h ?_
      show signed (s != t) (k.natAbs * 2 ^ 0) = k * ((2 ^ 0 : Nat) : Int)
      rw [Nat.pow_zero, Nat.mul_one]
      by_cases hk0 : k = 0
      · subst hk0; exact signed_zero _
      · have hi : i ≠ 0 := by rw [hk]; exact Int.mul_ne_zero hk0 hj
        rw [whole_sign ha hi, whole_sign hb hj]
        unfold signed
        rcases Int.lt_or_gt_of_ne hj with q1 | q1 <;> rcases Int.lt_or_gt_of_ne hk0 with q2 | q2
        · have q3 := Int.mul_pos_of_neg_of_neg q2 q1
          rw [← hk] at q3
          simp [q1, show ¬ i < 0 by omega]; omega
        · have q3 := Int.mul_neg_of_pos_of_neg q2 q1
          rw [← hk] at q3
          simp [q1, q3]; omega
        · have q3 := Int.mul_neg_of_neg_of_pos q2 q1
          rw [← hk] at q3
          simp [show ¬ j < 0 by omega, q3]; omega
        · have q3 := Int.mul_pos q2 q1
          rw [← hk] at q3
          simp [show ¬ j < 0 by omega, show ¬ i < 0 by omega]; omega
end Dbl
end Jvm.OwnKit
namespace Jvm.OwnKit
section Dq
open Jvm.FP.Core Jvm.Free.Fl Op ClassFile
/-- the double a is i / 2^k -/
def DQ (k : Nat) (i : Int) (a : UInt64) : Prop := ∃ s c q, val64 a = .fin s c q ∧ Whole i (.fin s c (q + k))
theorem whole_up {s : Bool} {c : Nat} {q i : Int} (k : Nat) (h : Whole i (.fin s c q)) : Whole (i * ((2 ^ k : Nat) : Int)) (.fin s c (q + k)) := by
  show signed s (c * 2 ^ (q + k).toNat) = i * ((2 ^ k : Nat) : Int) * ((2 ^ (-(q + k)).toNat : Nat) : Int)
  have h : signed s (c * 2 ^ q.toNat) = i * ((2 ^ (-q).toNat : Nat) : Int) := h
  have p : ((2 ^ q.toNat : Nat) : Int) ≠ 0 := by have := Nat.two_pow_pos q.toNat; omega
  rw [signed_mul] at h ⊢
  refine Int.eq_of_mul_eq_mul_right p ?_
  calc signed s c * ((2 ^ (q + k).toNat : Nat) : Int) * ((2 ^ q.toNat : Nat) : Int) = signed s c * ((2 ^ q.toNat : Nat) : Int) * ((2 ^ (q + k).toNat : Nat) : Int) := by ac_rfl
    _ = i * (((2 ^ (-q).toNat : Nat) : Int) * ((2 ^ (q + k).toNat : Nat) : Int)) := by rw [h]; ac_rfl
    _ = i * (((2 ^ k : Nat) : Int) * ((2 ^ (-(q + k)).toNat : Nat) : Int) * ((2 ^ q.toNat : Nat) : Int)) := by
      congr 1
      rw [← Int.natCast_mul, ← Int.natCast_mul, ← Int.natCast_mul, ← Nat.pow_add, ← Nat.pow_add, ← Nat.pow_add]
      congr 2; omega
    _ = i * ((2 ^ k : Nat) : Int) * ((2 ^ (-(q + k)).toNat : Nat) : Int) * ((2 ^ q.toNat : Nat) : Int) := by ac_rfl
theorem whole_inj {s : Bool} {c : Nat} {q i j : Int} (h : Whole i (.fin s c q)) (h' : Whole j (.fin s c q)) : i = j := by
  have h : signed s (c * 2 ^ q.toNat) = i * ((2 ^ (-q).toNat : Nat) : Int) := h
  have h' : signed s (c * 2 ^ q.toNat) = j * ((2 ^ (-q).toNat : Nat) : Int) := h'
  have p : ((2 ^ (-q).toNat : Nat) : Int) ≠ 0 := by have := Nat.two_pow_pos (-q).toNat; omega
  exact Int.eq_of_mul_eq_mul_right p (h.symm.trans h')
theorem whole_down {s : Bool} {c : Nat} {q i : Int} (k : Nat) (h : Whole (i * ((2 ^ k : Nat) : Int)) (.fin s c (q + k))) : Whole i (.fin s c q) := by
  show signed s (c * 2 ^ q.toNat) = i * ((2 ^ (-q).toNat : Nat) : Int)
  have h : signed s (c * 2 ^ (q + k).toNat) = i * ((2 ^ k : Nat) : Int) * ((2 ^ (-(q + k)).toNat : Nat) : Int) := h
  have p : ((2 ^ (q + k).toNat : Nat) : Int) ≠ 0 := by have := Nat.two_pow_pos (q + k).toNat; omega
  rw [signed_mul] at h ⊢
  refine Int.eq_of_mul_eq_mul_right p ?_
  calc signed s c * ((2 ^ q.toNat : Nat) : Int) * ((2 ^ (q + k).toNat : Nat) : Int) = signed s c * ((2 ^ (q + k).toNat : Nat) : Int) * ((2 ^ q.toNat : Nat) : Int) := by ac_rfl
    _ = i * (((2 ^ k : Nat) : Int) * ((2 ^ (-(q + k)).toNat : Nat) : Int) * ((2 ^ q.toNat : Nat) : Int)) := by rw [h]; ac_rfl
    _ = i * (((2 ^ (-q).toNat : Nat) : Int) * ((2 ^ (q + k).toNat : Nat) : Int)) := by
      congr 1
      rw [← Int.natCast_mul, ← Int.natCast_mul, ← Int.natCast_mul, ← Nat.pow_add, ← Nat.pow_add, ← Nat.pow_add]
      congr 2; omega
    _ = i * ((2 ^ (-q).toNat : Nat) : Int) * ((2 ^ (q + k).toNat : Nat) : Int) := by ac_rfl
theorem DQ.of_int {i : Int} {a : UInt64} (k : Nat) (h : DInt i a) : DQ k (i * ((2 ^ k : Nat) : Int)) a := by
  unfold DInt at h
  cases hv : val64 a with
  | nan => rw [hv] at h; exact h.elim
  | inf => rw [hv] at h; exact h.elim
  | fin s c q => rw [hv] at h; exact ⟨s, c, q, hv, whole_up k h⟩
theorem DQ.int {i : Int} {a : UInt64} {k : Nat} (h : DQ k (i * ((2 ^ k : Nat) : Int)) a) : DInt i a := by
  obtain ⟨s, c, q, hv, hw⟩ := h
  unfold DInt
  rw [hv]
  exact whole_down k hw
theorem DQ.ne_nan {k : Nat} {i : Int} {a : UInt64} (h : DQ k i a) : val64 a ≠ .nan := by
  obtain ⟨s, c, q, hv, -⟩ := h
  rw [hv]; exact Datum.noConfusion
theorem nn_of_q {k : Nat} {i : Int} {a : UInt64} (h : DQ k i a) : NoNaN64 a := val64_no.mpr h.ne_nan
/-- a number of up to 53 digits over 2^k is a double -/
theorem q_round {k : Nat} (hk : k ≤ 1022) {s : Bool} {c : Nat} {q i : Int} (h : Whole i (.fin s c (q + k))) (hi : i.natAbs ≤ 2 ^ 53) : ∃ c' q', round b64 (.fin s c q) = .fin s c' q' ∧ Whole i (.fin s c' (q' + k)) := by
  by_cases h0 : i = 0
  · have hc : c = 0 := (whole_zero h).mpr h0
    subst hc h0
    refine ⟨0, b64.qmin, rfl, ?_⟩
    show signed s (0 * _) = 0 * _
    rw [Nat.zero_mul, Int.zero_mul]; exact signed_zero s
  · obtain ⟨c', q', hfit, hv⟩ := natFit good_b64 wide_b64 s (n := i.natAbs) hi
    have hpos : 0 < i.natAbs := Int.natAbs_pos.mpr h0
    have hv' : i.natAbs * 2 ^ (-q').toNat = c' * 2 ^ q'.toNat := by
      rw [show (0 - q').toNat = (-q').toNat by omega, show (q' - 0).toNat = q'.toNat by omega, Nat.mul_one] at hv
      exact hv
    obtain ⟨f1, f2, f3, f4⟩ := hfit
    have f1 : c' < 2 ^ 53 := f1
    have hq : -53 < q' := by
      refine Int.lt_of_not_ge fun hle => ?_
      have e1 : q'.toNat = 0 := by omega
      rw [e1, Nat.pow_zero, Nat.mul_one] at hv'
      have e2 : 2 ^ 53 ≤ 2 ^ (-q').toNat := Nat.pow_le_pow_right (by decide) (by omega)
      have e3 : 2 ^ (-q').toNat ≤ i.natAbs * 2 ^ (-q').toNat := Nat.le_mul_of_pos_left _ hpos
      omega
    have hqm : b64.qmin = -1074 := qmin_b64
    have f5 : b64.tails ≤ c' := by
      rcases f4 with f4 | f4
      · omega
      · exact f4
    have hfit' : FP.Core.fits b64 (.fin s c' (q' - k)) := ⟨f1, by omega, by omega, Or.inr f5⟩
    refine ⟨c', q' - k, ?_, ?_⟩
    · have hn := whole_natAbs h
      refine roundRatio_exact good_b64 (by decide) hfit' ?_
      rw [Nat.mul_one]
      -- c 2^(q+k)+ = |i| 2^(q+k)- and |i| 2^(-q')+ = c' 2^q'+
      have e1 : c * 2 ^ ((q + k).toNat + (-q').toNat) = c' * 1 * 2 ^ ((-(q + k)).toNat + q'.toNat) := by
        rw [Nat.pow_add, Nat.pow_add, ← Nat.mul_assoc, hn, Nat.mul_one]
        calc i.natAbs * 2 ^ (-(q + k)).toNat * 2 ^ (-q').toNat = i.natAbs * 2 ^ (-q').toNat * 2 ^ (-(q + k)).toNat := by ac_rfl
          _ = c' * (2 ^ (-(q + k)).toNat * 2 ^ q'.toNat) := by rw [hv']; ac_rfl
      have e2 := own_pow_cancel (q := q + k) (r := q') (by omega) (by omega) e1
      rw [Nat.mul_one] at e2
      rw [show (q - (q' - (k : Int))).toNat = (q + k - q').toNat by omega, show (q' - (k : Int) - q).toNat = (q' - (q + k)).toNat by omega]
      exact e2
    · rw [show q' - (k : Int) + k = q' by omega]
      show signed s (c' * 2 ^ q'.toNat) = i * ((2 ^ (-q').toNat : Nat) : Int)
      rw [← hv', signed_mul]
      congr 1
      rw [whole_sign h h0]
      unfold signed
      by_cases h : i < 0 <;> simp [h] <;> omega
theorem dadd_q {k : Nat} (hk : k ≤ 1022) {i j : Int} {a b : UInt64} (ha : DQ k i a) (hb : DQ k j b) (h : (i + j).natAbs ≤ 2 ^ 53) : DQ k (i + j) (FP.dadd a b) := by
  obtain ⟨s, c, q, hva, wa⟩ := ha
  obtain ⟨t, d, r, hvb, wb⟩ := hb
  have w := whole_sum wa wb
  have e : exactSum (.fin s c (q + k)) (.fin t d (r + k)) = .fin (sumSign s t (sumUnits s c q t d r (min q r))) (sumUnits s c q t d r (min q r)).natAbs (min q r + k) := by
    have e1 : min (q + k) (r + (k : Int)) = min q r + k := by omega
    have e2 : sumUnits s c (q + k) t d (r + k) (min q r + k) = sumUnits s c q t d r (min q r) := by
      unfold sumUnits inUnits
      rw [show (q + (k : Int) - (min q r + k)).toNat = (q - min q r).toNat by omega, show (r + (k : Int) - (min q r + k)).toNat = (r - min q r).toNat by omega]
    show Datum.fin _ _ _ = _
    rw [e1, e2]
  rw [e] at w
  obtain ⟨c', q', hr, hw⟩ := q_round hk w h
  refine ⟨_, c', q', ?_, hw⟩
  show val64 (dadd a b) = _
  rw [val64_dadd, hva, hvb]
  exact hr
theorem dneg_q {k : Nat} {i : Int} {a : UInt64} (ha : DQ k i a) : DQ k (-i) (FP.dneg a) := by
  obtain ⟨s, c, q, hva, wa⟩ := ha
  exact ⟨!s, c, q, by rw [FP.val64_dneg, hva]; rfl, whole_negate wa⟩
theorem dsub_q {k : Nat} (hk : k ≤ 1022) {i j : Int} {a b : UInt64} (ha : DQ k i a) (hb : DQ k j b) (h : (i - j).natAbs ≤ 2 ^ 53) : DQ k (i - j) (FP.dsub a b) := by
  obtain ⟨t, d, r, hvb, wb⟩ := hb
  have hb' : DQ k (-j) (FP.Core.dneg b) := ⟨!t, d, r, by rw [FP.Core.val64_dneg, hvb]; rfl, whole_negate wb⟩
  rw [show FP.dsub a b = FP.dadd a (FP.Core.dneg b) from dsub_eq a b]
  exact dadd_q hk ha hb' h
theorem dmul_q {k : Nat} (hk : k ≤ 1022) {i j n : Int} {a b : UInt64} (ha : DQ k i a) (hb : DQ k j b) (hn : i * j = n * ((2 ^ k : Nat) : Int)) (h : n.natAbs ≤ 2 ^ 53) : DQ k n (FP.dmul a b) := by
  obtain ⟨s, c, q, hva, wa⟩ := ha
  obtain ⟨t, d, r, hvb, wb⟩ := hb
  have w := whole_product wa wb
  rw [hn] at w
  have w' : Whole n (.fin (s != t) (c * d) (q + r + k)) := by
    refine whole_down k ?_
    rw [show q + r + (k : Int) + k = q + k + (r + k) by omega]
    exact w
  obtain ⟨c', q', hr, hw⟩ := q_round hk w' h
  refine ⟨_, c', q', ?_, hw⟩
  show val64 (dmul a b) = _
  rw [val64_dmul, hva, hvb]
  exact hr
theorem ddiv_q {k : Nat} (hk : k ≤ 1022) {i j n : Int} {a b : UInt64} (ha : DQ k i a) (hb : DQ k j b) (hj : j ≠ 0) (hn : i * ((2 ^ k : Nat) : Int) = n * j) (h : n.natAbs ≤ 2 ^ 53) : DQ k n (FP.ddiv a b) := by
  obtain ⟨s, c, q, hva, wa⟩ := ha
  obtain ⟨t, d, r, hvb, wb⟩ := hb
  have hd : d ≠ 0 := fun q => hj ((whole_zero wb).mp q)
  have h1 := whole_natAbs wa
  have h2 := whole_natAbs wb
  have h3 : i.natAbs * 2 ^ k = n.natAbs * j.natAbs := by
    have := congrArg Int.natAbs hn
    rw [Int.natAbs_mul, Int.natAbs_mul, Int.natAbs_natCast] at this
    exact this
  have w : Whole n (.fin (s != t) n.natAbs (-(k : Int) + k)) := by
    rw [show -(k : Int) + k = 0 by omega]
    show signed (s != t) (n.natAbs * 2 ^ 0) = n * ((2 ^ 0 : Nat) : Int)
    rw [Nat.pow_zero, Nat.mul_one]
    by_cases hn0 : n = 0
    · subst hn0; exact signed_zero _
    · have pk : (0 : Int) < ((2 ^ k : Nat) : Int) := by have := Nat.two_pow_pos k; omega
      have hi : i ≠ 0 := fun hi => by
        rw [hi, Int.zero_mul] at hn
        exact Int.mul_ne_zero hn0 hj hn.symm
      rw [whole_sign wa hi, whole_sign wb hj]
      have si : i < 0 ↔ n * j < 0 := by
        rw [← hn]
        constructor
        · intro q; exact Int.mul_neg_of_neg_of_pos q pk
        · intro q
          refine Int.lt_of_not_ge fun q2 => ?_
          have := Int.mul_nonneg q2 (Int.le_of_lt pk)
          omega
      unfold signed
      rcases Int.lt_or_gt_of_ne hj with q1 | q1 <;> rcases Int.lt_or_gt_of_ne hn0 with q2 | q2
      · have q3 := Int.mul_pos_of_neg_of_neg q2 q1
        simp [q1, show ¬ i < 0 by rw [si]; omega]; omega
      · have q3 := Int.mul_neg_of_pos_of_neg q2 q1
        simp [q1, si.mpr q3]; omega
      · have q3 := Int.mul_neg_of_neg_of_pos q2 q1
        simp [show ¬ j < 0 by omega, si.mpr q3]; omega
      · have q3 := Int.mul_pos q2 q1
        simp [show ¬ j < 0 by omega, show ¬ i < 0 by rw [si]; omega]; omega
  obtain ⟨c', q', hr, hw⟩ := q_round hk w h
  refine ⟨_, c', q', ?_, hw⟩
  show val64 (ddiv a b) = _
  rw [val64_ddiv, hva, hvb, ← hr]
  show (if d = 0 then _ else roundRatio b64 (s != t) c d (q - r)) = roundRatio b64 (s != t) n.natAbs 1 (-(k : Int))
  rw [if_neg hd]
  refine roundRatio_congr (by omega) (by decide) ?_
  rw [Nat.mul_one]
  have e2 : c * 2 ^ (((q + k).toNat + k) + (-(r + k)).toNat) = n.natAbs * d * 2 ^ ((-(q + k)).toNat + (r + k).toNat) := by
    calc c * 2 ^ (((q + k).toNat + k) + (-(r + k)).toNat) = c * 2 ^ (q + k).toNat * 2 ^ k * 2 ^ (-(r + k)).toNat := by rw [Nat.pow_add, Nat.pow_add]; ac_rfl
      _ = i.natAbs * 2 ^ k * 2 ^ (-(q + k)).toNat * 2 ^ (-(r + k)).toNat := by rw [h1]; ac_rfl
      _ = n.natAbs * 2 ^ (-(q + k)).toNat * (j.natAbs * 2 ^ (-(r + k)).toNat) := by rw [h3]; ac_rfl
      _ = n.natAbs * d * (2 ^ (-(q + k)).toNat * 2 ^ (r + k).toNat) := by rw [← h2]; ac_rfl
      _ = _ := by rw [Nat.pow_add]
  have e3 := own_pow_cancel (q := q + k + k) (r := r + k) (q1 := (q + k).toNat + k) (by omega) (by omega) e2
  rw [show (q - r - -(k : Int)).toNat = (q + k + k - (r + k)).toNat by omega, show (-(k : Int) - (q - r)).toNat = (r + k - (q + k + k)).toNat by omega]
  exact e3
theorem dcmp_q {k : Nat} {i j : Int} {a b : UInt64} (ha : DQ k i a) (hb : DQ k j b) : dcmp a b = some (compare i j) := by
  obtain ⟨s, c, q, hva, wa⟩ := ha
  obtain ⟨t, d, r, hvb, wb⟩ := hb
  have w := order_whole wa wb
  show order (val64 a) (val64 b) = _
  rw [hva, hvb, ← w]
  show some (compare _ _) = some (compare _ _)
  have e1 : min (q + k) (r + (k : Int)) = min q r + k := by omega
  rw [e1]
  unfold inUnits
  rw [show (q + (k : Int) - (min q r + k)).toNat = (q - min q r).toNat by omega, show (r + (k : Int) - (min q r + k)).toNat = (r - min q r).toNat by omega]
theorem dcmp_cmpQ {k : Nat} {i j : Int} {a b : UInt64} (ha : DQ k i a) (hb : DQ k j b) (o : CmpOp) : cmpValue (FP.dcmp a b) o = cmpI i j := cmpV_of (dcmp_q ha hb) o
end Dq
end Jvm.OwnKit
namespace Jvm.OwnKit
section Dz
open Jvm.FP.Core Jvm.Free.Fl Op ClassFile
/-- a double's value in units of 2^-1074 -/
def dz (a : UInt64) : Int := zval b64 (val64 a)
theorem dcmp_dz {a b : UInt64} (ha : NoNaN64 a) (hb : NoNaN64 b) (o : CmpOp) : cmpValue (FP.dcmp a b) o = cmpI (dz a) (dz b) := cmpV_of (dcmp_zval (val64_no.mp ha) (val64_no.mp hb)) o
theorem zmag_whole {k : Nat} (hk : k ≤ 1074) {s : Bool} {c : Nat} {q w : Int} (hq : -1074 ≤ q) (h : Whole w (.fin s c (q + k))) : zmag b64 (.fin s c q) = w.natAbs * 2 ^ (1074 - k) := by
  have h1 := whole_natAbs h
  show c * 2 ^ (q - b64.qmin).toNat = _
  rw [qmin_b64]
  have e1 : c * 2 ^ ((q + k).toNat + (1074 - k)) = w.natAbs * 2 ^ ((-(q + k)).toNat + (1074 - k)) := by
    rw [Nat.pow_add, Nat.pow_add, ← Nat.mul_assoc, ← Nat.mul_assoc, h1]
  by_cases hs : 0 ≤ q + k
  · rw [show (-(q + (k : Int))).toNat = 0 by omega, Nat.zero_add] at e1
    rw [show (q - -1074).toNat = (q + k).toNat + (1074 - k) by omega]; exact e1
  · have p := Nat.two_pow_pos (-(q + (k : Int))).toNat
    rw [show (q + (k : Int)).toNat = 0 by omega, Nat.zero_add, show 1074 - k = (q - -1074).toNat + (-(q + k)).toNat by omega, Nat.pow_add, ← Nat.mul_assoc] at e1
    have e2 := Nat.eq_of_mul_eq_mul_right p (e1.trans (by rw [Nat.pow_add, Nat.pow_add]; ac_rfl : _ = w.natAbs * (2 ^ (q - -1074).toNat * 2 ^ (-(q + (k : Int))).toNat) * 2 ^ (-(q + (k : Int))).toNat))
    rw [e2, ← Nat.pow_add]; congr 2; omega
theorem dz_q {k : Nat} (hk : k ≤ 1074) {w : Int} {V : UInt64} (h : DQ k w V) : dz V = w * ((2 ^ (1074 - k) : Nat) : Int) := by
  obtain ⟨s, c, q, hv, hw⟩ := h
  have hf := val64_fits V
  rw [hv] at hf
  have hq : -1074 ≤ q := by have := hf.2.1; rw [qmin_b64] at this; exact this
  unfold dz zval
  rw [hv, zmag_whole hk hq hw]
  show signed s _ = _
  rw [signed_mul]
  congr 1
  by_cases h0 : w = 0
  · rw [h0]; exact signed_zero s
  · rw [whole_sign hw h0]
    unfold signed
    by_cases h : w < 0 <;> simp [h] <;> omega
theorem dz_int {i : Int} {a : UInt64} (h : DInt i a) : dz a = i * (one64 : Int) := DInt_zval h
/-- a quotient of whole numbers, as a rounding -/
theorem ddiv_round {n d : Int} {a b : UInt64} (ha : DInt n a) (hb : DInt d b) (hd : d ≠ 0) : ∃ s, val64 (ddiv a b) = roundRatio b64 s n.natAbs d.natAbs 0 ∧ (n ≠ 0 → s = (decide (n < 0) != decide (d < 0))) := by
  unfold DInt at *
  rw [val64_ddiv]
  cases hva : val64 a with
  | nan => rw [hva] at ha; exact ha.elim
  | inf => rw [hva] at ha; exact ha.elim
  | fin s c q =>
    cases hvb : val64 b with
    | nan => rw [hvb] at hb; exact hb.elim
    | inf => rw [hvb] at hb; exact hb.elim
    | fin t e r =>
      rw [hva] at ha
      rw [hvb] at hb
      have he : e ≠ 0 := fun q => hd ((whole_zero hb).mp q)
      have h1 := whole_natAbs ha
      have h2 := whole_natAbs hb
      refine ⟨s != t, ?_, fun hn => by rw [whole_sign ha hn, whole_sign hb hd]⟩
      show (if e = 0 then _ else roundRatio b64 (s != t) c e (q - r)) = _
      rw [if_neg he]
      refine roundRatio_congr (by omega) (Int.natAbs_pos.mpr hd) ?_
      have e2 : c * d.natAbs * 2 ^ (q.toNat + (-r).toNat) = n.natAbs * e * 2 ^ ((-q).toNat + r.toNat) := by
        rw [Nat.pow_add, Nat.pow_add]
        calc c * d.natAbs * (2 ^ q.toNat * 2 ^ (-r).toNat) = c * 2 ^ q.toNat * (d.natAbs * 2 ^ (-r).toNat) := by ac_rfl
          _ = n.natAbs * 2 ^ (-q).toNat * (e * 2 ^ r.toNat) := by rw [h1, ← h2]
          _ = n.natAbs * e * (2 ^ (-q).toNat * 2 ^ r.toNat) := by ac_rfl
      have e3 := own_pow_cancel (q := q) (r := r) (by omega) (by omega) e2
      rw [show (q - r - 0).toNat = (q - r).toNat by omega, show (0 - (q - r)).toNat = (r - q).toNat by omega]
      exact e3
theorem ddiv_nn {n d : Int} {a b : UInt64} (ha : DInt n a) (hb : DInt d b) (hd : d ≠ 0) : NoNaN64 (FP.ddiv a b) := by
  obtain ⟨s, hs, -⟩ := ddiv_round ha hb hd
  exact val64_no.mpr (by show val64 (ddiv a b) ≠ _; rw [hs]; exact roundRatio_ne_nan _ _ _ _ _)
theorem ddiv_mag_le {n d w : Int} {k : Nat} (hk : k ≤ 1074) {V : UInt64} {s : Bool} (hd : d ≠ 0) (hV : DQ k w V) (h : n.natAbs * 2 ^ k ≤ w.natAbs * d.natAbs) : zmag b64 (roundRatio b64 s n.natAbs d.natAbs 0) ≤ w.natAbs * 2 ^ (1074 - k) := by
  obtain ⟨t, c, q, hv, hw⟩ := hV
  have hf := val64_fits V
  rw [hv] at hf
  have hq : -1074 ≤ q := by have := hf.2.1; rw [qmin_b64] at this; exact this
  rw [← zmag_whole hk hq hw]
  refine zmag_roundRatio_le good_b64 (e0 := -1074) (Int.natAbs_pos.mpr hd) hf (Datum.noConfusion) (by rw [qmin_b64]; exact Int.le_refl _) (by decide) ?_
  rw [zmag_whole hk hq hw, qmin_b64]
  show n.natAbs * 2 ^ (0 - -1074 : Int).toNat ≤ w.natAbs * 2 ^ (1074 - k) * 2 ^ 0 * d.natAbs
  calc n.natAbs * 2 ^ (0 - -1074 : Int).toNat = n.natAbs * 2 ^ k * 2 ^ (1074 - k) := by rw [Nat.mul_assoc, ← Nat.pow_add]; congr 2; omega
    _ ≤ w.natAbs * d.natAbs * 2 ^ (1074 - k) := Nat.mul_le_mul_right _ h
    _ = w.natAbs * 2 ^ (1074 - k) * 2 ^ 0 * d.natAbs := by rw [Nat.pow_zero, Nat.mul_one]; ac_rfl
theorem ddiv_mag_ge {n d w : Int} {k : Nat} (hk : k ≤ 1074) {V : UInt64} {s : Bool} (hd : d ≠ 0) (hV : DQ k w V) (h : w.natAbs * d.natAbs ≤ n.natAbs * 2 ^ k) : w.natAbs * 2 ^ (1074 - k) ≤ zmag b64 (roundRatio b64 s n.natAbs d.natAbs 0) := by
  obtain ⟨t, c, q, hv, hw⟩ := hV
  have hf := val64_fits V
  rw [hv] at hf
  have hq : -1074 ≤ q := by have := hf.2.1; rw [qmin_b64] at this; exact this
  rw [← zmag_whole hk hq hw]
  refine zmag_roundRatio_ge good_b64 (e0 := -1074) (Int.natAbs_pos.mpr hd) hf (by rw [qmin_b64]; exact Int.le_refl _) (by decide) ?_
  rw [zmag_whole hk hq hw, qmin_b64]
  show w.natAbs * 2 ^ (1074 - k) * 2 ^ 0 * d.natAbs ≤ n.natAbs * 2 ^ (0 - -1074 : Int).toNat
  calc w.natAbs * 2 ^ (1074 - k) * 2 ^ 0 * d.natAbs = w.natAbs * d.natAbs * 2 ^ (1074 - k) := by rw [Nat.pow_zero, Nat.mul_one]; ac_rfl
    _ ≤ n.natAbs * 2 ^ k * 2 ^ (1074 - k) := Nat.mul_le_mul_right _ h
    _ = n.natAbs * 2 ^ (0 - -1074 : Int).toNat := by rw [Nat.mul_assoc, ← Nat.pow_add]; congr 2; omega
/-- a quotient by a positive whole number lies at or below every double that the exact one lies at or below -/
theorem ddiv_le {n d w : Int} {k : Nat} (hk : k ≤ 1074) {a b V : UInt64} (ha : DInt n a) (hb : DInt d b) (hd : 0 < d) (hV : DQ k w V) (h : n * ((2 ^ k : Nat) : Int) ≤ w * d) : dz (FP.ddiv a b) ≤ dz V := by
  have hd0 : d ≠ 0 := by omega
  obtain ⟨s, hs, hsg⟩ := ddiv_round ha hb hd0
  have pk : (0 : Int) < ((2 ^ k : Nat) : Int) := by have := Nat.two_pow_pos k; omega
  rw [dz_q hk hV]
  show zval b64 (val64 (ddiv a b)) ≤ _
  unfold zval
  rw [hs, sgn_roundRatio]
  have e1 : ((w.natAbs * 2 ^ (1074 - k) : Nat) : Int) = (w.natAbs : Int) * ((2 ^ (1074 - k) : Nat) : Int) := by rw [Int.natCast_mul]
  have pU : (0 : Int) < ((2 ^ (1074 - k) : Nat) : Int) := by have := Nat.two_pow_pos (1074 - k); omega
  by_cases hn : n < 0
  · have : s = true := by rw [hsg (by omega)]; simp [hn, show ¬ d < 0 by omega]
    subst this
    show -((zmag b64 (roundRatio b64 true n.natAbs d.natAbs 0) : Nat) : Int) ≤ _
    by_cases hw : 0 ≤ w
    · have := Int.mul_nonneg hw (Int.le_of_lt pU)
      omega
    · have q := ddiv_mag_ge (s := true) hk hd0 hV (n := n) (by
        have q1 : ((w.natAbs * d.natAbs : Nat) : Int) ≤ ((n.natAbs * 2 ^ k : Nat) : Int) := by
          rw [Int.natCast_mul, Int.natCast_mul, show (w.natAbs : Int) = -w by omega, show (d.natAbs : Int) = d by omega, show (n.natAbs : Int) = -n by omega, Int.neg_mul, Int.neg_mul]
          omega
        omega)
      have q2 : w * ((2 ^ (1074 - k) : Nat) : Int) = -((w.natAbs : Int) * ((2 ^ (1074 - k) : Nat) : Int)) := by rw [show (w.natAbs : Int) = -w by omega, Int.neg_mul, Int.neg_neg]
      rw [q2]
      omega
  · have hw : 0 ≤ w := by
      refine Int.not_lt.mp fun hw => ?_
      have q1 := Int.mul_neg_of_neg_of_pos hw hd
      have q2 := Int.mul_nonneg (show 0 ≤ n by omega) (Int.le_of_lt pk)
      omega
    have q := ddiv_mag_le (s := s) hk hd0 hV (n := n) (by
      have q1 : ((n.natAbs * 2 ^ k : Nat) : Int) ≤ ((w.natAbs * d.natAbs : Nat) : Int) := by
        rw [Int.natCast_mul, Int.natCast_mul, show (w.natAbs : Int) = w by omega, show (d.natAbs : Int) = d by omega, show (n.natAbs : Int) = n by omega]
        exact h
      omega)
    have q2 : w * ((2 ^ (1074 - k) : Nat) : Int) = (w.natAbs : Int) * ((2 ^ (1074 - k) : Nat) : Int) := by rw [show (w.natAbs : Int) = w by omega]
    rw [q2]
    cases s
    · show ((zmag b64 (roundRatio b64 false n.natAbs d.natAbs 0) : Nat) : Int) ≤ _
      omega
    · show -((zmag b64 (roundRatio b64 true n.natAbs d.natAbs 0) : Nat) : Int) ≤ _
      have := Int.mul_nonneg (show 0 ≤ (w.natAbs : Int) by omega) (Int.le_of_lt pU)
      omega
theorem dz_dneg (a : UInt64) : dz (FP.dneg a) = -dz a := by unfold dz; rw [FP.val64_dneg]; exact zval_negate _ _
theorem nn_dneg {a : UInt64} (h : NoNaN64 a) : NoNaN64 (FP.dneg a) := val64_no.mpr (by rw [FP.val64_dneg]; exact negate_ne_nan (val64_no.mp h))
theorem ddiv_ge {n d w : Int} {k : Nat} (hk : k ≤ 1074) {a b V : UInt64} (ha : DInt n a) (hb : DInt d b) (hd : 0 < d) (hV : DQ k w V) (h : w * d ≤ n * ((2 ^ k : Nat) : Int)) : dz V ≤ dz (FP.ddiv a b) := by
  have q := ddiv_le hk (dneg_int ha) hb hd (dneg_q hV) (by rw [Int.neg_mul, Int.neg_mul]; omega)
  rw [show FP.ddiv (FP.Core.dneg a) b = FP.Core.dneg (ddiv a b) from ddiv_dneg a b, dz_dneg] at q
  show dz V ≤ dz (ddiv a b)
  have e : dz (FP.Core.dneg (ddiv a b)) = -dz (ddiv a b) := by unfold dz; rw [FP.Core.val64_dneg]; exact zval_negate _ _
  rw [e] at q
  omega
end Dz
end Jvm.OwnKit
namespace Jvm.Pilot.@@N@@
open Jvm Jvm.ClassFile Sem Op Lib Jvm.Free Jvm.Stand Jvm.LawKit Jvm.RoadKit Jvm.OwnKit Bundle Jvm.Pilot.@@N@@.Jvm.D
theorem d1_0 : decode prog_5_method_2_code 0 = .ok (.dload_n 0, 1) := by decide +kernel
theorem d1_1 : decode prog_5_method_2_code 1 = .ok (.dconst 0, 1) := by decide +kernel
theorem d1_2 : decode prog_5_method_2_code 2 = .ok (.dcmp .l, 1) := by decide +kernel
theorem d1_3 : decode prog_5_method_2_code 3 = .ok (.ifCond .lt 13, 3) := by decide +kernel
theorem d1_6 : decode prog_5_method_2_code 6 = .ok (.dload_n 0, 1) := by decide +kernel
theorem d1_7 : decode prog_5_method_2_code 7 = .ok (.dconst 1, 1) := by decide +kernel
theorem d1_8 : decode prog_5_method_2_code 8 = .ok (.dcmp .g, 1) := by decide +kernel
theorem d1_9 : decode prog_5_method_2_code 9 = .ok (.ifCond .gt 7, 3) := by decide +kernel
theorem d1_12 : decode prog_5_method_2_code 12 = .ok (.iconst 1, 1) := by decide +kernel
theorem d1_13 : decode prog_5_method_2_code 13 = .ok (.goto 4, 3) := by decide +kernel
theorem d1_16 : decode prog_5_method_2_code 16 = .ok (.iconst 0, 1) := by decide +kernel
theorem d1_17 : decode prog_5_method_2_code 17 = .ok (.ireturn, 1) := by decide +kernel
theorem pn1 : plainName "com/example/fennec/fennec/core/Degrees" = true := by first | (simp [plainName, overriddenIn]; done) | decide +kernel
theorem pn0 : plainName x.cls = true := by first | (simp [x, plainName, overriddenIn]; done) | decide +kernel
theorem pd1 : parseMethodDescriptor "(D)Z" = some ⟨[.double], some .boolean⟩ := by decide +kernel
theorem own_s : DQ 10 1 (4562146422526312448 : UInt64) := ⟨false, 2 ^ 52, -62, by decide +kernel, by show FP.Core.signed _ _ = _; decide +kernel⟩
theorem own_sn : DQ 10 (-1) (13785518459381088256 : UInt64) := ⟨true, 2 ^ 52, -62, by decide +kernel, by show FP.Core.signed _ _ = _; decide +kernel⟩
theorem own_b : DQ 10 1025 (4607186816846528512 : UInt64) := ⟨false, 1025 * 2 ^ 42, -52, by decide +kernel, by show FP.Core.signed _ _ = _; decide +kernel⟩
theorem own_bn : DQ 10 (-1025) (13830558853701304320 : UInt64) := ⟨true, 1025 * 2 ^ 42, -52, by decide +kernel, by show FP.Core.signed _ _ = _; decide +kernel⟩
theorem own_0 : DQ 0 0 FP.dconst0 := ⟨false, 0, -1074, by decide +kernel, by show FP.Core.signed _ _ = _; decide +kernel⟩
theorem own_1 : DQ 0 1 FP.dconst1 := ⟨false, 2 ^ 52, -52, by decide +kernel, by show FP.Core.signed _ _ = _; decide +kernel⟩
theorem own_1n : DQ 0 (-1) (13830554455654793216 : UInt64) := ⟨true, 2 ^ 52, -52, by decide +kernel, by show FP.Core.signed _ _ = _; decide +kernel⟩
theorem own_z0 : dz FP.dconst0 = 0 := by unfold dz; decide +kernel
theorem own_z1 : dz (13830554455654793216 : UInt64) = -dz FP.dconst1 := by unfold dz; decide +kernel
theorem own_l1 : 0 < dz (4562146422526312448 : UInt64) := by unfold dz; decide +kernel
theorem own_l2 : dz (13785518459381088256 : UInt64) < 0 := by unfold dz; decide +kernel
theorem own_l3 : dz FP.dconst1 < dz (4607186816846528512 : UInt64) := by unfold dz; decide +kernel
theorem own_l4 : dz (13830558853701304320 : UInt64) < -dz FP.dconst1 := by unfold dz; decide +kernel
theorem own_deg {n d : Int} {a b : UInt64} (ha : FP.Core.DInt n a) (hb : FP.Core.DInt d b) (h1 : 1 ≤ d) (h2 : d ≤ 1024) :
    (0 ≤ n → 0 ≤ dz (FP.ddiv a b)) ∧ (n < 0 → dz (FP.ddiv a b) < 0) ∧ (n ≤ 0 → dz (FP.ddiv a b) ≤ 0) ∧ (0 < n → 0 < dz (FP.ddiv a b)) ∧ (n ≤ d → dz (FP.ddiv a b) ≤ dz FP.dconst1) ∧ (d < n → dz FP.dconst1 < dz (FP.ddiv a b)) ∧ (-d ≤ n → -dz FP.dconst1 ≤ dz (FP.ddiv a b)) ∧ (n < -d → dz (FP.ddiv a b) < -dz FP.dconst1) := by
  have e0 := own_z0
  refine ⟨fun q => ?_, fun q => ?_, fun q => ?_, fun q => ?_, fun q => ?_, fun q => ?_, fun q => ?_, fun q => ?_⟩
  · have := ddiv_ge (by decide) ha hb (by omega) own_0 (by show 0 * d ≤ n * 1; omega); omega
  · have := ddiv_le (by decide) ha hb (by omega) own_sn (by show n * 1024 ≤ -1 * d; omega); have := own_l2; omega
  · have := ddiv_le (by decide) ha hb (by omega) own_0 (by show n * 1 ≤ 0 * d; omega); omega
  · have := ddiv_ge (by decide) ha hb (by omega) own_s (by show 1 * d ≤ n * 1024; omega); have := own_l1; omega
  · have := ddiv_le (by decide) ha hb (by omega) own_1 (by show n * 1 ≤ 1 * d; omega); omega
  · have := ddiv_ge (by decide) ha hb (by omega) own_b (by show 1025 * d ≤ n * 1024; omega); have := own_l3; omega
  · have := ddiv_ge (by decide) ha hb (by omega) own_1n (by show -1 * d ≤ n * 1; omega); have := own_z1; omega
  · have := ddiv_le (by decide) ha hb (by omega) own_bn (by show n * 1024 ≤ -1025 * d; omega); have := own_l4; omega
theorem own_d (x : Int32) : 1 ≤ ((x &&& 1023) + 1).toInt ∧ ((x &&& 1023) + 1).toInt ≤ 1024 := by
  have h1 := c_and x 1023 (by decide)
  have h2 := c_iadd (x &&& 1023) 1
  have h3 := rng32 ((x &&& 1023) + 1)
  have h4 : (1023 : Int32).toInt = 1023 := by decide
  have h5 : (1 : Int32).toInt = 1 := by decide
  omega
theorem own_nz {d : Int32} (h : 1 ≤ d.toInt ∧ d.toInt ≤ 1024) : d + 2 ≠ 0 := fun q => by
  have h1 := c_iadd d 2
  rw [q] at h1
  have h2 : (2 : Int32).toInt = 2 := by decide
  have h3 : (0 : Int32).toInt = 0 := by decide
  omega
theorem own_ng {d : Int32} (h : 1 ≤ d.toInt ∧ d.toInt ≤ 1024) : (-d).toInt = -d.toInt := by
  have h1 := c_ineg d
  have h2 := rng32 (-d)
  omega
theorem own_cmp0 {a : UInt64} (h : Jvm.Free.Fl.NoNaN64 a) (o : CmpOp) : cmpValue (FP.dcmp a FP.dconst0) o = cmpI (dz a) 0 := by rw [dcmp_dz h (nn_of_q own_0), own_z0]
theorem ef1 (m : MethodId) (x0 : UInt64) : entryFrame m #[(.double x0)] 2 = mkF m 0 #[.val (.double x0), .second] [] := by first | (simp [entryFrame, mkF, argsToLocals, Value.category, maxLocals]; done) | rfl
theorem ef0 (m : MethodId) (x0 x1 x2 : Int32) : entryFrame m #[(.int x0), (.int x1), (.int x2)] maxLocals = mkF m 0 #[.val (.int x0), .val (.int x1), .val (.int x2), .unset, .unset, .unset, .unset, .unset, .unset, .unset, .unset] [] := by first | (simp [entryFrame, mkF, argsToLocals, Value.category, maxLocals]; done) | rfl
set_option maxRecDepth 65536 in
set_option maxHeartbeats 40000000 in
theorem c_isd (l : Launch) (Z : State) (h : Heap) (d0 : UInt64) (hd : Jvm.Free.Fl.NoNaN64 d0) :
    Con l Z (⟨"com/example/fennec/fennec/core/Degrees", "isDegree", "(D)Z"⟩ : MethodName) prog_5_method_2_code 2 (some .boolean) ⟨0, 0, 0, 0⟩ #[.double d0] h (fun v h' L => ∃ r : Int32, v = some (.int r) ∧ (r.toInt = 1 ∧ 0 ≤ dz d0 ∧ dz d0 ≤ dz FP.dconst1 ∨ r.toInt = 0 ∧ ¬ (0 ≤ dz d0 ∧ dz d0 ≤ dz FP.dconst1)) ∧ L = [] ∧ h' = h) := by
  refine con_of_go pn1 (fun m => ef1 m d0) ?_
  intro p e s m below meth c T0 C X0 e0
  refine g_dloadN C X0 (pc' := 1) d1_0 rfl rfl ?_
  refine g_dconst0 C X0 (pc' := 2) d1_1 rfl rfl ?_
  refine g_dcmpV C X0 (pc' := 3) d1_2 (own_cmp0 hd _) rfl ?_
  refine g_if C X0 d1_3 (pc' := 16) (pc'' := 6) (by decide) (by decide) rfl (fun c3 => ?_) (fun c3 => ?_)
  · have c3 : (cmpI (dz d0) 0).toInt < 0 := c3
    have c3 : dz d0 < 0 := (cmpI_lt _ _).mp c3
    refine g_iconst C X0 (pc' := 17) d1_16 (v := (0 : Int32)) (by decide) rfl ?_
    exact g_zreturn C X0 d1_17 (w := (0 : Int32)) (by decide) ⟨_, rfl, Or.inr ⟨rfl, by omega⟩, rfl, e0⟩ (by decide) (by decide)
  · have c3 : ¬ ((cmpI (dz d0) 0).toInt < 0) := c3
    have c3 : ¬ (dz d0 < 0) := fun q => c3 ((cmpI_lt _ _).mpr q)
    refine g_dloadN C X0 (pc' := 7) d1_6 rfl rfl ?_
    refine g_dconst1 C X0 (pc' := 8) d1_7 rfl rfl ?_
    refine g_dcmpV C X0 (pc' := 9) d1_8 (dcmp_dz hd (nn_of_q own_1) _) rfl ?_
    refine g_if C X0 d1_9 (pc' := 16) (pc'' := 12) (by decide) (by decide) rfl (fun c9 => ?_) (fun c9 => ?_)
    · have c9 : 0 < (cmpI (dz d0) (dz FP.dconst1)).toInt := c9
      have c9 : dz FP.dconst1 < dz d0 := (cmpI_gt _ _).mp c9
      refine g_iconst C X0 (pc' := 17) d1_16 (v := (0 : Int32)) (by decide) rfl ?_
      exact g_zreturn C X0 d1_17 (w := (0 : Int32)) (by decide) ⟨_, rfl, Or.inr ⟨rfl, by omega⟩, rfl, e0⟩ (by decide) (by decide)
    · have c9 : ¬ (0 < (cmpI (dz d0) (dz FP.dconst1)).toInt) := c9
      have c9 : ¬ (dz FP.dconst1 < dz d0) := fun q => c9 ((cmpI_gt _ _).mpr q)
      refine g_iconst C X0 (pc' := 13) d1_12 (v := (1 : Int32)) (by decide) rfl ?_
      refine g_goto C X0 d1_13 (pc' := 17) (by decide) (by decide) ?_
      exact g_zreturn C X0 d1_17 (w := (1 : Int32)) (by decide) ⟨_, rfl, Or.inl ⟨rfl, by omega, by omega⟩, rfl, e0⟩ (by decide) (by decide)
set_option maxRecDepth 65536 in
set_option maxHeartbeats 40000000 in
theorem law (l : Launch) (Z : State) (a0 : Array Value) (hw : ∀ d ∈ tables_1, d.before a0 Z = true) (p0 p1 p2 : Int32) (h : Heap) (n0 : Nat) (Z0 : n0 ≤ h.size) :
    Con l Z x code maxLocals ret room_1 #[.int p0, .int p1, .int p2] h (fun v _ L => v = some (.int 1) ∧ Fr n0 L) := by
  refine con_of_go pn0 (fun m => ef0 m p0 p1 p2) ?_
  intro p e s m below meth c T0 C X0 e0
  refine g_iloadN C X0 (pc' := 1) at_0 rfl rfl ?_
  refine g_sipush C X0 (pc' := 4) at_1 (v := (1023 : Int32)) (by decide) rfl ?_
  refine g_iand C X0 (pc' := 5) at_4 rfl ?_
  refine g_iconst C X0 (pc' := 6) at_5 (v := (1 : Int32)) (by decide) rfl ?_
  refine g_iadd C X0 (pc' := 7) at_6 rfl ?_
  obtain ⟨i1, e_i1⟩ : ∃ z : Int32, z = (p1 &&& (1023 : Int32)) + (1 : Int32) := ⟨_, rfl⟩
  refine g_istoreN C X0 (pc' := 8) at_7 (x := i1) e_i1 (l' := #[.val (.int p0), .val (.int p1), .val (.int p2), .val (.int i1), .unset, .unset, .unset, .unset, .unset, .unset, .unset]) rfl rfl ?_
  have bd := own_d p1
  rw [← e_i1] at bd
  refine g_iloadN C X0 (pc' := 9) at_8 rfl rfl ?_
  refine g_iconst C X0 (pc' := 10) at_9 (v := (1 : Int32)) (by decide) rfl ?_
  refine g_iushr C X0 (pc' := 11) at_10 rfl ?_
  refine g_iconst C X0 (pc' := 12) at_11 (v := (1 : Int32)) (by decide) rfl ?_
  refine g_iand C X0 (pc' := 13) at_12 rfl ?_
  refine g_if C X0 at_13 (pc' := 20) (pc'' := 16) (by decide) (by decide) rfl (fun c13 => ?_) (fun c13 => ?_)
  · have c13 : ¬ (((XT.ushr p2 (1 : Int32)) &&& (1 : Int32)).toInt = 0) := c13
    refine g_iloadN C X0 (pc' := 21) at_20 rfl rfl ?_
    refine g_iloadN C X0 (pc' := 22) at_21 rfl rfl ?_
    refine g_iconst C X0 (pc' := 23) at_22 (v := (2 : Int32)) (by decide) rfl ?_
    refine g_iadd C X0 (pc' := 24) at_23 rfl ?_
    refine g_irem C X0 (pc' := 25) at_24 (own_nz bd) rfl ?_
    obtain ⟨i2, e_i2⟩ : ∃ z : Int32, z = p0 % (i1 + (2 : Int32)) := ⟨_, rfl⟩
    refine g_istore C X0 (pc' := 27) at_25 (x := i2) e_i2 (l' := #[.val (.int p0), .val (.int p1), .val (.int p2), .val (.int i1), .val (.int i2), .unset, .unset, .unset, .unset, .unset, .unset]) rfl rfl ?_
    refine g_iloadN C X0 (pc' := 28) at_27 rfl rfl ?_
    refine g_iconst C X0 (pc' := 29) at_28 (v := (1 : Int32)) (by decide) rfl ?_
    refine g_iand C X0 (pc' := 30) at_29 rfl ?_
    refine g_if C X0 at_30 (pc' := 37) (pc'' := 33) (by decide) (by decide) rfl (fun c30 => ?_) (fun c30 => ?_)
    · have c30 : (p2 &&& (1 : Int32)).toInt = 0 := c30
      refine g_iconst C X0 (pc' := 38) at_37 (v := (0 : Int32)) (by decide) rfl ?_
      refine g_istore C X0 (pc' := 40) at_38 (x := (0 : Int32)) rfl (l' := #[.val (.int p0), .val (.int p1), .val (.int p2), .val (.int i1), .val (.int i2), .val (.int (0 : Int32)), .unset, .unset, .unset, .unset, .unset]) rfl rfl ?_
      refine g_iload C X0 (pc' := 42) at_40 rfl rfl ?_
      refine g_i2d C X0 (pc' := 43) at_42 rfl ?_
      refine g_iloadN C X0 (pc' := 44) at_43 rfl rfl ?_
      refine g_i2d C X0 (pc' := 45) at_44 rfl ?_
      have nnq := ddiv_nn (i2d_D i2) (i2d_D i1) (by omega)
      have ppq := own_deg (i2d_D i2) (i2d_D i1) bd.1 bd.2
      refine g_ddiv C X0 (pc' := 46) at_45 nnq rfl ?_
      obtain ⟨d3, e_d3⟩ : ∃ z : UInt64, z = FP.ddiv (FP.i2d i2) (FP.i2d i1) := ⟨_, rfl⟩
      refine g_dstore C X0 (pc' := 48) at_46 (x := d3) e_d3 (l' := #[.val (.int p0), .val (.int p1), .val (.int p2), .val (.int i1), .val (.int i2), .val (.int (0 : Int32)), .val (.double d3), .second, .unset, .unset, .unset]) rfl rfl ?_
      rw [← e_d3] at nnq ppq
      refine g_iload C X0 (pc' := 50) at_48 rfl rfl ?_
      refine g_ifY C X0 at_50 (pc' := 59) (by decide) (by decide) (by decide) ?_
      refine g_dload C X0 (pc' := 61) at_59 rfl rfl ?_
      refine g_dstore C X0 (pc' := 63) at_61 (x := d3) rfl (l' := #[.val (.int p0), .val (.int p1), .val (.int p2), .val (.int i1), .val (.int i2), .val (.int (0 : Int32)), .val (.double d3), .second, .val (.double d3), .second, .unset]) rfl rfl ?_
      refine g_iload C X0 (pc' := 65) at_63 rfl rfl ?_
      refine g_ifY C X0 at_65 (pc' := 88) (by decide) (by decide) (by decide) ?_
      refine g_iload C X0 (pc' := 90) at_88 rfl rfl ?_
      refine g_if C X0 at_90 (pc' := 103) (pc'' := 93) (by decide) (by decide) rfl (fun c90 => ?_) (fun c90 => ?_)
      · have c90 : i2.toInt < 0 := c90
        refine g_iconst C X0 (pc' := 104) at_103 (v := (0 : Int32)) (by decide) rfl ?_
        refine g_istore C X0 (pc' := 106) at_104 (x := (0 : Int32)) rfl (l' := #[.val (.int p0), .val (.int p1), .val (.int p2), .val (.int i1), .val (.int i2), .val (.int (0 : Int32)), .val (.double d3), .second, .val (.double d3), .second, .val (.int (0 : Int32))]) rfl rfl ?_
        refine g_dload C X0 (pc' := 108) at_106 rfl rfl ?_
        refine g_callS C X0 (c_isd l Z h d3 nnq) (hw _ (List.mem_of_getElem? (i := 0) rfl)) (hw _ (List.mem_of_getElem? (i := 1) rfl)) (hw _ (List.mem_of_getElem? (i := 2) rfl)) (hw _ (List.mem_of_getElem? (i := 3) rfl)) (by decide) e0 at_108 rfl pd1 [(.double d3)] [] rfl rfl rfl 0 rfl (by decide) (by decide) (by decide) (by decide) rfl ?_
        rintro _ T1 _ X1 ⟨r1, rfl, b1, rfl, e1⟩
        rw [List.append_nil] at X1
        show Go p.tables e below _ T1 (mkF m 111 #[.val (.int p0), .val (.int p1), .val (.int p2), .val (.int i1), .val (.int i2), .val (.int (0 : Int32)), .val (.double d3), .second, .val (.double d3), .second, .val (.int (0 : Int32))] [(.int r1)])
        refine g_iload C X1 (pc' := 113) at_111 rfl rfl ?_
        refine g_icmp C X1 at_113 (pc' := 120) (pc'' := 116) (by decide) (by decide) rfl (fun c113 => ?_) (fun c113 => ?_)
        · have c113 : ¬ (r1.toInt = 0) := c113
          refine g_iconst C X1 (pc' := 121) at_120 (v := (0 : Int32)) (by decide) rfl ?_
          exfalso; omega
        · have c113 : r1.toInt = 0 := Decidable.not_not.mp c113
          refine g_iconst C X1 (pc' := 117) at_116 (v := (1 : Int32)) (by decide) rfl ?_
          refine g_goto C X1 at_117 (pc' := 121) (by decide) (by decide) ?_
          exact g_zreturn C X1 at_121 (w := 1) (by decide) ⟨rfl, Fr.nil n0⟩ (by decide) (by decide)
      · have c90 : ¬ (i2.toInt < 0) := c90
        refine g_iload C X0 (pc' := 95) at_93 rfl rfl ?_
        refine g_iloadN C X0 (pc' := 96) at_95 rfl rfl ?_
        refine g_icmp C X0 at_96 (pc' := 103) (pc'' := 99) (by decide) (by decide) rfl (fun c96 => ?_) (fun c96 => ?_)
        · have c96 : i1.toInt < i2.toInt := c96
          refine g_iconst C X0 (pc' := 104) at_103 (v := (0 : Int32)) (by decide) rfl ?_
          refine g_istore C X0 (pc' := 106) at_104 (x := (0 : Int32)) rfl (l' := #[.val (.int p0), .val (.int p1), .val (.int p2), .val (.int i1), .val (.int i2), .val (.int (0 : Int32)), .val (.double d3), .second, .val (.double d3), .second, .val (.int (0 : Int32))]) rfl rfl ?_
          refine g_dload C X0 (pc' := 108) at_106 rfl rfl ?_
          refine g_callS C X0 (c_isd l Z h d3 nnq) (hw _ (List.mem_of_getElem? (i := 0) rfl)) (hw _ (List.mem_of_getElem? (i := 1) rfl)) (hw _ (List.mem_of_getElem? (i := 2) rfl)) (hw _ (List.mem_of_getElem? (i := 3) rfl)) (by decide) e0 at_108 rfl pd1 [(.double d3)] [] rfl rfl rfl 0 rfl (by decide) (by decide) (by decide) (by decide) rfl ?_
          rintro _ T2 _ X2 ⟨r2, rfl, b2, rfl, e2⟩
          rw [List.append_nil] at X2
          show Go p.tables e below _ T2 (mkF m 111 #[.val (.int p0), .val (.int p1), .val (.int p2), .val (.int i1), .val (.int i2), .val (.int (0 : Int32)), .val (.double d3), .second, .val (.double d3), .second, .val (.int (0 : Int32))] [(.int r2)])
          refine g_iload C X2 (pc' := 113) at_111 rfl rfl ?_
          refine g_icmp C X2 at_113 (pc' := 120) (pc'' := 116) (by decide) (by decide) rfl (fun c113 => ?_) (fun c113 => ?_)
          · have c113 : ¬ (r2.toInt = 0) := c113
            refine g_iconst C X2 (pc' := 121) at_120 (v := (0 : Int32)) (by decide) rfl ?_
            exfalso; omega
          · have c113 : r2.toInt = 0 := Decidable.not_not.mp c113
            refine g_iconst C X2 (pc' := 117) at_116 (v := (1 : Int32)) (by decide) rfl ?_
            refine g_goto C X2 at_117 (pc' := 121) (by decide) (by decide) ?_
            exact g_zreturn C X2 at_121 (w := 1) (by decide) ⟨rfl, Fr.nil n0⟩ (by decide) (by decide)
        · have c96 : ¬ (i1.toInt < i2.toInt) := c96
          refine g_iconst C X0 (pc' := 100) at_99 (v := (1 : Int32)) (by decide) rfl ?_
          refine g_goto C X0 at_100 (pc' := 104) (by decide) (by decide) ?_
          refine g_istore C X0 (pc' := 106) at_104 (x := (1 : Int32)) rfl (l' := #[.val (.int p0), .val (.int p1), .val (.int p2), .val (.int i1), .val (.int i2), .val (.int (0 : Int32)), .val (.double d3), .second, .val (.double d3), .second, .val (.int (1 : Int32))]) rfl rfl ?_
          refine g_dload C X0 (pc' := 108) at_106 rfl rfl ?_
          refine g_callS C X0 (c_isd l Z h d3 nnq) (hw _ (List.mem_of_getElem? (i := 0) rfl)) (hw _ (List.mem_of_getElem? (i := 1) rfl)) (hw _ (List.mem_of_getElem? (i := 2) rfl)) (hw _ (List.mem_of_getElem? (i := 3) rfl)) (by decide) e0 at_108 rfl pd1 [(.double d3)] [] rfl rfl rfl 0 rfl (by decide) (by decide) (by decide) (by decide) rfl ?_
          rintro _ T3 _ X3 ⟨r3, rfl, b3, rfl, e3⟩
          rw [List.append_nil] at X3
          show Go p.tables e below _ T3 (mkF m 111 #[.val (.int p0), .val (.int p1), .val (.int p2), .val (.int i1), .val (.int i2), .val (.int (0 : Int32)), .val (.double d3), .second, .val (.double d3), .second, .val (.int (1 : Int32))] [(.int r3)])
          refine g_iload C X3 (pc' := 113) at_111 rfl rfl ?_
          refine g_icmp C X3 at_113 (pc' := 120) (pc'' := 116) (by decide) (by decide) rfl (fun c113 => ?_) (fun c113 => ?_)
          · have c113 : ¬ (r3.toInt = 1) := c113
            refine g_iconst C X3 (pc' := 121) at_120 (v := (0 : Int32)) (by decide) rfl ?_
            exfalso; omega
          · have c113 : r3.toInt = 1 := Decidable.not_not.mp c113
            refine g_iconst C X3 (pc' := 117) at_116 (v := (1 : Int32)) (by decide) rfl ?_
            refine g_goto C X3 at_117 (pc' := 121) (by decide) (by decide) ?_
            exact g_zreturn C X3 at_121 (w := 1) (by decide) ⟨rfl, Fr.nil n0⟩ (by decide) (by decide)
    · have c30 : ¬ ((p2 &&& (1 : Int32)).toInt = 0) := c30
      refine g_iconst C X0 (pc' := 34) at_33 (v := (1 : Int32)) (by decide) rfl ?_
      refine g_goto C X0 at_34 (pc' := 38) (by decide) (by decide) ?_
      refine g_istore C X0 (pc' := 40) at_38 (x := (1 : Int32)) rfl (l' := #[.val (.int p0), .val (.int p1), .val (.int p2), .val (.int i1), .val (.int i2), .val (.int (1 : Int32)), .unset, .unset, .unset, .unset, .unset]) rfl rfl ?_
      refine g_iload C X0 (pc' := 42) at_40 rfl rfl ?_
      refine g_i2d C X0 (pc' := 43) at_42 rfl ?_
      refine g_iloadN C X0 (pc' := 44) at_43 rfl rfl ?_
      refine g_i2d C X0 (pc' := 45) at_44 rfl ?_
      have nnq := ddiv_nn (i2d_D i2) (i2d_D i1) (by omega)
      have ppq := own_deg (i2d_D i2) (i2d_D i1) bd.1 bd.2
      refine g_ddiv C X0 (pc' := 46) at_45 nnq rfl ?_
      obtain ⟨d4, e_d4⟩ : ∃ z : UInt64, z = FP.ddiv (FP.i2d i2) (FP.i2d i1) := ⟨_, rfl⟩
      refine g_dstore C X0 (pc' := 48) at_46 (x := d4) e_d4 (l' := #[.val (.int p0), .val (.int p1), .val (.int p2), .val (.int i1), .val (.int i2), .val (.int (1 : Int32)), .val (.double d4), .second, .unset, .unset, .unset]) rfl rfl ?_
      rw [← e_d4] at nnq ppq
      refine g_iload C X0 (pc' := 50) at_48 rfl rfl ?_
      refine g_ifN C X0 at_50 (by decide) rfl ?_
      refine g_dload C X0 (pc' := 55) at_53 rfl rfl ?_
      refine g_dneg C X0 (pc' := 56) at_55 rfl ?_
      refine g_goto C X0 at_56 (pc' := 61) (by decide) (by decide) ?_
      obtain ⟨d5, e_d5⟩ : ∃ z : UInt64, z = FP.dneg d4 := ⟨_, rfl⟩
      refine g_dstore C X0 (pc' := 63) at_61 (x := d5) e_d5 (l' := #[.val (.int p0), .val (.int p1), .val (.int p2), .val (.int i1), .val (.int i2), .val (.int (1 : Int32)), .val (.double d4), .second, .val (.double d5), .second, .unset]) rfl rfl ?_
      have nnv : Jvm.Free.Fl.NoNaN64 d5 := e_d5 ▸ nn_dneg nnq
      have zv : dz d5 = -dz d4 := by rw [e_d5]; exact dz_dneg _
      refine g_iload C X0 (pc' := 65) at_63 rfl rfl ?_
      refine g_ifN C X0 at_65 (by decide) rfl ?_
      refine g_iload C X0 (pc' := 70) at_68 rfl rfl ?_
      refine g_if C X0 at_70 (pc' := 84) (pc'' := 73) (by decide) (by decide) rfl (fun c70 => ?_) (fun c70 => ?_)
      · have c70 : 0 < i2.toInt := c70
        refine g_iconst C X0 (pc' := 85) at_84 (v := (0 : Int32)) (by decide) rfl ?_
        refine g_goto C X0 at_85 (pc' := 104) (by decide) (by decide) ?_
        refine g_istore C X0 (pc' := 106) at_104 (x := (0 : Int32)) rfl (l' := #[.val (.int p0), .val (.int p1), .val (.int p2), .val (.int i1), .val (.int i2), .val (.int (1 : Int32)), .val (.double d4), .second, .val (.double d5), .second, .val (.int (0 : Int32))]) rfl rfl ?_
        refine g_dload C X0 (pc' := 108) at_106 rfl rfl ?_
        refine g_callS C X0 (c_isd l Z h d5 nnv) (hw _ (List.mem_of_getElem? (i := 0) rfl)) (hw _ (List.mem_of_getElem? (i := 1) rfl)) (hw _ (List.mem_of_getElem? (i := 2) rfl)) (hw _ (List.mem_of_getElem? (i := 3) rfl)) (by decide) e0 at_108 rfl pd1 [(.double d5)] [] rfl rfl rfl 0 rfl (by decide) (by decide) (by decide) (by decide) rfl ?_
        rintro _ T4 _ X4 ⟨r4, rfl, b4, rfl, e4⟩
        rw [List.append_nil] at X4
        show Go p.tables e below _ T4 (mkF m 111 #[.val (.int p0), .val (.int p1), .val (.int p2), .val (.int i1), .val (.int i2), .val (.int (1 : Int32)), .val (.double d4), .second, .val (.double d5), .second, .val (.int (0 : Int32))] [(.int r4)])
        refine g_iload C X4 (pc' := 113) at_111 rfl rfl ?_
        refine g_icmp C X4 at_113 (pc' := 120) (pc'' := 116) (by decide) (by decide) rfl (fun c113 => ?_) (fun c113 => ?_)
        · have c113 : ¬ (r4.toInt = 0) := c113
          refine g_iconst C X4 (pc' := 121) at_120 (v := (0 : Int32)) (by decide) rfl ?_
          exfalso; omega
        · have c113 : r4.toInt = 0 := Decidable.not_not.mp c113
          refine g_iconst C X4 (pc' := 117) at_116 (v := (1 : Int32)) (by decide) rfl ?_
          refine g_goto C X4 at_117 (pc' := 121) (by decide) (by decide) ?_
          exact g_zreturn C X4 at_121 (w := 1) (by decide) ⟨rfl, Fr.nil n0⟩ (by decide) (by decide)
      · have c70 : ¬ (0 < i2.toInt) := c70
        refine g_iload C X0 (pc' := 75) at_73 rfl rfl ?_
        refine g_iloadN C X0 (pc' := 76) at_75 rfl rfl ?_
        refine g_ineg C X0 (pc' := 77) at_76 rfl ?_
        have m77 := own_ng bd
        refine g_icmp C X0 at_77 (pc' := 84) (pc'' := 80) (by decide) (by decide) rfl (fun c77 => ?_) (fun c77 => ?_)
        · have c77 : i2.toInt < (-i1).toInt := c77
          refine g_iconst C X0 (pc' := 85) at_84 (v := (0 : Int32)) (by decide) rfl ?_
          refine g_goto C X0 at_85 (pc' := 104) (by decide) (by decide) ?_
          refine g_istore C X0 (pc' := 106) at_104 (x := (0 : Int32)) rfl (l' := #[.val (.int p0), .val (.int p1), .val (.int p2), .val (.int i1), .val (.int i2), .val (.int (1 : Int32)), .val (.double d4), .second, .val (.double d5), .second, .val (.int (0 : Int32))]) rfl rfl ?_
          refine g_dload C X0 (pc' := 108) at_106 rfl rfl ?_
          refine g_callS C X0 (c_isd l Z h d5 nnv) (hw _ (List.mem_of_getElem? (i := 0) rfl)) (hw _ (List.mem_of_getElem? (i := 1) rfl)) (hw _ (List.mem_of_getElem? (i := 2) rfl)) (hw _ (List.mem_of_getElem? (i := 3) rfl)) (by decide) e0 at_108 rfl pd1 [(.double d5)] [] rfl rfl rfl 0 rfl (by decide) (by decide) (by decide) (by decide) rfl ?_
          rintro _ T5 _ X5 ⟨r5, rfl, b5, rfl, e5⟩
          rw [List.append_nil] at X5
          show Go p.tables e below _ T5 (mkF m 111 #[.val (.int p0), .val (.int p1), .val (.int p2), .val (.int i1), .val (.int i2), .val (.int (1 : Int32)), .val (.double d4), .second, .val (.double d5), .second, .val (.int (0 : Int32))] [(.int r5)])
          refine g_iload C X5 (pc' := 113) at_111 rfl rfl ?_
          refine g_icmp C X5 at_113 (pc' := 120) (pc'' := 116) (by decide) (by decide) rfl (fun c113 => ?_) (fun c113 => ?_)
          · have c113 : ¬ (r5.toInt = 0) := c113
            refine g_iconst C X5 (pc' := 121) at_120 (v := (0 : Int32)) (by decide) rfl ?_
            exfalso; omega
          · have c113 : r5.toInt = 0 := Decidable.not_not.mp c113
            refine g_iconst C X5 (pc' := 117) at_116 (v := (1 : Int32)) (by decide) rfl ?_
            refine g_goto C X5 at_117 (pc' := 121) (by decide) (by decide) ?_
            exact g_zreturn C X5 at_121 (w := 1) (by decide) ⟨rfl, Fr.nil n0⟩ (by decide) (by decide)
        · have c77 : ¬ (i2.toInt < (-i1).toInt) := c77
          refine g_iconst C X0 (pc' := 81) at_80 (v := (1 : Int32)) (by decide) rfl ?_
          refine g_goto C X0 at_81 (pc' := 104) (by decide) (by decide) ?_
          refine g_istore C X0 (pc' := 106) at_104 (x := (1 : Int32)) rfl (l' := #[.val (.int p0), .val (.int p1), .val (.int p2), .val (.int i1), .val (.int i2), .val (.int (1 : Int32)), .val (.double d4), .second, .val (.double d5), .second, .val (.int (1 : Int32))]) rfl rfl ?_
          refine g_dload C X0 (pc' := 108) at_106 rfl rfl ?_
          refine g_callS C X0 (c_isd l Z h d5 nnv) (hw _ (List.mem_of_getElem? (i := 0) rfl)) (hw _ (List.mem_of_getElem? (i := 1) rfl)) (hw _ (List.mem_of_getElem? (i := 2) rfl)) (hw _ (List.mem_of_getElem? (i := 3) rfl)) (by decide) e0 at_108 rfl pd1 [(.double d5)] [] rfl rfl rfl 0 rfl (by decide) (by decide) (by decide) (by decide) rfl ?_
          rintro _ T6 _ X6 ⟨r6, rfl, b6, rfl, e6⟩
          rw [List.append_nil] at X6
          show Go p.tables e below _ T6 (mkF m 111 #[.val (.int p0), .val (.int p1), .val (.int p2), .val (.int i1), .val (.int i2), .val (.int (1 : Int32)), .val (.double d4), .second, .val (.double d5), .second, .val (.int (1 : Int32))] [(.int r6)])
          refine g_iload C X6 (pc' := 113) at_111 rfl rfl ?_
          refine g_icmp C X6 at_113 (pc' := 120) (pc'' := 116) (by decide) (by decide) rfl (fun c113 => ?_) (fun c113 => ?_)
          · have c113 : ¬ (r6.toInt = 1) := c113
            refine g_iconst C X6 (pc' := 121) at_120 (v := (0 : Int32)) (by decide) rfl ?_
            exfalso; omega
          · have c113 : r6.toInt = 1 := Decidable.not_not.mp c113
            refine g_iconst C X6 (pc' := 117) at_116 (v := (1 : Int32)) (by decide) rfl ?_
            refine g_goto C X6 at_117 (pc' := 121) (by decide) (by decide) ?_
            exact g_zreturn C X6 at_121 (w := 1) (by decide) ⟨rfl, Fr.nil n0⟩ (by decide) (by decide)
  · have c13 : ((XT.ushr p2 (1 : Int32)) &&& (1 : Int32)).toInt = 0 := Decidable.not_not.mp c13
    refine g_iloadN C X0 (pc' := 17) at_16 rfl rfl ?_
    refine g_goto C X0 at_17 (pc' := 25) (by decide) (by decide) ?_
    refine g_istore C X0 (pc' := 27) at_25 (x := p0) rfl (l' := #[.val (.int p0), .val (.int p1), .val (.int p2), .val (.int i1), .val (.int p0), .unset, .unset, .unset, .unset, .unset, .unset]) rfl rfl ?_
    refine g_iloadN C X0 (pc' := 28) at_27 rfl rfl ?_
    refine g_iconst C X0 (pc' := 29) at_28 (v := (1 : Int32)) (by decide) rfl ?_
    refine g_iand C X0 (pc' := 30) at_29 rfl ?_
    refine g_if C X0 at_30 (pc' := 37) (pc'' := 33) (by decide) (by decide) rfl (fun c30 => ?_) (fun c30 => ?_)
    · have c30 : (p2 &&& (1 : Int32)).toInt = 0 := c30
      refine g_iconst C X0 (pc' := 38) at_37 (v := (0 : Int32)) (by decide) rfl ?_
      refine g_istore C X0 (pc' := 40) at_38 (x := (0 : Int32)) rfl (l' := #[.val (.int p0), .val (.int p1), .val (.int p2), .val (.int i1), .val (.int p0), .val (.int (0 : Int32)), .unset, .unset, .unset, .unset, .unset]) rfl rfl ?_
      refine g_iload C X0 (pc' := 42) at_40 rfl rfl ?_
      refine g_i2d C X0 (pc' := 43) at_42 rfl ?_
      refine g_iloadN C X0 (pc' := 44) at_43 rfl rfl ?_
      refine g_i2d C X0 (pc' := 45) at_44 rfl ?_
      have nnq := ddiv_nn (i2d_D p0) (i2d_D i1) (by omega)
      have ppq := own_deg (i2d_D p0) (i2d_D i1) bd.1 bd.2
      refine g_ddiv C X0 (pc' := 46) at_45 nnq rfl ?_
      obtain ⟨d6, e_d6⟩ : ∃ z : UInt64, z = FP.ddiv (FP.i2d p0) (FP.i2d i1) := ⟨_, rfl⟩
      refine g_dstore C X0 (pc' := 48) at_46 (x := d6) e_d6 (l' := #[.val (.int p0), .val (.int p1), .val (.int p2), .val (.int i1), .val (.int p0), .val (.int (0 : Int32)), .val (.double d6), .second, .unset, .unset, .unset]) rfl rfl ?_
      rw [← e_d6] at nnq ppq
      refine g_iload C X0 (pc' := 50) at_48 rfl rfl ?_
      refine g_ifY C X0 at_50 (pc' := 59) (by decide) (by decide) (by decide) ?_
      refine g_dload C X0 (pc' := 61) at_59 rfl rfl ?_
      refine g_dstore C X0 (pc' := 63) at_61 (x := d6) rfl (l' := #[.val (.int p0), .val (.int p1), .val (.int p2), .val (.int i1), .val (.int p0), .val (.int (0 : Int32)), .val (.double d6), .second, .val (.double d6), .second, .unset]) rfl rfl ?_
      refine g_iload C X0 (pc' := 65) at_63 rfl rfl ?_
      refine g_ifY C X0 at_65 (pc' := 88) (by decide) (by decide) (by decide) ?_
      refine g_iload C X0 (pc' := 90) at_88 rfl rfl ?_
      refine g_if C X0 at_90 (pc' := 103) (pc'' := 93) (by decide) (by decide) rfl (fun c90 => ?_) (fun c90 => ?_)
      · have c90 : p0.toInt < 0 := c90
        refine g_iconst C X0 (pc' := 104) at_103 (v := (0 : Int32)) (by decide) rfl ?_
        refine g_istore C X0 (pc' := 106) at_104 (x := (0 : Int32)) rfl (l' := #[.val (.int p0), .val (.int p1), .val (.int p2), .val (.int i1), .val (.int p0), .val (.int (0 : Int32)), .val (.double d6), .second, .val (.double d6), .second, .val (.int (0 : Int32))]) rfl rfl ?_
        refine g_dload C X0 (pc' := 108) at_106 rfl rfl ?_
        refine g_callS C X0 (c_isd l Z h d6 nnq) (hw _ (List.mem_of_getElem? (i := 0) rfl)) (hw _ (List.mem_of_getElem? (i := 1) rfl)) (hw _ (List.mem_of_getElem? (i := 2) rfl)) (hw _ (List.mem_of_getElem? (i := 3) rfl)) (by decide) e0 at_108 rfl pd1 [(.double d6)] [] rfl rfl rfl 0 rfl (by decide) (by decide) (by decide) (by decide) rfl ?_
        rintro _ T7 _ X7 ⟨r7, rfl, b7, rfl, e7⟩
        rw [List.append_nil] at X7
        show Go p.tables e below _ T7 (mkF m 111 #[.val (.int p0), .val (.int p1), .val (.int p2), .val (.int i1), .val (.int p0), .val (.int (0 : Int32)), .val (.double d6), .second, .val (.double d6), .second, .val (.int (0 : Int32))] [(.int r7)])
        refine g_iload C X7 (pc' := 113) at_111 rfl rfl ?_
        refine g_icmp C X7 at_113 (pc' := 120) (pc'' := 116) (by decide) (by decide) rfl (fun c113 => ?_) (fun c113 => ?_)
        · have c113 : ¬ (r7.toInt = 0) := c113
          refine g_iconst C X7 (pc' := 121) at_120 (v := (0 : Int32)) (by decide) rfl ?_
          exfalso; omega
        · have c113 : r7.toInt = 0 := Decidable.not_not.mp c113
          refine g_iconst C X7 (pc' := 117) at_116 (v := (1 : Int32)) (by decide) rfl ?_
          refine g_goto C X7 at_117 (pc' := 121) (by decide) (by decide) ?_
          exact g_zreturn C X7 at_121 (w := 1) (by decide) ⟨rfl, Fr.nil n0⟩ (by decide) (by decide)
      · have c90 : ¬ (p0.toInt < 0) := c90
        refine g_iload C X0 (pc' := 95) at_93 rfl rfl ?_
        refine g_iloadN C X0 (pc' := 96) at_95 rfl rfl ?_
        refine g_icmp C X0 at_96 (pc' := 103) (pc'' := 99) (by decide) (by decide) rfl (fun c96 => ?_) (fun c96 => ?_)
        · have c96 : i1.toInt < p0.toInt := c96
          refine g_iconst C X0 (pc' := 104) at_103 (v := (0 : Int32)) (by decide) rfl ?_
          refine g_istore C X0 (pc' := 106) at_104 (x := (0 : Int32)) rfl (l' := #[.val (.int p0), .val (.int p1), .val (.int p2), .val (.int i1), .val (.int p0), .val (.int (0 : Int32)), .val (.double d6), .second, .val (.double d6), .second, .val (.int (0 : Int32))]) rfl rfl ?_
          refine g_dload C X0 (pc' := 108) at_106 rfl rfl ?_
          refine g_callS C X0 (c_isd l Z h d6 nnq) (hw _ (List.mem_of_getElem? (i := 0) rfl)) (hw _ (List.mem_of_getElem? (i := 1) rfl)) (hw _ (List.mem_of_getElem? (i := 2) rfl)) (hw _ (List.mem_of_getElem? (i := 3) rfl)) (by decide) e0 at_108 rfl pd1 [(.double d6)] [] rfl rfl rfl 0 rfl (by decide) (by decide) (by decide) (by decide) rfl ?_
          rintro _ T8 _ X8 ⟨r8, rfl, b8, rfl, e8⟩
          rw [List.append_nil] at X8
          show Go p.tables e below _ T8 (mkF m 111 #[.val (.int p0), .val (.int p1), .val (.int p2), .val (.int i1), .val (.int p0), .val (.int (0 : Int32)), .val (.double d6), .second, .val (.double d6), .second, .val (.int (0 : Int32))] [(.int r8)])
          refine g_iload C X8 (pc' := 113) at_111 rfl rfl ?_
          refine g_icmp C X8 at_113 (pc' := 120) (pc'' := 116) (by decide) (by decide) rfl (fun c113 => ?_) (fun c113 => ?_)
          · have c113 : ¬ (r8.toInt = 0) := c113
            refine g_iconst C X8 (pc' := 121) at_120 (v := (0 : Int32)) (by decide) rfl ?_
            exfalso; omega
          · have c113 : r8.toInt = 0 := Decidable.not_not.mp c113
            refine g_iconst C X8 (pc' := 117) at_116 (v := (1 : Int32)) (by decide) rfl ?_
            refine g_goto C X8 at_117 (pc' := 121) (by decide) (by decide) ?_
            exact g_zreturn C X8 at_121 (w := 1) (by decide) ⟨rfl, Fr.nil n0⟩ (by decide) (by decide)
        · have c96 : ¬ (i1.toInt < p0.toInt) := c96
          refine g_iconst C X0 (pc' := 100) at_99 (v := (1 : Int32)) (by decide) rfl ?_
          refine g_goto C X0 at_100 (pc' := 104) (by decide) (by decide) ?_
          refine g_istore C X0 (pc' := 106) at_104 (x := (1 : Int32)) rfl (l' := #[.val (.int p0), .val (.int p1), .val (.int p2), .val (.int i1), .val (.int p0), .val (.int (0 : Int32)), .val (.double d6), .second, .val (.double d6), .second, .val (.int (1 : Int32))]) rfl rfl ?_
          refine g_dload C X0 (pc' := 108) at_106 rfl rfl ?_
          refine g_callS C X0 (c_isd l Z h d6 nnq) (hw _ (List.mem_of_getElem? (i := 0) rfl)) (hw _ (List.mem_of_getElem? (i := 1) rfl)) (hw _ (List.mem_of_getElem? (i := 2) rfl)) (hw _ (List.mem_of_getElem? (i := 3) rfl)) (by decide) e0 at_108 rfl pd1 [(.double d6)] [] rfl rfl rfl 0 rfl (by decide) (by decide) (by decide) (by decide) rfl ?_
          rintro _ T9 _ X9 ⟨r9, rfl, b9, rfl, e9⟩
          rw [List.append_nil] at X9
          show Go p.tables e below _ T9 (mkF m 111 #[.val (.int p0), .val (.int p1), .val (.int p2), .val (.int i1), .val (.int p0), .val (.int (0 : Int32)), .val (.double d6), .second, .val (.double d6), .second, .val (.int (1 : Int32))] [(.int r9)])
          refine g_iload C X9 (pc' := 113) at_111 rfl rfl ?_
          refine g_icmp C X9 at_113 (pc' := 120) (pc'' := 116) (by decide) (by decide) rfl (fun c113 => ?_) (fun c113 => ?_)
          · have c113 : ¬ (r9.toInt = 1) := c113
            refine g_iconst C X9 (pc' := 121) at_120 (v := (0 : Int32)) (by decide) rfl ?_
            exfalso; omega
          · have c113 : r9.toInt = 1 := Decidable.not_not.mp c113
            refine g_iconst C X9 (pc' := 117) at_116 (v := (1 : Int32)) (by decide) rfl ?_
            refine g_goto C X9 at_117 (pc' := 121) (by decide) (by decide) ?_
            exact g_zreturn C X9 at_121 (w := 1) (by decide) ⟨rfl, Fr.nil n0⟩ (by decide) (by decide)
    · have c30 : ¬ ((p2 &&& (1 : Int32)).toInt = 0) := c30
      refine g_iconst C X0 (pc' := 34) at_33 (v := (1 : Int32)) (by decide) rfl ?_
      refine g_goto C X0 at_34 (pc' := 38) (by decide) (by decide) ?_
      refine g_istore C X0 (pc' := 40) at_38 (x := (1 : Int32)) rfl (l' := #[.val (.int p0), .val (.int p1), .val (.int p2), .val (.int i1), .val (.int p0), .val (.int (1 : Int32)), .unset, .unset, .unset, .unset, .unset]) rfl rfl ?_
      refine g_iload C X0 (pc' := 42) at_40 rfl rfl ?_
      refine g_i2d C X0 (pc' := 43) at_42 rfl ?_
      refine g_iloadN C X0 (pc' := 44) at_43 rfl rfl ?_
      refine g_i2d C X0 (pc' := 45) at_44 rfl ?_
      have nnq := ddiv_nn (i2d_D p0) (i2d_D i1) (by omega)
      have ppq := own_deg (i2d_D p0) (i2d_D i1) bd.1 bd.2
      refine g_ddiv C X0 (pc' := 46) at_45 nnq rfl ?_
      obtain ⟨d7, e_d7⟩ : ∃ z : UInt64, z = FP.ddiv (FP.i2d p0) (FP.i2d i1) := ⟨_, rfl⟩
      refine g_dstore C X0 (pc' := 48) at_46 (x := d7) e_d7 (l' := #[.val (.int p0), .val (.int p1), .val (.int p2), .val (.int i1), .val (.int p0), .val (.int (1 : Int32)), .val (.double d7), .second, .unset, .unset, .unset]) rfl rfl ?_
      rw [← e_d7] at nnq ppq
      refine g_iload C X0 (pc' := 50) at_48 rfl rfl ?_
      refine g_ifN C X0 at_50 (by decide) rfl ?_
      refine g_dload C X0 (pc' := 55) at_53 rfl rfl ?_
      refine g_dneg C X0 (pc' := 56) at_55 rfl ?_
      refine g_goto C X0 at_56 (pc' := 61) (by decide) (by decide) ?_
      obtain ⟨d8, e_d8⟩ : ∃ z : UInt64, z = FP.dneg d7 := ⟨_, rfl⟩
      refine g_dstore C X0 (pc' := 63) at_61 (x := d8) e_d8 (l' := #[.val (.int p0), .val (.int p1), .val (.int p2), .val (.int i1), .val (.int p0), .val (.int (1 : Int32)), .val (.double d7), .second, .val (.double d8), .second, .unset]) rfl rfl ?_
      have nnv : Jvm.Free.Fl.NoNaN64 d8 := e_d8 ▸ nn_dneg nnq
      have zv : dz d8 = -dz d7 := by rw [e_d8]; exact dz_dneg _
      refine g_iload C X0 (pc' := 65) at_63 rfl rfl ?_
      refine g_ifN C X0 at_65 (by decide) rfl ?_
      refine g_iload C X0 (pc' := 70) at_68 rfl rfl ?_
      refine g_if C X0 at_70 (pc' := 84) (pc'' := 73) (by decide) (by decide) rfl (fun c70 => ?_) (fun c70 => ?_)
      · have c70 : 0 < p0.toInt := c70
        refine g_iconst C X0 (pc' := 85) at_84 (v := (0 : Int32)) (by decide) rfl ?_
        refine g_goto C X0 at_85 (pc' := 104) (by decide) (by decide) ?_
        refine g_istore C X0 (pc' := 106) at_104 (x := (0 : Int32)) rfl (l' := #[.val (.int p0), .val (.int p1), .val (.int p2), .val (.int i1), .val (.int p0), .val (.int (1 : Int32)), .val (.double d7), .second, .val (.double d8), .second, .val (.int (0 : Int32))]) rfl rfl ?_
        refine g_dload C X0 (pc' := 108) at_106 rfl rfl ?_
        refine g_callS C X0 (c_isd l Z h d8 nnv) (hw _ (List.mem_of_getElem? (i := 0) rfl)) (hw _ (List.mem_of_getElem? (i := 1) rfl)) (hw _ (List.mem_of_getElem? (i := 2) rfl)) (hw _ (List.mem_of_getElem? (i := 3) rfl)) (by decide) e0 at_108 rfl pd1 [(.double d8)] [] rfl rfl rfl 0 rfl (by decide) (by decide) (by decide) (by decide) rfl ?_
        rintro _ T10 _ X10 ⟨r10, rfl, b10, rfl, e10⟩
        rw [List.append_nil] at X10
        show Go p.tables e below _ T10 (mkF m 111 #[.val (.int p0), .val (.int p1), .val (.int p2), .val (.int i1), .val (.int p0), .val (.int (1 : Int32)), .val (.double d7), .second, .val (.double d8), .second, .val (.int (0 : Int32))] [(.int r10)])
        refine g_iload C X10 (pc' := 113) at_111 rfl rfl ?_
        refine g_icmp C X10 at_113 (pc' := 120) (pc'' := 116) (by decide) (by decide) rfl (fun c113 => ?_) (fun c113 => ?_)
        · have c113 : ¬ (r10.toInt = 0) := c113
          refine g_iconst C X10 (pc' := 121) at_120 (v := (0 : Int32)) (by decide) rfl ?_
          exfalso; omega
        · have c113 : r10.toInt = 0 := Decidable.not_not.mp c113
          refine g_iconst C X10 (pc' := 117) at_116 (v := (1 : Int32)) (by decide) rfl ?_
          refine g_goto C X10 at_117 (pc' := 121) (by decide) (by decide) ?_
          exact g_zreturn C X10 at_121 (w := 1) (by decide) ⟨rfl, Fr.nil n0⟩ (by decide) (by decide)
      · have c70 : ¬ (0 < p0.toInt) := c70
        refine g_iload C X0 (pc' := 75) at_73 rfl rfl ?_
        refine g_iloadN C X0 (pc' := 76) at_75 rfl rfl ?_
        refine g_ineg C X0 (pc' := 77) at_76 rfl ?_
        have m77 := own_ng bd
        refine g_icmp C X0 at_77 (pc' := 84) (pc'' := 80) (by decide) (by decide) rfl (fun c77 => ?_) (fun c77 => ?_)
        · have c77 : p0.toInt < (-i1).toInt := c77
          refine g_iconst C X0 (pc' := 85) at_84 (v := (0 : Int32)) (by decide) rfl ?_
          refine g_goto C X0 at_85 (pc' := 104) (by decide) (by decide) ?_
          refine g_istore C X0 (pc' := 106) at_104 (x := (0 : Int32)) rfl (l' := #[.val (.int p0), .val (.int p1), .val (.int p2), .val (.int i1), .val (.int p0), .val (.int (1 : Int32)), .val (.double d7), .second, .val (.double d8), .second, .val (.int (0 : Int32))]) rfl rfl ?_
          refine g_dload C X0 (pc' := 108) at_106 rfl rfl ?_
          refine g_callS C X0 (c_isd l Z h d8 nnv) (hw _ (List.mem_of_getElem? (i := 0) rfl)) (hw _ (List.mem_of_getElem? (i := 1) rfl)) (hw _ (List.mem_of_getElem? (i := 2) rfl)) (hw _ (List.mem_of_getElem? (i := 3) rfl)) (by decide) e0 at_108 rfl pd1 [(.double d8)] [] rfl rfl rfl 0 rfl (by decide) (by decide) (by decide) (by decide) rfl ?_
          rintro _ T11 _ X11 ⟨r11, rfl, b11, rfl, e11⟩
          rw [List.append_nil] at X11
          show Go p.tables e below _ T11 (mkF m 111 #[.val (.int p0), .val (.int p1), .val (.int p2), .val (.int i1), .val (.int p0), .val (.int (1 : Int32)), .val (.double d7), .second, .val (.double d8), .second, .val (.int (0 : Int32))] [(.int r11)])
          refine g_iload C X11 (pc' := 113) at_111 rfl rfl ?_
          refine g_icmp C X11 at_113 (pc' := 120) (pc'' := 116) (by decide) (by decide) rfl (fun c113 => ?_) (fun c113 => ?_)
          · have c113 : ¬ (r11.toInt = 0) := c113
            refine g_iconst C X11 (pc' := 121) at_120 (v := (0 : Int32)) (by decide) rfl ?_
            exfalso; omega
          · have c113 : r11.toInt = 0 := Decidable.not_not.mp c113
            refine g_iconst C X11 (pc' := 117) at_116 (v := (1 : Int32)) (by decide) rfl ?_
            refine g_goto C X11 at_117 (pc' := 121) (by decide) (by decide) ?_
            exact g_zreturn C X11 at_121 (w := 1) (by decide) ⟨rfl, Fr.nil n0⟩ (by decide) (by decide)
        · have c77 : ¬ (p0.toInt < (-i1).toInt) := c77
          refine g_iconst C X0 (pc' := 81) at_80 (v := (1 : Int32)) (by decide) rfl ?_
          refine g_goto C X0 at_81 (pc' := 104) (by decide) (by decide) ?_
          refine g_istore C X0 (pc' := 106) at_104 (x := (1 : Int32)) rfl (l' := #[.val (.int p0), .val (.int p1), .val (.int p2), .val (.int i1), .val (.int p0), .val (.int (1 : Int32)), .val (.double d7), .second, .val (.double d8), .second, .val (.int (1 : Int32))]) rfl rfl ?_
          refine g_dload C X0 (pc' := 108) at_106 rfl rfl ?_
          refine g_callS C X0 (c_isd l Z h d8 nnv) (hw _ (List.mem_of_getElem? (i := 0) rfl)) (hw _ (List.mem_of_getElem? (i := 1) rfl)) (hw _ (List.mem_of_getElem? (i := 2) rfl)) (hw _ (List.mem_of_getElem? (i := 3) rfl)) (by decide) e0 at_108 rfl pd1 [(.double d8)] [] rfl rfl rfl 0 rfl (by decide) (by decide) (by decide) (by decide) rfl ?_
          rintro _ T12 _ X12 ⟨r12, rfl, b12, rfl, e12⟩
          rw [List.append_nil] at X12
          show Go p.tables e below _ T12 (mkF m 111 #[.val (.int p0), .val (.int p1), .val (.int p2), .val (.int i1), .val (.int p0), .val (.int (1 : Int32)), .val (.double d7), .second, .val (.double d8), .second, .val (.int (1 : Int32))] [(.int r12)])
          refine g_iload C X12 (pc' := 113) at_111 rfl rfl ?_
          refine g_icmp C X12 at_113 (pc' := 120) (pc'' := 116) (by decide) (by decide) rfl (fun c113 => ?_) (fun c113 => ?_)
          · have c113 : ¬ (r12.toInt = 1) := c113
            refine g_iconst C X12 (pc' := 121) at_120 (v := (0 : Int32)) (by decide) rfl ?_
            exfalso; omega
          · have c113 : r12.toInt = 1 := Decidable.not_not.mp c113
            refine g_iconst C X12 (pc' := 117) at_116 (v := (1 : Int32)) (by decide) rfl ?_
            refine g_goto C X12 at_117 (pc' := 121) (by decide) (by decide) ?_
            exact g_zreturn C X12 at_121 (w := 1) (by decide) ⟨rfl, Fr.nil n0⟩ (by decide) (by decide)
set_option maxRecDepth 65536 in
set_option maxHeartbeats 40000000 in
theorem comes_1 {Post : Tables → Env → Array Value → State → Outcome → State → Prop} (hpost : ∀ tb e args s v u, (limb_1_1.after args s (.returned v) u = true ∧ limb_1_2.after args s (.returned v) u = true ∧ True) → FrameEnd s (.returned v) u (Jvm.fieldLocs frame_1_writes args s ++ Jvm.arrayLocs frame_1_arrays args s ++ Jvm.staticLocs frame_1_statics s) 0 0 → Post tb e args s (.returned v) u) :
    ArmFor flags0 classFile x code maxLocals ret World_1 tables_1 room_1 Calls_1 rest_1 Pre_1 Post := by
  intro l hfl _ _ p e ha hc hk s m args below hf hA hF happ hP
  obtain ⟨hcalls, hrest, hpre⟩ := hP
  obtain ⟨-, -, -, hnamed, -, -, -, hat⟩ := (Spec.applies_iff hf).mp happ
  obtain ⟨hg, hn⟩ := and_e (Cond.before_iff.mp (show (Jvm.Cond.and given_1 narrow_1).before args s = true from hpre))
  obtain ⟨g_c, g_0⟩ := and_e hg
  obtain ⟨k_0, g_1⟩ := and_e g_0
  obtain ⟨k_1, g_2⟩ := and_e g_1
  have k_2 := g_2
  obtain ⟨w0, w1, w2, rfl⟩ : ∃ w0 w1 w2 : Value, args = #[w0, w1, w2] := by
    have hs : args.size = 3 := by simpa [Cond.value, given_1] using g_c
    obtain ⟨L⟩ := args
    match L, hs with
    | [w0, w1, w2], _ => exact ⟨w0, w1, w2, rfl⟩
  have hw := fun d (hd : d ∈ tables_1) => atoms_spec (ws := Jvm.Cond.code x code maxLocals ret :: tables_1) hat d (List.mem_cons_of_mem _ hd)
  have hfit : Fit s := fun {y c} hc i hi => by
    obtain ⟨ha, rfl⟩ := Array.getElem?_eq_some_iff.mp hc
    have q := List.all_eq_true.mp ((Array.all_eq_true_iff_forall_mem.mp hF) _ (Array.getElem_mem ha)) i (List.mem_range.mpr hi)
    simpa [Array.getElem?_eq_getElem hi] using q
  obtain ⟨p0, q_0⟩ := is_v k_0
  obtain rfl : w0 = (.int p0) := Option.some.inj q_0
  obtain ⟨p1, q_1⟩ := is_v k_1
  obtain rfl : w1 = (.int p1) := Option.some.inj q_1
  obtain ⟨p2, q_2⟩ := is_v k_2
  obtain rfl : w2 = (.int p2) := Option.some.inj q_2
  obtain ⟨n, o, h1, h2, h3, _, L, rfl, ⟨rfl, N⟩, hq⟩ := law l s _ hw p0 p1 p2 s.heap s.heap.size (Nat.le_refl _)  tables_1 p e ha hc hk s m _ below hf ((Spec.applies_iff_loose hf).mp happ).1 ⟨rfl, State.Warmed39.refl s, rfl⟩ trivial
  refine ⟨n, _, h1, h2, h3, hpost _ _ _ _ _ _ ⟨Cond.after_iff.mpr rfl, Cond.after_iff.mpr (eq_i res_at (Term.int_eval (1)) rfl), trivial⟩ ⟨hq.1, hq.2.1, (hq.2.2.sift fun y hy => Or.inr (N y hy)).mono (by decide) (by decide)⟩⟩
theorem main_1_1 : Claimed_1_1 := comes_1 fun _ _ _ _ _ _ h hF => ⟨h.1, hF⟩
theorem main_1_2 : Claimed_1_2 := comes_1 fun _ _ _ _ _ _ h hF => ⟨h.2.1, hF⟩
end Jvm.Pilot.@@N@@
namespace Jvm.Pilot.@@N@@
open Jvm Jvm.ClassFile Sem Op Lib Jvm.Free Jvm.Stand Jvm.Pilot.@@N@@.Jvm.D
/-! MADE BY PROGRAM (witnessworld.py) out of the Statement's table words and the real class files: 9 classes; the members and pool entries that the words name. The judged class is class 1, her method 1. -/
namespace start1
open Jvm.ClassFile
def u (s : String) : CpInfo := .utf8 (stringToUtf16 s)
/-- a pool by its gaps: so many unusable entries, then the entry; so many at the end -/
def gap : Nat → List CpInfo → List CpInfo
  | 0, r => r
  | n + 1, r => .unusable :: gap n r
def poolList (es : List (Nat × CpInfo)) (last : Nat) : List CpInfo := es.foldr (fun e r => gap e.1 (e.2 :: r)) (gap last [])
def pool (es : List (Nat × CpInfo)) (last : Nat) : Array CpInfo := ⟨poolList es last⟩
def fileOf (pool : Array CpInfo) (this : Nat) (attrs : Array Attribute := #[]) (ms : Array MethodInfo := #[]) (fl : Nat := 33) (sup : Nat := 0) (ifs : Array Nat := #[]) (fds : Array FieldInfo := #[]) : ClassFile where
  minorVersion := 0
  majorVersion := 65
  constantPool := pool
  accessFlags := fl
  thisClass := this
  superClass := sup
  interfaces := ifs
  fields := fds
  methods := ms
  attributes := attrs
def plain (name : String) (sup : Option ClassId) : Class where
  name := name
  kind := .ordinary
  loader := none
  accessFlags := 33
  super := sup
  interfaces := #[]
  cf := none
  fields := #[]
  methods := #[]
  instanceTypes := #[]
  staticTypes := #[]
  resolved := #[]
  callSites := []
  init := .initialized
  statics := none
  mirror := none

def pool0 : Array CpInfo := pool [(5, u "<init>"), (0, u "()V"), (1, .class_ 10), (1, u "java/lang/Object")] 113

def k0m0 : Method := { name := "<init>", desc := "()V", sig := { parameters := [], returnType := none }, accessFlags := 1, code := none }
/-- java/lang/Object -/
def k0 : Class := { plain "java/lang/Object" none with
  accessFlags := 33
  interfaces := #[]
  cf := some (fileOf pool0 8 #[] #[{ accessFlags := 1, nameIndex := 5, descriptorIndex := 6, attributes := #[] }] 33 0 #[] #[])
  fields := #[]
  methods := #[k0m0]
  instanceTypes := #[]
  staticTypes := #[]
  resolved := Array.replicate 124 none
  statics := none }

def pool1 : Array CpInfo := pool [(2, .class_ 4), (1, u "java/lang/Object"), (0, u "<init>"), (0, u "()V"), (0, .methodref 8 9), (0, .class_ 10), (0, .nameAndType 11 12), (0, u "com/example/fennec/fennec/core/Degrees"), (0, u "isDegree"), (0, u "(D)Z"), (0, .class_ 14), (0, u "com/example/fennec/fennec/core/DegreesIsDegreePinLaw"), (2, u "law"), (0, u "(III)Z")] 3

def k1m0 : Method := { name := "<init>", desc := "()V", sig := { parameters := [], returnType := none }, accessFlags := 1, code := none }
def k1c1 : Code := { maxStack := 4, maxLocals := 11, code := code, exceptionTable := #[], attributes := #[] }
def k1m1 : Method := { name := "law", desc := "(III)Z", sig := { parameters := [.int, .int, .int], returnType := some .boolean }, accessFlags := 9, code := some k1c1 }
/-- com/example/fennec/fennec/core/DegreesIsDegreePinLaw -/
def k1 : Class := { plain "com/example/fennec/fennec/core/DegreesIsDegreePinLaw" (some 0) with
  accessFlags := 49
  interfaces := #[]
  cf := some (fileOf pool1 13 #[] #[{ accessFlags := 1, nameIndex := 5, descriptorIndex := 6, attributes := #[] }, { accessFlags := 9, nameIndex := 17, descriptorIndex := 18, attributes := #[] }] 49 2 #[] #[])
  fields := #[]
  methods := #[k1m0, k1m1]
  instanceTypes := #[]
  staticTypes := #[]
  resolved := Array.replicate 22 none
  statics := none }

def pool2 : Array CpInfo := pool [(2, .class_ 4), (1, u "java/lang/Object"), (0, u "<init>"), (0, u "()V"), (1, .class_ 10), (1, u "com/example/fennec/fennec/core/Degrees"), (0, u "isDegree"), (0, u "(D)Z"), (11, u "TOLERANCE"), (0, u "D")] 25

def k2m0 : Method := { name := "<init>", desc := "()V", sig := { parameters := [], returnType := none }, accessFlags := 2, code := none }
def k2c1 : Code := { maxStack := 4, maxLocals := 2, code := prog_5_method_2_code, exceptionTable := #[], attributes := #[] }
def k2m1 : Method := { name := "isDegree", desc := "(D)Z", sig := { parameters := [.double], returnType := some .boolean }, accessFlags := 9, code := some k2c1 }
/-- com/example/fennec/fennec/core/Degrees -/
def k2 : Class := { plain "com/example/fennec/fennec/core/Degrees" (some 0) with
  accessFlags := 49
  interfaces := #[]
  cf := some (fileOf pool2 8 #[] #[{ accessFlags := 2, nameIndex := 5, descriptorIndex := 6, attributes := #[] }, { accessFlags := 9, nameIndex := 11, descriptorIndex := 12, attributes := #[] }] 49 2 #[] #[{ accessFlags := 25, nameIndex := 24, descriptorIndex := 25, attributes := #[] }])
  fields := #[{ name := "TOLERANCE", type := .double, accessFlags := 25, slot := 0, constantValue := 0 }]
  methods := #[k2m0, k2m1]
  instanceTypes := #[]
  staticTypes := #[.double]
  resolved := Array.replicate 51 none
  statics := none }

def pool3 : Array CpInfo := pool [(1, u "java/lang/Cloneable"), (0, .class_ 1), (0, u "java/lang/Object"), (0, .class_ 3)] 3

/-- java/lang/Cloneable -/
def k3 : Class := { plain "java/lang/Cloneable" (some 0) with
  accessFlags := 1537
  interfaces := #[]
  cf := some (fileOf pool3 2 #[] #[] 1537 4 #[] #[])
  fields := #[]
  methods := #[]
  instanceTypes := #[]
  staticTypes := #[]
  resolved := Array.replicate 8 none
  statics := none }

def pool4 : Array CpInfo := pool [(1, u "java/io/Serializable"), (0, .class_ 1), (0, u "java/lang/Object"), (0, .class_ 3)] 3

/-- java/io/Serializable -/
def k4 : Class := { plain "java/io/Serializable" (some 0) with
  accessFlags := 1537
  interfaces := #[]
  cf := some (fileOf pool4 2 #[] #[] 1537 4 #[] #[])
  fields := #[]
  methods := #[]
  instanceTypes := #[]
  staticTypes := #[]
  resolved := Array.replicate 8 none
  statics := none }

/-- the primitive byte -/
def k5 : Class := { plain "byte" none with kind := .primitive 'B', accessFlags := 0x411 }
/-- [B -/
def k6 : Class := { plain "[B" (some 0) with kind := .array 5 .byte, interfaces := #[3, 4], accessFlags := 1041 }

/-- the primitive int -/
def k7 : Class := { plain "int" none with kind := .primitive 'I', accessFlags := 0x411 }
/-- [I -/
def k8 : Class := { plain "[I" (some 0) with kind := .array 7 .int, interfaces := #[3, 4], accessFlags := 1041 }

def heap : Heap := #[]
def classes : Array Class := #[k0, k1, k2, k3, k4, k5, k6, k7, k8]
def interned : List (Array UInt16 × Addr) := []
def slotsUsed : Nat := 0
def theMethod : MethodId := ⟨1, 1⟩
def args0 : Array Value := #[.int 5, .int 7, .int 2]
def aboutOver (below : List Frame) : State where
  vm := { classes := classes, interned := interned.toArray }
  heap := heap
  slotsUsed := slotsUsed
  threads := #[{ frames := .invoking theMethod args0 :: below }]
def below0 : List Frame := [.native { method := ⟨0, 0⟩, args := #[] }]
def about1 : State := aboutOver below0
def p0 : Program := .bare "" "" ""
def e0 : Env := launch0.env 0 0 0
theorem w_frames : about1.frames = Frame.invoking theMethod args0 :: below0 := rfl
set_option maxRecDepth 65536 in
theorem w_args : argsFit about1.vm theMethod args0 = true := by decide +kernel
set_option maxRecDepth 65536 in
theorem w_heap : heapFits about1 = true := by decide +kernel
set_option maxRecDepth 65536 in
theorem w_runnable : about1.curStatus? = some .runnable := by decide +kernel
set_option maxRecDepth 65536 in
theorem w_alone : about1.alone = true := by decide +kernel
set_option maxRecDepth 65536 in
theorem w_named : about1.methodNamed? x = some theMethod := by decide +kernel
set_option maxRecDepth 65536 in
theorem w_hears : about1.hears theMethod below0 = true := by decide +kernel
set_option maxRecDepth 65536 in
theorem w_ripe : about1.ripe theMethod args0 below0 = true := by decide +kernel
theorem w_running : about1.status = .running := rfl
set_option maxRecDepth 65536 in
theorem w_room : about1.hasRoom e0.platform room_1 = true :=
  launch0.hasRoom_least _ room_1 (by decide +kernel) (by decide +kernel) (by decide +kernel) (by decide +kernel) (by decide +kernel) (by decide +kernel)
theorem allAtoms_all (ts : List Jvm.Cond) (a : Array Jvm.Value) (st : Jvm.State) : (allAtoms ts).before a st = ts.all (fun c => c.before a st) := by
  induction ts with
  | nil => rfl
  | cons c t ih =>
    show (Jvm.Cond.and c (allAtoms t)).before a st = _
    rw [Jvm.Cond.before_and, ih, List.all_cons]
def words1 : List Jvm.Cond := Jvm.Cond.code x code maxLocals ret :: tables_1
/-- a 'code' word, met by the world's own term for the bytes: nothing is compared byte by byte -/
theorem code_word {y : MethodName} {bytes : ByteArray} {mx : Nat} {rt : Option FieldType} {a : Array Value} {s : State} {m : MethodId} {meth : Method} {c : Code} (h1 : s.methodNamed? y = some m) (h2 : s.vm.method? m = some meth) (h3 : meth.code = some c) (h4 : c.code = bytes)
    (h5 : (c.maxLocals == mx && c.exceptionTable.isEmpty && decide (c.maxStack ≤ mostOperands) && decide (meth.sig.returnType = rt) && !meth.locks && decide (parseMethodDescriptor y.desc = some meth.sig)) = true) : (Jvm.Cond.code y bytes mx rt).before a s = true := by
  simp only [Bool.and_eq_true, beq_iff_eq, Bool.not_eq_true', decide_eq_true_eq] at h5
  obtain ⟨⟨⟨⟨⟨g1, g2⟩, g3⟩, g4⟩, g5⟩, g6⟩ := h5
  simp [Cond.before, Cond.holds, Cond.value, h1, h2, h3, h4, g1, g2, g3, g4, g5, g6]
def isCode : Jvm.Cond → Bool
  | .code _ _ _ _ => true
  | _ => false
theorem all_split {L : List Jvm.Cond} {P : Jvm.Cond → Bool} (h1 : L.all (fun c => isCode c || P c) = true) (h2 : ∀ c ∈ L.filter isCode, P c = true) : L.all P = true := by
  refine List.all_eq_true.mpr fun c hc => ?_
  have h := List.all_eq_true.mp h1 c hc
  rcases Bool.eq_false_or_eq_true (isCode c) with hi | hi
  · exact h2 c (List.mem_filter.mpr ⟨hc, hi⟩)
  · simpa [hi] using h
set_option maxRecDepth 65536 in
theorem w_c0 : (Jvm.Cond.code x code maxLocals ret).before args0 about1 = true := code_word (m := ⟨1, 1⟩) (meth := k1m1) (c := k1c1) (by decide +kernel) rfl rfl rfl (by decide +kernel)
set_option maxRecDepth 65536 in
theorem w_c1 : (Jvm.Cond.code ({ cls := "com/example/fennec/fennec/core/Degrees", name := "isDegree", desc := "(D)Z" } : Jvm.MethodName) prog_5_method_2_code (2 : Nat) (Option.some Jvm.ClassFile.FieldType.boolean)).before args0 about1 = true := code_word (m := ⟨2, 1⟩) (meth := k2m1) (c := k2c1) (by decide +kernel) rfl rfl rfl (by decide +kernel)
def codes1 : List Jvm.Cond := [Jvm.Cond.code x code maxLocals ret, Jvm.Cond.code ({ cls := "com/example/fennec/fennec/core/Degrees", name := "isDegree", desc := "(D)Z" } : Jvm.MethodName) prog_5_method_2_code (2 : Nat) (Option.some Jvm.ClassFile.FieldType.boolean)]
set_option maxRecDepth 65536 in
theorem codes_eq : words1.filter isCode = codes1 := rfl
theorem w_codes : ∀ c ∈ words1.filter isCode, c.before args0 about1 = true := by
  rw [codes_eq]
  intro c hc
  simp only [codes1, List.mem_cons, List.not_mem_nil, or_false] at hc
  rcases hc with rfl | rfl
  · exact w_c0
  · exact w_c1
set_option maxRecDepth 65536 in
theorem w_t1 : words1.all (fun c => isCode c || c.before args0 about1) = true := by decide +kernel
theorem w_tables : (allAtoms (Jvm.Cond.code x code maxLocals ret :: tables_1)).before args0 about1 = true := by
  rw [allAtoms_all]
  show words1.all (fun c => c.before args0 about1) = true
  refine all_split ?_ w_codes
  rw [w_t1]
set_option maxRecDepth 65536 in
theorem w_case : (Jvm.Cond.and given_1 narrow_1).before args0 about1 = true := by decide +kernel
theorem w_applies : (headSpec (Jvm.Cond.code x code maxLocals ret :: tables_1) room_1).applies x e0.platform about1 = true :=
  (Spec.applies_iff w_frames).mpr ⟨w_running, w_runnable, w_alone, w_named, w_hears, w_ripe, w_room, w_tables⟩
theorem atStart : AtStart classFile x code maxLocals ret World_1 tables_1 room_1 Calls_1 rest_1 Pre_1 launch0 p0 e0 about1 theMethod args0 below0 :=
  ⟨lists_1, trivial, launch0.admits_env _ _ _, launch0.least_env, fairChoices_fair.cas, fairChoices_fair.clock, w_frames, w_args, w_heap, w_applies, trivial, trivial, w_case⟩
end start1
theorem witness_1 : WitnessClaimed_1 := ⟨start1.p0, start1.e0, start1.about1, start1.theMethod, start1.args0, start1.below0, start1.atStart⟩
end Jvm.Pilot.@@N@@
