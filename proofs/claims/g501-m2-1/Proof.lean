import JvmDerived
import JvmDerived.Pilot.@@N@@Statement
import JvmDerived.Pilot.@@N@@Code
set_option linter.unusedVariables false
set_option linter.unusedSimpArgs false
namespace Jvm.Own
open Sem ClassFile Op Lib Jvm.Stand Jvm.Free Jvm.LawKit Jvm.RoadKit
/-- the run goes on from the frame g over T and comes to an end of which P holds -/
def Go (p : Program) (e : Env) (below : List Frame) (P : Outcome → State → Prop) (T : State) (g : JFrame) : Prop :=
  ∃ U o, Steps p.tables e below (T.setTop g) U ∧ U.status = .running ∧ Ended U below o ∧ P o U
/-- what a body's end says: it returned v; it wrote in new cells alone, kept the heap h0 but for ws and the start's heap whole; Q of what it returned and of the heap -/
def PostOf (Z s : State) (h0 : Heap) (ws : List Addr) (kc ks : Nat) (Q : Option Value → Heap → Prop) (o : Outcome) (U : State) : Prop :=
  ∃ v L, o = .returned v ∧ (Fr Z.heap.size L ∧ Keep h0 U.heap ws ∧ Ext Z.heap U.heap ∧ Q v U.heap) ∧ FrameEnd s o U L kc ks
/-- a body's contract for the arguments as at the heap h0 -/
def OMeets (l : Launch) (Z : State) (y : MethodName) (bytes : ByteArray) (nl : Nat) (ret : Option FieldType) (R : Room) (as : Array Value) (h0 : Heap) (ws : List Addr) (Q : Option Value → Heap → Prop) : Prop :=
  ∀ wd : List Jvm.Cond, MetFree l y (head1 (Jvm.Cond.code y bytes nl ret :: wd) R) (fun a U => a = as ∧ Z.Warmed39 U.vm ∧ U.heap = h0) (fun _ _ _ _ _ => True)
    (fun _ U o U' => PostOf Z U h0 ws R.cells R.slots Q o U')
/-- where the run of one body stands: what is fixed, the library's Stand, the heap, what was written, what is kept -/
def St (p : Program) (l : Launch) (e : Env) (R : Room) (s : State) (m : MethodId) (args : Array Value) (below : List Frame) (meth : Method) (c : Code) (Z : State) (own : String) (bytes : ByteArray) (nl : Nat) (ret : Option FieldType) (nm : String)
    (h0 : Heap) (ws : List Addr) (T : State) (h : Heap) (locs : List Loc) (cells slots : Nat) : Prop :=
  (p.tables.exec = Jvm.exec ∧ c.code = bytes ∧ c.maxLocals = nl ∧ Z.Warmed39 s.vm ∧ s.vm.findClass own = some m.cls ∧ meth.sig.returnType = ret ∧ meth.locks = false ∧ meth.name = nm) ∧
  Stand p l e R s m args below meth c T locs cells slots ∧ T.heap = h ∧ Fr Z.heap.size locs ∧ Keep h0 h ws ∧ Ext Z.heap h
section Steps
variable {p : Program} {l : Launch} {e : Env} {R : Room} {s : State} {m : MethodId} {args : Array Value} {below : List Frame} {meth : Method} {c : Code} {Z : State} {own : String} {bytes : ByteArray} {nl : Nat} {ret : Option FieldType} {nm : String}
  {h0 : Heap} {ws : List Addr} {T : State} {h : Heap} {locs : List Loc} {cells slots : Nat} {P : Outcome → State → Prop} {pc pc' : Nat} {Ls Ls' : Array Slot} {st : List Value} {a0 : Array Value}
theorem off0 {a b : Nat} {o : Int} (h : (a : Int) + o = (b : Int)) : 0 ≤ (a : Int) + o := by omega
theorem off1 {a b : Nat} {o : Int} (h : (a : Int) + o = (b : Int)) : ((a : Int) + o).toNat = b := by omega
theorem Go.of {T' : State} {g g' : JFrame} (k : Go p e below P T' g') (f : ∀ t, Steps p.tables e below (T'.setTop g') t → Steps p.tables e below (T.setTop g) t) : Go p e below P T g := by
  obtain ⟨U, o, h1, h2⟩ := k
  exact ⟨U, o, f _ h1, h2⟩
theorem Go.imp {g : JFrame} {P' : Outcome → State → Prop} (k : Go p e below P T g) (f : ∀ o U, P o U → P' o U) : Go p e below P' T g := by
  obtain ⟨U, o, h1, h2, h3, h4⟩ := k
  exact ⟨U, o, h1, h2, h3, f _ _ h4⟩
theorem St.ex (S : St p l e R s m args below meth c Z own bytes nl ret nm h0 ws T h locs cells slots) : p.tables.exec = Jvm.exec := S.1.1
theorem St.hd (S : St p l e R s m args below meth c Z own bytes nl ret nm h0 ws T h locs cells slots) {r : Except DecodeError (Instr × Nat)} (h2 : decode bytes pc = r) : decode c.code pc = r := S.1.2.1 ▸ h2
theorem St.hnl (S : St p l e R s m args below meth c Z own bytes nl ret nm h0 ws T h locs cells slots) : c.maxLocals = nl := S.1.2.2.1
theorem St.hZ (S : St p l e R s m args below meth c Z own bytes nl ret nm h0 ws T h locs cells slots) : Z.Warmed39 s.vm := S.1.2.2.2.1
theorem St.hown (S : St p l e R s m args below meth c Z own bytes nl ret nm h0 ws T h locs cells slots) : s.vm.findClass own = some m.cls := S.1.2.2.2.2.1
theorem St.hret (S : St p l e R s m args below meth c Z own bytes nl ret nm h0 ws T h locs cells slots) : meth.sig.returnType = ret := S.1.2.2.2.2.2.1
theorem St.locks (S : St p l e R s m args below meth c Z own bytes nl ret nm h0 ws T h locs cells slots) : meth.locks = false := S.1.2.2.2.2.2.2.1
theorem St.hnm (S : St p l e R s m args below meth c Z own bytes nl ret nm h0 ws T h locs cells slots) : meth.name = nm := S.1.2.2.2.2.2.2.2
theorem St.X (S : St p l e R s m args below meth c Z own bytes nl ret nm h0 ws T h locs cells slots) : Stand p l e R s m args below meth c T locs cells slots := S.2.1
theorem St.eT (S : St p l e R s m args below meth c Z own bytes nl ret nm h0 ws T h locs cells slots) : T.heap = h := S.2.2.1
theorem St.fr (S : St p l e R s m args below meth c Z own bytes nl ret nm h0 ws T h locs cells slots) : Fr Z.heap.size locs := S.2.2.2.1
theorem St.keep (S : St p l e R s m args below meth c Z own bytes nl ret nm h0 ws T h locs cells slots) : Keep h0 h ws := S.2.2.2.2.1
theorem St.ext (S : St p l e R s m args below meth c Z own bytes nl ret nm h0 ws T h locs cells slots) : Ext Z.heap h := S.2.2.2.2.2
theorem St.more (S : St p l e R s m args below meth c Z own bytes nl ret nm h0 ws T h locs cells slots) {cells' slots' : Nat} (hc : cells ≤ cells') (hs : slots ≤ slots') : St p l e R s m args below meth c Z own bytes nl ret nm h0 ws T h locs cells' slots' := ⟨S.1, S.X.more hc hs, S.2.2⟩
theorem St.next (S : St p l e R s m args below meth c Z own bytes nl ret nm h0 ws T h locs cells slots) {T' : State} {h' : Heap} {locs' : List Loc} {cells' slots' : Nat} (X : Stand p l e R s m args below meth c T' locs' cells' slots') (e1 : T'.heap = h') (N : Fr Z.heap.size locs') (K : Keep h0 h' ws) (E : Ext Z.heap h') : St p l e R s m args below meth c Z own bytes nl ret nm h0 ws T' h' locs' cells' slots' := ⟨S.1, X, e1, N, K, E⟩
theorem Go.iloadN (S : St p l e R s m args below meth c Z own bytes nl ret nm h0 ws T h locs cells slots) {k : Fin 4} {v : Int32} (hd : decode bytes pc = .ok (.iload_n k, 1)) (hl : Ls[k.val]? = some (.val (.int v))) (hp : pc + 1 = pc') (k : Go p e below P T (mkF m pc' Ls (.int v :: st))) : Go p e below P T (mkF m pc Ls st) := by
  subst hp
  exact k.of fun t q => XS.iloadN S.X.here S.ex rfl (S.hd hd) hl q
theorem Go.iload (S : St p l e R s m args below meth c Z own bytes nl ret nm h0 ws T h locs cells slots) {k : Nat} {v : Int32} (hd : decode bytes pc = .ok (.iload k, 2)) (hl : Ls[k]? = some (.val (.int v))) (hp : pc + 2 = pc') (k : Go p e below P T (mkF m pc' Ls (.int v :: st))) : Go p e below P T (mkF m pc Ls st) := by
  subst hp
  exact k.of fun t q => XS.iload S.X.here S.ex rfl (S.hd hd) hl q
theorem Go.istoreN (S : St p l e R s m args below meth c Z own bytes nl ret nm h0 ws T h locs cells slots) {k : Fin 4} {v : Int32} (hd : decode bytes pc = .ok (.istore_n k, 1)) (hl : storeLocals Ls k.val (.int v) = some Ls') (hp : pc + 1 = pc') (k : Go p e below P T (mkF m pc' Ls' st)) : Go p e below P T (mkF m pc Ls (.int v :: st)) := by
  subst hp
  exact k.of fun t q => XS.istoreN S.X.here S.ex rfl (S.hd hd) rfl hl q
theorem Go.istore (S : St p l e R s m args below meth c Z own bytes nl ret nm h0 ws T h locs cells slots) {k : Nat} {v : Int32} (hd : decode bytes pc = .ok (.istore k, 2)) (hl : storeLocals Ls k (.int v) = some Ls') (hp : pc + 2 = pc') (k : Go p e below P T (mkF m pc' Ls' st)) : Go p e below P T (mkF m pc Ls (.int v :: st)) := by
  subst hp
  exact k.of fun t q => XS.istore S.X.here S.ex rfl (S.hd hd) rfl hl q
theorem Go.lloadN (S : St p l e R s m args below meth c Z own bytes nl ret nm h0 ws T h locs cells slots) {k : Fin 4} {v : Int64} (hd : decode bytes pc = .ok (.lload_n k, 1)) (hl : Ls[k.val]? = some (.val (.long v))) (hp : pc + 1 = pc') (k : Go p e below P T (mkF m pc' Ls (.long v :: st))) : Go p e below P T (mkF m pc Ls st) := by
  subst hp
  exact k.of fun t q => XS.lloadN S.X.here S.ex rfl (S.hd hd) hl q
theorem Go.lload (S : St p l e R s m args below meth c Z own bytes nl ret nm h0 ws T h locs cells slots) {k : Nat} {v : Int64} (hd : decode bytes pc = .ok (.lload k, 2)) (hl : Ls[k]? = some (.val (.long v))) (hp : pc + 2 = pc') (k : Go p e below P T (mkF m pc' Ls (.long v :: st))) : Go p e below P T (mkF m pc Ls st) := by
  subst hp
  exact k.of fun t q => XS.lload S.X.here S.ex rfl (S.hd hd) hl q
theorem Go.lstoreN (S : St p l e R s m args below meth c Z own bytes nl ret nm h0 ws T h locs cells slots) {k : Fin 4} {v : Int64} (hd : decode bytes pc = .ok (.lstore_n k, 1)) (hl : storeLocals Ls k.val (.long v) = some Ls') (hp : pc + 1 = pc') (k : Go p e below P T (mkF m pc' Ls' st)) : Go p e below P T (mkF m pc Ls (.long v :: st)) := by
  subst hp
  exact k.of fun t q => XS.lstoreN S.X.here S.ex rfl (S.hd hd) rfl hl q
theorem Go.lstore (S : St p l e R s m args below meth c Z own bytes nl ret nm h0 ws T h locs cells slots) {k : Nat} {v : Int64} (hd : decode bytes pc = .ok (.lstore k, 2)) (hl : storeLocals Ls k (.long v) = some Ls') (hp : pc + 2 = pc') (k : Go p e below P T (mkF m pc' Ls' st)) : Go p e below P T (mkF m pc Ls (.long v :: st)) := by
  subst hp
  exact k.of fun t q => XS.lstore S.X.here S.ex rfl (S.hd hd) rfl hl q
theorem Go.aloadN (S : St p l e R s m args below meth c Z own bytes nl ret nm h0 ws T h locs cells slots) {k : Fin 4} {v : Value} (hd : decode bytes pc = .ok (.aload_n k, 1)) (hl : Ls[k.val]? = some (.val v)) (hr : v.isRef = true) (hp : pc + 1 = pc') (k : Go p e below P T (mkF m pc' Ls (v :: st))) : Go p e below P T (mkF m pc Ls st) := by
  subst hp
  exact k.of fun t q => XS.aloadN S.X.here S.ex rfl (S.hd hd) hl hr q
theorem Go.aload (S : St p l e R s m args below meth c Z own bytes nl ret nm h0 ws T h locs cells slots) {k : Nat} {v : Value} (hd : decode bytes pc = .ok (.aload k, 2)) (hl : Ls[k]? = some (.val v)) (hr : v.isRef = true) (hp : pc + 2 = pc') (k : Go p e below P T (mkF m pc' Ls (v :: st))) : Go p e below P T (mkF m pc Ls st) := by
  subst hp
  exact k.of fun t q => XS.aload S.X.here S.ex rfl (S.hd hd) hl hr q
theorem Go.astoreN (S : St p l e R s m args below meth c Z own bytes nl ret nm h0 ws T h locs cells slots) {k : Fin 4} {v : Value} (hd : decode bytes pc = .ok (.astore_n k, 1)) (hr : v.isRef = true) (hl : storeLocals Ls k.val v = some Ls') (hp : pc + 1 = pc') (k : Go p e below P T (mkF m pc' Ls' st)) : Go p e below P T (mkF m pc Ls (v :: st)) := by
  subst hp
  exact k.of fun t q => XS.astoreN S.X.here S.ex rfl (S.hd hd) rfl hr hl q
theorem Go.astore (S : St p l e R s m args below meth c Z own bytes nl ret nm h0 ws T h locs cells slots) {k : Nat} {v : Value} (hd : decode bytes pc = .ok (.astore k, 2)) (hr : v.isRef = true) (hl : storeLocals Ls k v = some Ls') (hp : pc + 2 = pc') (k : Go p e below P T (mkF m pc' Ls' st)) : Go p e below P T (mkF m pc Ls (v :: st)) := by
  subst hp
  exact k.of fun t q => XS.astore S.X.here S.ex rfl (S.hd hd) rfl hr hl q
theorem Go.iconst (S : St p l e R s m args below meth c Z own bytes nl ret nm h0 ws T h locs cells slots) {i : Int} {v : Int32} (hd : decode bytes pc = .ok (.iconst i, 1)) (hv : Int32.ofInt i = v) (hp : pc + 1 = pc') (k : Go p e below P T (mkF m pc' Ls (.int v :: st))) : Go p e below P T (mkF m pc Ls st) := by
  subst hp hv
  exact k.of fun t q => XS.iconst S.X.here S.ex rfl (S.hd hd) q
theorem Go.bipush (S : St p l e R s m args below meth c Z own bytes nl ret nm h0 ws T h locs cells slots) {i : Int} {v : Int32} (hd : decode bytes pc = .ok (.bipush i, 2)) (hv : (Int8.ofInt i).toInt32 = v) (hp : pc + 2 = pc') (k : Go p e below P T (mkF m pc' Ls (.int v :: st))) : Go p e below P T (mkF m pc Ls st) := by
  subst hp hv
  exact k.of fun t q => XS.bipush S.X.here S.ex rfl (S.hd hd) q
theorem Go.sipush (S : St p l e R s m args below meth c Z own bytes nl ret nm h0 ws T h locs cells slots) {i : Int} {v : Int32} (hd : decode bytes pc = .ok (.sipush i, 3)) (hv : (Int16.ofInt i).toInt32 = v) (hp : pc + 3 = pc') (k : Go p e below P T (mkF m pc' Ls (.int v :: st))) : Go p e below P T (mkF m pc Ls st) := by
  subst hp hv
  exact k.of fun t q => XS.sipush S.X.here S.ex rfl (S.hd hd) q
theorem Go.lconst (S : St p l e R s m args below meth c Z own bytes nl ret nm h0 ws T h locs cells slots) {i : Fin 2} {v : Int64} (hd : decode bytes pc = .ok (.lconst i, 1)) (hv : Int64.ofNat i = v) (hp : pc + 1 = pc') (k : Go p e below P T (mkF m pc' Ls (.long v :: st))) : Go p e below P T (mkF m pc Ls st) := by
  subst hp hv
  exact k.of fun t q => XS.lconst S.X.here S.ex rfl (S.hd hd) q
theorem Go.aconst_null (S : St p l e R s m args below meth c Z own bytes nl ret nm h0 ws T h locs cells slots)  (hd : decode bytes pc = .ok (.aconst_null, 1)) (hp : pc + 1 = pc') (k : Go p e below P T (mkF m pc' Ls (.null :: st))) : Go p e below P T (mkF m pc Ls st) := by
  subst hp
  exact k.of fun t q => XS.aconstNull S.X.here S.ex rfl (S.hd hd) q
theorem Go.iadd (S : St p l e R s m args below meth c Z own bytes nl ret nm h0 ws T h locs cells slots) {x y : Int32} (hd : decode bytes pc = .ok (.iadd, 1)) (hp : pc + 1 = pc') (k : Go p e below P T (mkF m pc' Ls (.int (x + y) :: st))) : Go p e below P T (mkF m pc Ls (.int y :: .int x :: st)) := by
  subst hp
  exact k.of fun t q => XS.iadd S.X.here S.ex rfl (S.hd hd) rfl q
theorem Go.ladd (S : St p l e R s m args below meth c Z own bytes nl ret nm h0 ws T h locs cells slots) {x y : Int64} (hd : decode bytes pc = .ok (.ladd, 1)) (hp : pc + 1 = pc') (k : Go p e below P T (mkF m pc' Ls (.long (x + y) :: st))) : Go p e below P T (mkF m pc Ls (.long y :: .long x :: st)) := by
  subst hp
  exact k.of fun t q => XS.ladd S.X.here S.ex rfl (S.hd hd) rfl q
theorem Go.isub (S : St p l e R s m args below meth c Z own bytes nl ret nm h0 ws T h locs cells slots) {x y : Int32} (hd : decode bytes pc = .ok (.isub, 1)) (hp : pc + 1 = pc') (k : Go p e below P T (mkF m pc' Ls (.int (x - y) :: st))) : Go p e below P T (mkF m pc Ls (.int y :: .int x :: st)) := by
  subst hp
  exact k.of fun t q => XS.isub S.X.here S.ex rfl (S.hd hd) rfl q
theorem Go.lsub (S : St p l e R s m args below meth c Z own bytes nl ret nm h0 ws T h locs cells slots) {x y : Int64} (hd : decode bytes pc = .ok (.lsub, 1)) (hp : pc + 1 = pc') (k : Go p e below P T (mkF m pc' Ls (.long (x - y) :: st))) : Go p e below P T (mkF m pc Ls (.long y :: .long x :: st)) := by
  subst hp
  exact k.of fun t q => XS.lsub S.X.here S.ex rfl (S.hd hd) rfl q
theorem Go.imul (S : St p l e R s m args below meth c Z own bytes nl ret nm h0 ws T h locs cells slots) {x y : Int32} (hd : decode bytes pc = .ok (.imul, 1)) (hp : pc + 1 = pc') (k : Go p e below P T (mkF m pc' Ls (.int (x * y) :: st))) : Go p e below P T (mkF m pc Ls (.int y :: .int x :: st)) := by
  subst hp
  exact k.of fun t q => XS.imul S.X.here S.ex rfl (S.hd hd) rfl q
theorem Go.lmul (S : St p l e R s m args below meth c Z own bytes nl ret nm h0 ws T h locs cells slots) {x y : Int64} (hd : decode bytes pc = .ok (.lmul, 1)) (hp : pc + 1 = pc') (k : Go p e below P T (mkF m pc' Ls (.long (x * y) :: st))) : Go p e below P T (mkF m pc Ls (.long y :: .long x :: st)) := by
  subst hp
  exact k.of fun t q => XS.lmul S.X.here S.ex rfl (S.hd hd) rfl q
theorem Go.iand (S : St p l e R s m args below meth c Z own bytes nl ret nm h0 ws T h locs cells slots) {x y : Int32} (hd : decode bytes pc = .ok (.iand, 1)) (hp : pc + 1 = pc') (k : Go p e below P T (mkF m pc' Ls (.int (x &&& y) :: st))) : Go p e below P T (mkF m pc Ls (.int y :: .int x :: st)) := by
  subst hp
  exact k.of fun t q => XS.iand S.X.here S.ex rfl (S.hd hd) rfl q
theorem Go.land (S : St p l e R s m args below meth c Z own bytes nl ret nm h0 ws T h locs cells slots) {x y : Int64} (hd : decode bytes pc = .ok (.land, 1)) (hp : pc + 1 = pc') (k : Go p e below P T (mkF m pc' Ls (.long (x &&& y) :: st))) : Go p e below P T (mkF m pc Ls (.long y :: .long x :: st)) := by
  subst hp
  exact k.of fun t q => XS.land S.X.here S.ex rfl (S.hd hd) rfl q
theorem Go.ior (S : St p l e R s m args below meth c Z own bytes nl ret nm h0 ws T h locs cells slots) {x y : Int32} (hd : decode bytes pc = .ok (.ior, 1)) (hp : pc + 1 = pc') (k : Go p e below P T (mkF m pc' Ls (.int (x ||| y) :: st))) : Go p e below P T (mkF m pc Ls (.int y :: .int x :: st)) := by
  subst hp
  exact k.of fun t q => XS.ior S.X.here S.ex rfl (S.hd hd) rfl q
theorem Go.lor (S : St p l e R s m args below meth c Z own bytes nl ret nm h0 ws T h locs cells slots) {x y : Int64} (hd : decode bytes pc = .ok (.lor, 1)) (hp : pc + 1 = pc') (k : Go p e below P T (mkF m pc' Ls (.long (x ||| y) :: st))) : Go p e below P T (mkF m pc Ls (.long y :: .long x :: st)) := by
  subst hp
  exact k.of fun t q => XS.lor S.X.here S.ex rfl (S.hd hd) rfl q
theorem Go.ixor (S : St p l e R s m args below meth c Z own bytes nl ret nm h0 ws T h locs cells slots) {x y : Int32} (hd : decode bytes pc = .ok (.ixor, 1)) (hp : pc + 1 = pc') (k : Go p e below P T (mkF m pc' Ls (.int (x ^^^ y) :: st))) : Go p e below P T (mkF m pc Ls (.int y :: .int x :: st)) := by
  subst hp
  exact k.of fun t q => XS.ixor S.X.here S.ex rfl (S.hd hd) rfl q
theorem Go.lxor (S : St p l e R s m args below meth c Z own bytes nl ret nm h0 ws T h locs cells slots) {x y : Int64} (hd : decode bytes pc = .ok (.lxor, 1)) (hp : pc + 1 = pc') (k : Go p e below P T (mkF m pc' Ls (.long (x ^^^ y) :: st))) : Go p e below P T (mkF m pc Ls (.long y :: .long x :: st)) := by
  subst hp
  exact k.of fun t q => XS.lxor S.X.here S.ex rfl (S.hd hd) rfl q
theorem Go.ishl (S : St p l e R s m args below meth c Z own bytes nl ret nm h0 ws T h locs cells slots) {x : Int32} {y : Int32} (hd : decode bytes pc = .ok (.ishl, 1)) (hp : pc + 1 = pc') (k : Go p e below P T (mkF m pc' Ls (.int (x <<< (y &&& 31)) :: st))) : Go p e below P T (mkF m pc Ls (.int y :: .int x :: st)) := by
  subst hp
  exact k.of fun t q => XS.ishl S.X.here S.ex rfl (S.hd hd) rfl q
theorem Go.ishr (S : St p l e R s m args below meth c Z own bytes nl ret nm h0 ws T h locs cells slots) {x : Int32} {y : Int32} (hd : decode bytes pc = .ok (.ishr, 1)) (hp : pc + 1 = pc') (k : Go p e below P T (mkF m pc' Ls (.int (x >>> (y &&& 31)) :: st))) : Go p e below P T (mkF m pc Ls (.int y :: .int x :: st)) := by
  subst hp
  exact k.of fun t q => XS.ishr S.X.here S.ex rfl (S.hd hd) rfl q
theorem Go.iushr (S : St p l e R s m args below meth c Z own bytes nl ret nm h0 ws T h locs cells slots) {x : Int32} {y : Int32} (hd : decode bytes pc = .ok (.iushr, 1)) (hp : pc + 1 = pc') (k : Go p e below P T (mkF m pc' Ls (.int ((x.toUInt32 >>> (y &&& 31).toUInt32).toInt32) :: st))) : Go p e below P T (mkF m pc Ls (.int y :: .int x :: st)) := by
  subst hp
  exact k.of fun t q => XS.iushr S.X.here S.ex rfl (S.hd hd) rfl q
theorem Go.lshl (S : St p l e R s m args below meth c Z own bytes nl ret nm h0 ws T h locs cells slots) {x : Int64} {y : Int32} (hd : decode bytes pc = .ok (.lshl, 1)) (hp : pc + 1 = pc') (k : Go p e below P T (mkF m pc' Ls (.long (x <<< (y &&& 0x3f).toInt64) :: st))) : Go p e below P T (mkF m pc Ls (.int y :: .long x :: st)) := by
  subst hp
  exact k.of fun t q => XS.lshl S.X.here S.ex rfl (S.hd hd) rfl q
theorem Go.lshr (S : St p l e R s m args below meth c Z own bytes nl ret nm h0 ws T h locs cells slots) {x : Int64} {y : Int32} (hd : decode bytes pc = .ok (.lshr, 1)) (hp : pc + 1 = pc') (k : Go p e below P T (mkF m pc' Ls (.long (x >>> (y &&& 0x3f).toInt64) :: st))) : Go p e below P T (mkF m pc Ls (.int y :: .long x :: st)) := by
  subst hp
  exact k.of fun t q => XS.lshr S.X.here S.ex rfl (S.hd hd) rfl q
theorem Go.lushr (S : St p l e R s m args below meth c Z own bytes nl ret nm h0 ws T h locs cells slots) {x : Int64} {y : Int32} (hd : decode bytes pc = .ok (.lushr, 1)) (hp : pc + 1 = pc') (k : Go p e below P T (mkF m pc' Ls (.long ((x.toUInt64 >>> (y &&& 0x3f).toInt64.toUInt64).toInt64) :: st))) : Go p e below P T (mkF m pc Ls (.int y :: .long x :: st)) := by
  subst hp
  exact k.of fun t q => XS.lushr S.X.here S.ex rfl (S.hd hd) rfl q
theorem Go.i2l (S : St p l e R s m args below meth c Z own bytes nl ret nm h0 ws T h locs cells slots) {x : Int32} (hd : decode bytes pc = .ok (.i2l, 1)) (hp : pc + 1 = pc') (k : Go p e below P T (mkF m pc' Ls (.long (x.toInt64) :: st))) : Go p e below P T (mkF m pc Ls (.int x :: st)) := by
  subst hp
  exact k.of fun t q => XS.i2l S.X.here S.ex rfl (S.hd hd) rfl q
theorem Go.l2i (S : St p l e R s m args below meth c Z own bytes nl ret nm h0 ws T h locs cells slots) {x : Int64} (hd : decode bytes pc = .ok (.l2i, 1)) (hp : pc + 1 = pc') (k : Go p e below P T (mkF m pc' Ls (.int (x.toInt32) :: st))) : Go p e below P T (mkF m pc Ls (.long x :: st)) := by
  subst hp
  exact k.of fun t q => XS.l2i S.X.here S.ex rfl (S.hd hd) rfl q
theorem Go.i2b (S : St p l e R s m args below meth c Z own bytes nl ret nm h0 ws T h locs cells slots) {x : Int32} (hd : decode bytes pc = .ok (.i2b, 1)) (hp : pc + 1 = pc') (k : Go p e below P T (mkF m pc' Ls (.int (x.toInt8.toInt32) :: st))) : Go p e below P T (mkF m pc Ls (.int x :: st)) := by
  subst hp
  exact k.of fun t q => XS.i2b S.X.here S.ex rfl (S.hd hd) rfl q
theorem Go.i2s (S : St p l e R s m args below meth c Z own bytes nl ret nm h0 ws T h locs cells slots) {x : Int32} (hd : decode bytes pc = .ok (.i2s, 1)) (hp : pc + 1 = pc') (k : Go p e below P T (mkF m pc' Ls (.int (x.toInt16.toInt32) :: st))) : Go p e below P T (mkF m pc Ls (.int x :: st)) := by
  subst hp
  exact k.of fun t q => XS.i2s S.X.here S.ex rfl (S.hd hd) rfl q
theorem Go.i2c (S : St p l e R s m args below meth c Z own bytes nl ret nm h0 ws T h locs cells slots) {x : Int32} (hd : decode bytes pc = .ok (.i2c, 1)) (hp : pc + 1 = pc') (k : Go p e below P T (mkF m pc' Ls (.int (x.toUInt32.toUInt16.toUInt32.toInt32) :: st))) : Go p e below P T (mkF m pc Ls (.int x :: st)) := by
  subst hp
  exact k.of fun t q => XS.i2c S.X.here S.ex rfl (S.hd hd) rfl q
theorem Go.ineg (S : St p l e R s m args below meth c Z own bytes nl ret nm h0 ws T h locs cells slots) {x : Int32} (hd : decode bytes pc = .ok (.ineg, 1)) (hp : pc + 1 = pc') (k : Go p e below P T (mkF m pc' Ls (.int (-x) :: st))) : Go p e below P T (mkF m pc Ls (.int x :: st)) := by
  subst hp
  exact k.of fun t q => XS.ineg S.X.here S.ex rfl (S.hd hd) rfl q
theorem Go.lneg (S : St p l e R s m args below meth c Z own bytes nl ret nm h0 ws T h locs cells slots) {x : Int64} (hd : decode bytes pc = .ok (.lneg, 1)) (hp : pc + 1 = pc') (k : Go p e below P T (mkF m pc' Ls (.long (-x) :: st))) : Go p e below P T (mkF m pc Ls (.long x :: st)) := by
  subst hp
  exact k.of fun t q => XS.lneg S.X.here S.ex rfl (S.hd hd) rfl q
theorem Go.idiv (S : St p l e R s m args below meth c Z own bytes nl ret nm h0 ws T h locs cells slots) {x y : Int32} (hd : decode bytes pc = .ok (.idiv, 1)) (hy : y ≠ 0) (hp : pc + 1 = pc') (k : Go p e below P T (mkF m pc' Ls (.int (x / y) :: st))) : Go p e below P T (mkF m pc Ls (.int y :: .int x :: st)) := by
  subst hp
  exact k.of fun t q => XS.idiv S.X.here S.ex rfl (S.hd hd) rfl hy q
theorem Go.ldiv (S : St p l e R s m args below meth c Z own bytes nl ret nm h0 ws T h locs cells slots) {x y : Int64} (hd : decode bytes pc = .ok (.ldiv, 1)) (hy : y ≠ 0) (hp : pc + 1 = pc') (k : Go p e below P T (mkF m pc' Ls (.long (x / y) :: st))) : Go p e below P T (mkF m pc Ls (.long y :: .long x :: st)) := by
  subst hp
  exact k.of fun t q => XS.ldiv S.X.here S.ex rfl (S.hd hd) rfl hy q
theorem Go.irem (S : St p l e R s m args below meth c Z own bytes nl ret nm h0 ws T h locs cells slots) {x y : Int32} (hd : decode bytes pc = .ok (.irem, 1)) (hy : y ≠ 0) (hp : pc + 1 = pc') (k : Go p e below P T (mkF m pc' Ls (.int (x % y) :: st))) : Go p e below P T (mkF m pc Ls (.int y :: .int x :: st)) := by
  subst hp
  exact k.of fun t q => Jvm.RoadKit.iremM S.X S.ex rfl (S.hd hd) rfl hy q
theorem Go.lrem (S : St p l e R s m args below meth c Z own bytes nl ret nm h0 ws T h locs cells slots) {x y : Int64} (hd : decode bytes pc = .ok (.lrem, 1)) (hy : y ≠ 0) (hp : pc + 1 = pc') (k : Go p e below P T (mkF m pc' Ls (.long (x % y) :: st))) : Go p e below P T (mkF m pc Ls (.long y :: .long x :: st)) := by
  subst hp
  rw [← lrem_mod] at k
  exact k.of fun t q => XS.lrem S.X.here S.ex rfl (S.hd hd) rfl hy q
theorem Go.iinc (S : St p l e R s m args below meth c Z own bytes nl ret nm h0 ws T h locs cells slots) {k : Nat} {cst : Int} {x : Int32} (hd : decode bytes pc = .ok (.iinc k cst, 3)) (hl : Ls[k]? = some (.val (.int x))) (hl' : storeLocals Ls k (.int (x + Int32.ofInt cst)) = some Ls') (hp : pc + 3 = pc') (k : Go p e below P T (mkF m pc' Ls' st)) : Go p e below P T (mkF m pc Ls st) := by
  subst hp
  exact k.of fun t q => XS.iinc S.X.here S.ex rfl (S.hd hd) hl hl' q
theorem Go.dup (S : St p l e R s m args below meth c Z own bytes nl ret nm h0 ws T h locs cells slots) {x : Value} (hd : decode bytes pc = .ok (.dup, 1)) (hc : x.category = 1) (hp : pc + 1 = pc') (k : Go p e below P T (mkF m pc' Ls (x :: x :: st))) : Go p e below P T (mkF m pc Ls (x :: st)) := by
  subst hp
  exact k.of fun t q => XS.dup S.X.here S.ex rfl (S.hd hd) rfl hc q
theorem Go.pop (S : St p l e R s m args below meth c Z own bytes nl ret nm h0 ws T h locs cells slots) {x : Value} (hd : decode bytes pc = .ok (.pop, 1)) (hc : x.category = 1) (hp : pc + 1 = pc') (k : Go p e below P T (mkF m pc' Ls st)) : Go p e below P T (mkF m pc Ls (x :: st)) := by
  subst hp
  exact k.of fun t q => XS.pop S.X.here S.ex rfl (S.hd hd) rfl hc q
theorem Go.dup_x1 (S : St p l e R s m args below meth c Z own bytes nl ret nm h0 ws T h locs cells slots) {x y : Value} (hd : decode bytes pc = .ok (.dup_x1, 1)) (hc : x.category = 1) (hc' : y.category = 1) (hp : pc + 1 = pc') (k : Go p e below P T (mkF m pc' Ls (x :: y :: x :: st))) : Go p e below P T (mkF m pc Ls (x :: y :: st)) := by
  subst hp
  exact k.of fun t q => XS.dupX1 S.X.here S.ex rfl (S.hd hd) rfl hc hc' q
theorem Go.goto (S : St p l e R s m args below meth c Z own bytes nl ret nm h0 ws T h locs cells slots) {o : Int} (hd : decode bytes pc = .ok (.goto o, 3)) (hp : (pc : Int) + o = (pc' : Int)) (k : Go p e below P T (mkF m pc' Ls st)) : Go p e below P T (mkF m pc Ls st) :=
  k.of fun t q => XS.goto S.X.here S.ex rfl (pc0 := pc) rfl (S.hd hd) (off0 hp) (off1 hp) q
theorem Go.if_eq (S : St p l e R s m args below meth c Z own bytes nl ret nm h0 ws T h locs cells slots) {x : Int32} {o : Int} {pt : Nat} (hd : decode bytes pc = .ok (.ifCond .eq o, 3)) (ht : (pc : Int) + o = (pt : Int)) (hf : pc + 3 = pc') (ky : x = 0 → Go p e below P T (mkF m pt Ls st)) (kn : ¬ x = 0 → Go p e below P T (mkF m pc' Ls st)) : Go p e below P T (mkF m pc Ls (.int x :: st)) := by
  subst hf
  by_cases q : x = 0
  · exact (ky q).of fun t q' => XS.ifYes S.X.here S.ex rfl (pc0 := pc) rfl (S.hd hd) rfl (Jvm.Free.XT.i0_eq_t q) (off0 ht) (off1 ht) q'
  · exact (kn q).of fun t q' => XS.ifNo S.X.here S.ex rfl (S.hd hd) rfl (Jvm.Free.XT.i0_eq_f q) q'
theorem Go.icmp_eq (S : St p l e R s m args below meth c Z own bytes nl ret nm h0 ws T h locs cells slots) {x y : Int32} {o : Int} {pt : Nat} (hd : decode bytes pc = .ok (.if_icmp .eq o, 3)) (ht : (pc : Int) + o = (pt : Int)) (hf : pc + 3 = pc') (ky : x = y → Go p e below P T (mkF m pt Ls st)) (kn : ¬ x = y → Go p e below P T (mkF m pc' Ls st)) : Go p e below P T (mkF m pc Ls (.int y :: .int x :: st)) := by
  subst hf
  by_cases q : x = y
  · exact (ky q).of fun t q' => XS.icmpYes S.X.here S.ex rfl (pc0 := pc) rfl (S.hd hd) rfl (Jvm.Free.XT.ii_eq_t q) (off0 ht) (off1 ht) q'
  · exact (kn q).of fun t q' => XS.icmpNo S.X.here S.ex rfl (S.hd hd) rfl (Jvm.Free.XT.ii_eq_f q) q'
theorem Go.lcmp_eq (S : St p l e R s m args below meth c Z own bytes nl ret nm h0 ws T h locs cells slots) {x y : Int64} {o : Int} {pt : Nat} {pc1 : Nat} (hd1 : decode bytes pc = .ok (.lcmp, 1)) (h1 : pc + 1 = pc1) (hd : decode bytes pc1 = .ok (.ifCond .eq o, 3)) (ht : (pc1 : Int) + o = (pt : Int)) (hf : pc1 + 3 = pc') (ky : x = y → Go p e below P T (mkF m pt Ls st)) (kn : ¬ x = y → Go p e below P T (mkF m pc' Ls st)) : Go p e below P T (mkF m pc Ls (.long y :: .long x :: st)) := by
  subst hf h1
  by_cases q : x = y
  · exact (ky q).of fun t q' => Jvm.Free.XT.lcmp S.X.here S.ex rfl (S.hd hd1) rfl (XS.ifYes S.X.here S.ex rfl (pc0 := pc + 1) rfl (S.hd hd) rfl (Jvm.Free.XT.ll_eq_t q) (off0 ht) (off1 ht) q')
  · exact (kn q).of fun t q' => Jvm.Free.XT.lcmp S.X.here S.ex rfl (S.hd hd1) rfl (XS.ifNo S.X.here S.ex rfl (S.hd hd) rfl (Jvm.Free.XT.ll_eq_f q) q')
theorem Go.if_ne (S : St p l e R s m args below meth c Z own bytes nl ret nm h0 ws T h locs cells slots) {x : Int32} {o : Int} {pt : Nat} (hd : decode bytes pc = .ok (.ifCond .ne o, 3)) (ht : (pc : Int) + o = (pt : Int)) (hf : pc + 3 = pc') (ky : ¬ x = 0 → Go p e below P T (mkF m pt Ls st)) (kn : x = 0 → Go p e below P T (mkF m pc' Ls st)) : Go p e below P T (mkF m pc Ls (.int x :: st)) := by
  subst hf
  by_cases q : x = 0
  · exact (kn q).of fun t q' => XS.ifNo S.X.here S.ex rfl (S.hd hd) rfl (Jvm.Free.XT.i0_ne_f q) q'
  · exact (ky q).of fun t q' => XS.ifYes S.X.here S.ex rfl (pc0 := pc) rfl (S.hd hd) rfl (Jvm.Free.XT.i0_ne_t q) (off0 ht) (off1 ht) q'
theorem Go.icmp_ne (S : St p l e R s m args below meth c Z own bytes nl ret nm h0 ws T h locs cells slots) {x y : Int32} {o : Int} {pt : Nat} (hd : decode bytes pc = .ok (.if_icmp .ne o, 3)) (ht : (pc : Int) + o = (pt : Int)) (hf : pc + 3 = pc') (ky : ¬ x = y → Go p e below P T (mkF m pt Ls st)) (kn : x = y → Go p e below P T (mkF m pc' Ls st)) : Go p e below P T (mkF m pc Ls (.int y :: .int x :: st)) := by
  subst hf
  by_cases q : x = y
  · exact (kn q).of fun t q' => XS.icmpNo S.X.here S.ex rfl (S.hd hd) rfl (Jvm.Free.XT.ii_ne_f q) q'
  · exact (ky q).of fun t q' => XS.icmpYes S.X.here S.ex rfl (pc0 := pc) rfl (S.hd hd) rfl (Jvm.Free.XT.ii_ne_t q) (off0 ht) (off1 ht) q'
theorem Go.lcmp_ne (S : St p l e R s m args below meth c Z own bytes nl ret nm h0 ws T h locs cells slots) {x y : Int64} {o : Int} {pt : Nat} {pc1 : Nat} (hd1 : decode bytes pc = .ok (.lcmp, 1)) (h1 : pc + 1 = pc1) (hd : decode bytes pc1 = .ok (.ifCond .ne o, 3)) (ht : (pc1 : Int) + o = (pt : Int)) (hf : pc1 + 3 = pc') (ky : ¬ x = y → Go p e below P T (mkF m pt Ls st)) (kn : x = y → Go p e below P T (mkF m pc' Ls st)) : Go p e below P T (mkF m pc Ls (.long y :: .long x :: st)) := by
  subst hf h1
  by_cases q : x = y
  · exact (kn q).of fun t q' => Jvm.Free.XT.lcmp S.X.here S.ex rfl (S.hd hd1) rfl (XS.ifNo S.X.here S.ex rfl (S.hd hd) rfl (Jvm.Free.XT.ll_ne_f q) q')
  · exact (ky q).of fun t q' => Jvm.Free.XT.lcmp S.X.here S.ex rfl (S.hd hd1) rfl (XS.ifYes S.X.here S.ex rfl (pc0 := pc + 1) rfl (S.hd hd) rfl (Jvm.Free.XT.ll_ne_t q) (off0 ht) (off1 ht) q')
theorem Go.if_lt (S : St p l e R s m args below meth c Z own bytes nl ret nm h0 ws T h locs cells slots) {x : Int32} {o : Int} {pt : Nat} (hd : decode bytes pc = .ok (.ifCond .lt o, 3)) (ht : (pc : Int) + o = (pt : Int)) (hf : pc + 3 = pc') (ky : x < 0 → Go p e below P T (mkF m pt Ls st)) (kn : ¬ x < 0 → Go p e below P T (mkF m pc' Ls st)) : Go p e below P T (mkF m pc Ls (.int x :: st)) := by
  subst hf
  by_cases q : x < 0
  · exact (ky q).of fun t q' => XS.ifYes S.X.here S.ex rfl (pc0 := pc) rfl (S.hd hd) rfl (Jvm.Free.XT.i0_lt_t q) (off0 ht) (off1 ht) q'
  · exact (kn q).of fun t q' => XS.ifNo S.X.here S.ex rfl (S.hd hd) rfl (Jvm.Free.XT.i0_lt_f q) q'
theorem Go.icmp_lt (S : St p l e R s m args below meth c Z own bytes nl ret nm h0 ws T h locs cells slots) {x y : Int32} {o : Int} {pt : Nat} (hd : decode bytes pc = .ok (.if_icmp .lt o, 3)) (ht : (pc : Int) + o = (pt : Int)) (hf : pc + 3 = pc') (ky : x < y → Go p e below P T (mkF m pt Ls st)) (kn : ¬ x < y → Go p e below P T (mkF m pc' Ls st)) : Go p e below P T (mkF m pc Ls (.int y :: .int x :: st)) := by
  subst hf
  by_cases q : x < y
  · exact (ky q).of fun t q' => XS.icmpYes S.X.here S.ex rfl (pc0 := pc) rfl (S.hd hd) rfl (Jvm.Free.XT.ii_lt_t q) (off0 ht) (off1 ht) q'
  · exact (kn q).of fun t q' => XS.icmpNo S.X.here S.ex rfl (S.hd hd) rfl (Jvm.Free.XT.ii_lt_f q) q'
theorem Go.lcmp_lt (S : St p l e R s m args below meth c Z own bytes nl ret nm h0 ws T h locs cells slots) {x y : Int64} {o : Int} {pt : Nat} {pc1 : Nat} (hd1 : decode bytes pc = .ok (.lcmp, 1)) (h1 : pc + 1 = pc1) (hd : decode bytes pc1 = .ok (.ifCond .lt o, 3)) (ht : (pc1 : Int) + o = (pt : Int)) (hf : pc1 + 3 = pc') (ky : x < y → Go p e below P T (mkF m pt Ls st)) (kn : ¬ x < y → Go p e below P T (mkF m pc' Ls st)) : Go p e below P T (mkF m pc Ls (.long y :: .long x :: st)) := by
  subst hf h1
  by_cases q : x < y
  · exact (ky q).of fun t q' => Jvm.Free.XT.lcmp S.X.here S.ex rfl (S.hd hd1) rfl (XS.ifYes S.X.here S.ex rfl (pc0 := pc + 1) rfl (S.hd hd) rfl (Jvm.Free.XT.ll_lt_t q) (off0 ht) (off1 ht) q')
  · exact (kn q).of fun t q' => Jvm.Free.XT.lcmp S.X.here S.ex rfl (S.hd hd1) rfl (XS.ifNo S.X.here S.ex rfl (S.hd hd) rfl (Jvm.Free.XT.ll_lt_f q) q')
theorem Go.if_ge (S : St p l e R s m args below meth c Z own bytes nl ret nm h0 ws T h locs cells slots) {x : Int32} {o : Int} {pt : Nat} (hd : decode bytes pc = .ok (.ifCond .ge o, 3)) (ht : (pc : Int) + o = (pt : Int)) (hf : pc + 3 = pc') (ky : ¬ x < 0 → Go p e below P T (mkF m pt Ls st)) (kn : x < 0 → Go p e below P T (mkF m pc' Ls st)) : Go p e below P T (mkF m pc Ls (.int x :: st)) := by
  subst hf
  by_cases q : x < 0
  · exact (kn q).of fun t q' => XS.ifNo S.X.here S.ex rfl (S.hd hd) rfl (Jvm.Free.XT.i0_ge_f q) q'
  · exact (ky q).of fun t q' => XS.ifYes S.X.here S.ex rfl (pc0 := pc) rfl (S.hd hd) rfl (Jvm.Free.XT.i0_ge_t q) (off0 ht) (off1 ht) q'
theorem Go.icmp_ge (S : St p l e R s m args below meth c Z own bytes nl ret nm h0 ws T h locs cells slots) {x y : Int32} {o : Int} {pt : Nat} (hd : decode bytes pc = .ok (.if_icmp .ge o, 3)) (ht : (pc : Int) + o = (pt : Int)) (hf : pc + 3 = pc') (ky : ¬ x < y → Go p e below P T (mkF m pt Ls st)) (kn : x < y → Go p e below P T (mkF m pc' Ls st)) : Go p e below P T (mkF m pc Ls (.int y :: .int x :: st)) := by
  subst hf
  by_cases q : x < y
  · exact (kn q).of fun t q' => XS.icmpNo S.X.here S.ex rfl (S.hd hd) rfl (Jvm.Free.XT.ii_ge_f q) q'
  · exact (ky q).of fun t q' => XS.icmpYes S.X.here S.ex rfl (pc0 := pc) rfl (S.hd hd) rfl (Jvm.Free.XT.ii_ge_t q) (off0 ht) (off1 ht) q'
theorem Go.lcmp_ge (S : St p l e R s m args below meth c Z own bytes nl ret nm h0 ws T h locs cells slots) {x y : Int64} {o : Int} {pt : Nat} {pc1 : Nat} (hd1 : decode bytes pc = .ok (.lcmp, 1)) (h1 : pc + 1 = pc1) (hd : decode bytes pc1 = .ok (.ifCond .ge o, 3)) (ht : (pc1 : Int) + o = (pt : Int)) (hf : pc1 + 3 = pc') (ky : ¬ x < y → Go p e below P T (mkF m pt Ls st)) (kn : x < y → Go p e below P T (mkF m pc' Ls st)) : Go p e below P T (mkF m pc Ls (.long y :: .long x :: st)) := by
  subst hf h1
  by_cases q : x < y
  · exact (kn q).of fun t q' => Jvm.Free.XT.lcmp S.X.here S.ex rfl (S.hd hd1) rfl (XS.ifNo S.X.here S.ex rfl (S.hd hd) rfl (Jvm.Free.XT.ll_ge_f q) q')
  · exact (ky q).of fun t q' => Jvm.Free.XT.lcmp S.X.here S.ex rfl (S.hd hd1) rfl (XS.ifYes S.X.here S.ex rfl (pc0 := pc + 1) rfl (S.hd hd) rfl (Jvm.Free.XT.ll_ge_t q) (off0 ht) (off1 ht) q')
theorem Go.if_gt (S : St p l e R s m args below meth c Z own bytes nl ret nm h0 ws T h locs cells slots) {x : Int32} {o : Int} {pt : Nat} (hd : decode bytes pc = .ok (.ifCond .gt o, 3)) (ht : (pc : Int) + o = (pt : Int)) (hf : pc + 3 = pc') (ky : 0 < x → Go p e below P T (mkF m pt Ls st)) (kn : ¬ 0 < x → Go p e below P T (mkF m pc' Ls st)) : Go p e below P T (mkF m pc Ls (.int x :: st)) := by
  subst hf
  by_cases q : 0 < x
  · exact (ky q).of fun t q' => XS.ifYes S.X.here S.ex rfl (pc0 := pc) rfl (S.hd hd) rfl (Jvm.Free.XT.i0_gt_t q) (off0 ht) (off1 ht) q'
  · exact (kn q).of fun t q' => XS.ifNo S.X.here S.ex rfl (S.hd hd) rfl (Jvm.Free.XT.i0_gt_f q) q'
theorem Go.icmp_gt (S : St p l e R s m args below meth c Z own bytes nl ret nm h0 ws T h locs cells slots) {x y : Int32} {o : Int} {pt : Nat} (hd : decode bytes pc = .ok (.if_icmp .gt o, 3)) (ht : (pc : Int) + o = (pt : Int)) (hf : pc + 3 = pc') (ky : y < x → Go p e below P T (mkF m pt Ls st)) (kn : ¬ y < x → Go p e below P T (mkF m pc' Ls st)) : Go p e below P T (mkF m pc Ls (.int y :: .int x :: st)) := by
  subst hf
  by_cases q : y < x
  · exact (ky q).of fun t q' => XS.icmpYes S.X.here S.ex rfl (pc0 := pc) rfl (S.hd hd) rfl (Jvm.Free.XT.ii_gt_t q) (off0 ht) (off1 ht) q'
  · exact (kn q).of fun t q' => XS.icmpNo S.X.here S.ex rfl (S.hd hd) rfl (Jvm.Free.XT.ii_gt_f q) q'
theorem Go.lcmp_gt (S : St p l e R s m args below meth c Z own bytes nl ret nm h0 ws T h locs cells slots) {x y : Int64} {o : Int} {pt : Nat} {pc1 : Nat} (hd1 : decode bytes pc = .ok (.lcmp, 1)) (h1 : pc + 1 = pc1) (hd : decode bytes pc1 = .ok (.ifCond .gt o, 3)) (ht : (pc1 : Int) + o = (pt : Int)) (hf : pc1 + 3 = pc') (ky : y < x → Go p e below P T (mkF m pt Ls st)) (kn : ¬ y < x → Go p e below P T (mkF m pc' Ls st)) : Go p e below P T (mkF m pc Ls (.long y :: .long x :: st)) := by
  subst hf h1
  by_cases q : y < x
  · exact (ky q).of fun t q' => Jvm.Free.XT.lcmp S.X.here S.ex rfl (S.hd hd1) rfl (XS.ifYes S.X.here S.ex rfl (pc0 := pc + 1) rfl (S.hd hd) rfl (Jvm.Free.XT.ll_gt_t q) (off0 ht) (off1 ht) q')
  · exact (kn q).of fun t q' => Jvm.Free.XT.lcmp S.X.here S.ex rfl (S.hd hd1) rfl (XS.ifNo S.X.here S.ex rfl (S.hd hd) rfl (Jvm.Free.XT.ll_gt_f q) q')
theorem Go.if_le (S : St p l e R s m args below meth c Z own bytes nl ret nm h0 ws T h locs cells slots) {x : Int32} {o : Int} {pt : Nat} (hd : decode bytes pc = .ok (.ifCond .le o, 3)) (ht : (pc : Int) + o = (pt : Int)) (hf : pc + 3 = pc') (ky : ¬ 0 < x → Go p e below P T (mkF m pt Ls st)) (kn : 0 < x → Go p e below P T (mkF m pc' Ls st)) : Go p e below P T (mkF m pc Ls (.int x :: st)) := by
  subst hf
  by_cases q : 0 < x
  · exact (kn q).of fun t q' => XS.ifNo S.X.here S.ex rfl (S.hd hd) rfl (Jvm.Free.XT.i0_le_f q) q'
  · exact (ky q).of fun t q' => XS.ifYes S.X.here S.ex rfl (pc0 := pc) rfl (S.hd hd) rfl (Jvm.Free.XT.i0_le_t q) (off0 ht) (off1 ht) q'
theorem Go.icmp_le (S : St p l e R s m args below meth c Z own bytes nl ret nm h0 ws T h locs cells slots) {x y : Int32} {o : Int} {pt : Nat} (hd : decode bytes pc = .ok (.if_icmp .le o, 3)) (ht : (pc : Int) + o = (pt : Int)) (hf : pc + 3 = pc') (ky : ¬ y < x → Go p e below P T (mkF m pt Ls st)) (kn : y < x → Go p e below P T (mkF m pc' Ls st)) : Go p e below P T (mkF m pc Ls (.int y :: .int x :: st)) := by
  subst hf
  by_cases q : y < x
  · exact (kn q).of fun t q' => XS.icmpNo S.X.here S.ex rfl (S.hd hd) rfl (Jvm.Free.XT.ii_le_f q) q'
  · exact (ky q).of fun t q' => XS.icmpYes S.X.here S.ex rfl (pc0 := pc) rfl (S.hd hd) rfl (Jvm.Free.XT.ii_le_t q) (off0 ht) (off1 ht) q'
theorem Go.lcmp_le (S : St p l e R s m args below meth c Z own bytes nl ret nm h0 ws T h locs cells slots) {x y : Int64} {o : Int} {pt : Nat} {pc1 : Nat} (hd1 : decode bytes pc = .ok (.lcmp, 1)) (h1 : pc + 1 = pc1) (hd : decode bytes pc1 = .ok (.ifCond .le o, 3)) (ht : (pc1 : Int) + o = (pt : Int)) (hf : pc1 + 3 = pc') (ky : ¬ y < x → Go p e below P T (mkF m pt Ls st)) (kn : y < x → Go p e below P T (mkF m pc' Ls st)) : Go p e below P T (mkF m pc Ls (.long y :: .long x :: st)) := by
  subst hf h1
  by_cases q : y < x
  · exact (kn q).of fun t q' => Jvm.Free.XT.lcmp S.X.here S.ex rfl (S.hd hd1) rfl (XS.ifNo S.X.here S.ex rfl (S.hd hd) rfl (Jvm.Free.XT.ll_le_f q) q')
  · exact (ky q).of fun t q' => Jvm.Free.XT.lcmp S.X.here S.ex rfl (S.hd hd1) rfl (XS.ifYes S.X.here S.ex rfl (pc0 := pc + 1) rfl (S.hd hd) rfl (Jvm.Free.XT.ll_le_t q) (off0 ht) (off1 ht) q')
theorem Go.acmp_eq (S : St p l e R s m args below meth c Z own bytes nl ret nm h0 ws T h locs cells slots) {x y : Value} {o : Int} {pt : Nat} (hd : decode bytes pc = .ok (.if_acmp .eq o, 3)) (ht : (pc : Int) + o = (pt : Int)) (hf : pc + 3 = pc') (rx : x.isRef = true) (ry : y.isRef = true) (ky : x = y → Go p e below P T (mkF m pt Ls st)) (kn : ¬ x = y → Go p e below P T (mkF m pc' Ls st)) : Go p e below P T (mkF m pc Ls (y :: x :: st)) := by
  subst hf
  by_cases q : x = y
  · exact (ky q).of fun t q' => Jvm.RoadKit.acmp (g := mkF m pc Ls (y :: x :: st)) S.X S.ex rfl rx ry (pc0 := pc) (same := true) rfl (S.hd hd) rfl (decide_eq_true q) (off0 ht) ((off1 ht).symm.trans (if_pos rfl).symm) q'
  · exact (kn q).of fun t q' => Jvm.RoadKit.acmp (g := mkF m pc Ls (y :: x :: st)) S.X S.ex rfl rx ry (pc0 := pc) (same := false) rfl (S.hd hd) rfl (decide_eq_false q) (off0 ht) ((if_neg (fun z => nomatch z)).symm) q'
theorem Go.acmp_ne (S : St p l e R s m args below meth c Z own bytes nl ret nm h0 ws T h locs cells slots) {x y : Value} {o : Int} {pt : Nat} (hd : decode bytes pc = .ok (.if_acmp .ne o, 3)) (ht : (pc : Int) + o = (pt : Int)) (hf : pc + 3 = pc') (rx : x.isRef = true) (ry : y.isRef = true) (ky : ¬ x = y → Go p e below P T (mkF m pt Ls st)) (kn : x = y → Go p e below P T (mkF m pc' Ls st)) : Go p e below P T (mkF m pc Ls (y :: x :: st)) := by
  subst hf
  by_cases q : x = y
  · exact (kn q).of fun t q' => Jvm.RoadKit.acmp (g := mkF m pc Ls (y :: x :: st)) S.X S.ex rfl rx ry (pc0 := pc) (same := true) rfl (S.hd hd) rfl (decide_eq_true q) (off0 ht) ((if_neg (fun z => nomatch z)).symm) q'
  · exact (ky q).of fun t q' => Jvm.RoadKit.acmp (g := mkF m pc Ls (y :: x :: st)) S.X S.ex rfl rx ry (pc0 := pc) (same := false) rfl (S.hd hd) rfl (decide_eq_false q) (off0 ht) ((off1 ht).symm.trans (if_pos rfl).symm) q'
theorem Go.ifnullY (S : St p l e R s m args below meth c Z own bytes nl ret nm h0 ws T h locs cells slots) {o : Int} {pt : Nat} (hd : decode bytes pc = .ok (.ifnull o, 3)) (ht : (pc : Int) + o = (pt : Int)) (k : Go p e below P T (mkF m pt Ls st)) : Go p e below P T (mkF m pc Ls (.null :: st)) :=
  k.of fun t q => XS.ifnullYes S.X.here S.ex rfl (pc0 := pc) rfl (S.hd hd) rfl (off0 ht) (off1 ht) q
theorem Go.ifnullN (S : St p l e R s m args below meth c Z own bytes nl ret nm h0 ws T h locs cells slots) {o : Int} {b : Addr} (hd : decode bytes pc = .ok (.ifnull o, 3)) (hf : pc + 3 = pc') (k : Go p e below P T (mkF m pc' Ls st)) : Go p e below P T (mkF m pc Ls (.ref b :: st)) := by
  subst hf
  exact k.of fun t q => XS.ifnullNo S.X.here S.ex rfl (S.hd hd) rfl q
theorem Go.ifnonnullY (S : St p l e R s m args below meth c Z own bytes nl ret nm h0 ws T h locs cells slots) {o : Int} {pt : Nat} {b : Addr} (hd : decode bytes pc = .ok (.ifnonnull o, 3)) (ht : (pc : Int) + o = (pt : Int)) (k : Go p e below P T (mkF m pt Ls st)) : Go p e below P T (mkF m pc Ls (.ref b :: st)) :=
  k.of fun t q => XS.ifnonnullYes S.X.here S.ex rfl (pc0 := pc) rfl (S.hd hd) rfl (off0 ht) (off1 ht) q
theorem Go.ifnonnullN (S : St p l e R s m args below meth c Z own bytes nl ret nm h0 ws T h locs cells slots) {o : Int} (hd : decode bytes pc = .ok (.ifnonnull o, 3)) (hf : pc + 3 = pc') (k : Go p e below P T (mkF m pc' Ls st)) : Go p e below P T (mkF m pc Ls (.null :: st)) := by
  subst hf
  exact k.of fun t q => XS.ifnonnullNo S.X.here S.ex rfl (S.hd hd) rfl q
theorem Go.ldc (S : St p l e R s m args below meth c Z own bytes nl ret nm h0 ws T h locs cells slots) {index : Nat} {v : Int32} (w : (Jvm.Cond.constant own index v).before a0 Z = true) (hd : decode bytes pc = .ok (.ldc index, 2)) (hp : pc + 2 = pc') (k : Go p e below P T (mkF m pc' Ls (.int v :: st))) : Go p e below P T (mkF m pc Ls st) := by
  subst hp
  exact k.of fun t q => S.X.ldcInt S.ex S.hown (mvT S.hZ w) (g := mkF m pc Ls st) rfl (S.hd hd) _ q
theorem Go.ldc2 (S : St p l e R s m args below meth c Z own bytes nl ret nm h0 ws T h locs cells slots) {index : Nat} {v : Int64} (w : (Jvm.Cond.constantLong own index v).before a0 Z = true) (hd : decode bytes pc = .ok (.ldc2_w index, 3)) (hp : pc + 3 = pc') (k : Go p e below P T (mkF m pc' Ls (.long v :: st))) : Go p e below P T (mkF m pc Ls st) := by
  subst hp
  exact k.of fun t q => S.X.ldc2Long S.ex S.hown (mvT S.hZ w) (g := mkF m pc Ls st) rfl (S.hd hd) _ q
theorem Go.leaves (S : St p l e R s m args below meth c Z own bytes nl ret nm h0 ws T h locs cells slots) {kc ks : Nat} {Q : Option Value → Heap → Prop} {g : JFrame} {v : Option Value} (hv : ret = none → v = none) (hc : cells ≤ kc) (hs : slots ≤ ks)
    (step : ∀ fs : List Frame, (∀ (f : JFrame) (acts : List Action), f.method = m → f.locked = none → f.entered = [] → (doReturn e (T.setTop f) acts v).1 = T.setFrames fs) → Steps p.tables e below (T.setTop g) (T.setFrames fs)) (q : Q v h) : Go p e below (PostOf Z s h0 ws kc ks Q) T g := by
  obtain ⟨fs, hr, hrun, hended, hW, hsame⟩ := S.X.leave (v := v) (fun q => hv (S.hret ▸ q)) S.locks
  refine ⟨_, _, step fs hr, hrun, hended, v, locs, rfl, ⟨S.fr, ?_, ?_, ?_⟩, ⟨_, rfl⟩, hW, hsame.mono hc hs⟩
  · show Keep h0 T.heap ws
    rw [S.eT]; exact S.keep
  · show Ext Z.heap T.heap
    rw [S.eT]; exact S.ext
  · show Q v T.heap
    rw [S.eT]; exact q
theorem St.leaves0 (S : St p l e R s m args below meth c Z own bytes nl ret nm h0 ws T h locs cells slots) {kc ks : Nat} {Q : Option Value → Heap → Prop} {g : JFrame} {w : Value} {t : FieldType} (hret : ret = some t) (hc : cells ≤ kc) (hs : slots ≤ ks) (q : Q (some w) h)
    (step : ∀ fs : List Frame, (∀ (f : JFrame) (acts : List Action), f.method = m → f.locked = none → f.entered = [] → (doReturn e (T.setTop f) acts (some w)).1 = T.setFrames fs) → Steps p.tables e below (T.setTop g) (T.setFrames fs)) : Go p e below (PostOf Z s h0 ws kc ks Q) T g :=
  Go.leaves S (fun q => by rw [hret] at q; cases q) hc hs step q
theorem narrow_ref {t : FieldType} {w : Value} (ht : t.isReference = true) (hw : w.isRef = true) : narrow t w = w := by
  rcases ref_cases hw with rfl | ⟨a, rfl⟩ <;> cases t <;> rfl
theorem Go.ireturn (S : St p l e R s m args below meth c Z own bytes nl ret nm h0 ws T h locs cells slots) {kc ks : Nat} {Q : Option Value → Heap → Prop} {z : Int32} (hret : ret = some .int) (hd : decode bytes pc = .ok (.ireturn, 1)) (hc : cells ≤ kc) (hs : slots ≤ ks) (q : Q (some (.int z)) h) : Go p e below (PostOf Z s h0 ws kc ks Q) T (mkF m pc Ls (.int z :: st)) :=
  S.leaves0 hret hc hs q fun fs hr => retOut S.X S.ex (t := .int) (i := .ireturn) (S.hret.trans hret) rfl (Or.inl ⟨rfl, Or.inl rfl, z, rfl⟩) (S.hd hd) hr
theorem Go.lreturn (S : St p l e R s m args below meth c Z own bytes nl ret nm h0 ws T h locs cells slots) {kc ks : Nat} {Q : Option Value → Heap → Prop} {z : Int64} (hret : ret = some .long) (hd : decode bytes pc = .ok (.lreturn, 1)) (hc : cells ≤ kc) (hs : slots ≤ ks) (q : Q (some (.long z)) h) : Go p e below (PostOf Z s h0 ws kc ks Q) T (mkF m pc Ls (.long z :: st)) :=
  S.leaves0 hret hc hs q fun fs hr => retOut S.X S.ex (t := .long) (i := .lreturn) (S.hret.trans hret) rfl (Or.inr (Or.inl ⟨rfl, rfl, z, rfl⟩)) (S.hd hd) hr
theorem Go.areturn (S : St p l e R s m args below meth c Z own bytes nl ret nm h0 ws T h locs cells slots) {kc ks : Nat} {Q : Option Value → Heap → Prop} {w : Value} {t : FieldType} (hret : ret = some t) (ht : t.isReference = true) (hw : w.isRef = true) (hd : decode bytes pc = .ok (.areturn, 1)) (hc : cells ≤ kc) (hs : slots ≤ ks) (q : Q (some w) h) : Go p e below (PostOf Z s h0 ws kc ks Q) T (mkF m pc Ls (w :: st)) :=
  S.leaves0 hret hc hs q fun fs hr => retOut S.X S.ex (i := .areturn) (S.hret.trans hret) (narrow_ref ht hw) (Or.inr (Or.inr (Or.inr (Or.inr ⟨rfl, ht, hw⟩)))) (S.hd hd) hr
theorem Go.zreturn (S : St p l e R s m args below meth c Z own bytes nl ret nm h0 ws T h locs cells slots) {kc ks : Nat} {Q : Option Value → Heap → Prop} {z z' : Int32} {t : FieldType} (hret : ret = some t) (ht : t = .boolean ∨ t = .byte ∨ t = .char ∨ t = .short) (hd : decode bytes pc = .ok (.ireturn, 1)) (hz : nar t z = z') (hc : cells ≤ kc) (hs : slots ≤ ks) (q : Q (some (.int z')) h) : Go p e below (PostOf Z s h0 ws kc ks Q) T (mkF m pc Ls (.int z :: st)) := by
  subst hz
  exact S.leaves0 hret hc hs q fun fs hr => retN S.X S.ex (S.hret.trans hret) ht (S.hd hd) hr
theorem Go.vreturn (S : St p l e R s m args below meth c Z own bytes nl ret nm h0 ws T h locs cells slots) {kc ks : Nat} {Q : Option Value → Heap → Prop} (hret : ret = none) (hd : decode bytes pc = .ok (.return_, 1)) (hc : cells ≤ kc) (hs : slots ≤ ks) (q : Q none h) : Go p e below (PostOf Z s h0 ws kc ks Q) T (mkF m pc Ls []) :=
  Go.leaves S (fun _ => rfl) hc hs (fun fs hr => S.X.returnOut S.ex (S.hret.trans hret) (S.hd hd) hr) q
theorem Go.getfield (S : St p l e R s m args below meth c Z own bytes nl ret nm h0 ws T h locs cells slots) {R0 O n d host : String} {index : Nat} {a : Addr} {v : Value} (w : ((Jvm.Cond.fieldLink own index R0 n d).before a0 Z = true ∨ (Jvm.Cond.fieldLinkNest own index R0 n d host).before a0 Z = true)) (via : Via Z R0 O n d) (F : Fld Z h a O n d v) (hd : decode bytes pc = .ok (.getfield index, 3)) (hp : pc + 3 = pc')
    (k : ∀ T', St p l e R s m args below meth c Z own bytes nl ret nm h0 ws T' h locs cells slots → Go p e below P T' (mkF m pc' Ls (v :: st))) : Go p e below P T (mkF m pc Ls (.ref a :: st)) := by
  subst hp
  obtain ⟨T', X', e', f⟩ := getF S.X S.ex S.hZ S.hown w via S.eT F (g := mkF m pc Ls (.ref a :: st)) rfl rfl (S.hd hd)
  exact (k T' (S.next X' e' S.fr S.keep S.ext)).of f
theorem Go.getstatic (S : St p l e R s m args below meth c Z own bytes nl ret nm h0 ws T h locs cells slots) {R0 O n d host : String} {index : Nat} {v : Value} (w : ((Jvm.Cond.fieldLink own index R0 n d).before a0 Z = true ∨ (Jvm.Cond.fieldLinkNest own index R0 n d host).before a0 Z = true)) (via : Via Z R0 O n d) (F : Sta Z Z.heap O n d v) (hd : decode bytes pc = .ok (.getstatic index, 3)) (hp : pc + 3 = pc')
    (k : ∀ T', St p l e R s m args below meth c Z own bytes nl ret nm h0 ws T' h locs cells slots → Go p e below P T' (mkF m pc' Ls (v :: st))) : Go p e below P T (mkF m pc Ls st) := by
  subst hp
  obtain ⟨T', X', e', f⟩ := getS2 S.X S.ex S.hZ S.hown w via S.eT (F.ext S.ext) (g := mkF m pc Ls st) rfl (S.hd hd)
  exact (k T' (S.next X' e' S.fr S.keep S.ext)).of f
theorem St.wrote (S : St p l e R s m args below meth c Z own bytes nl ret nm h0 ws T h locs cells slots) {T' : State} {h' : Heap} {a : Addr} {sl : Nat} {v : Value} (X : Stand p l e R s m args below meth c T' (locs ++ [⟨a, sl⟩]) cells slots) (e1 : T'.heap = h') (W : Wr h h' a sl v) (hz : Z.heap.size ≤ a) (hws : a ∈ ws ∨ h0.size ≤ a) : St p l e R s m args below meth c Z own bytes nl ret nm h0 ws T' h' (locs ++ [⟨a, sl⟩]) cells slots :=
  S.next X e1 (Fr.snoc X S.fr hz) (S.keep.wr W hws) (Old.wr (n0 := Z.heap.size) ⟨rfl, S.ext⟩ W hz).2
theorem Go.putfield (S : St p l e R s m args below meth c Z own bytes nl ret nm h0 ws T h locs cells slots) {R0 O n d host C : String} {index kk : Nat} {ty : FieldType} {a : Addr} {v old : Value} (w : ((Jvm.Cond.fieldLink own index R0 n d).before a0 Z = true ∨ (Jvm.Cond.fieldLinkNest own index R0 n d host).before a0 Z = true)) (via : Via Z R0 O n d) (F : Fld Z h a O n d old) (E : Exa Z h a C)
    (L : (Jvm.Cond.lays C O n d).before a0 Z = true ∨ ((Jvm.Cond.laysFinal C O n d).before a0 Z = true ∧ own = O ∧ nm = "<init>")) (wi : (Jvm.Cond.instantiable C kk).before a0 Z = true) (hty : parseFieldDescriptor d = some ty) (hn : narrow ty v = v) (hf : fits ty v = true)
    (hz : Z.heap.size ≤ a) (hws : a ∈ ws ∨ h0.size ≤ a) (hd : decode bytes pc = .ok (.putfield index, 3)) (hp : pc + 3 = pc')
    (k : ∀ T' h' locs', St p l e R s m args below meth c Z own bytes nl ret nm h0 ws T' h' locs' cells slots → Wr h h' a (Jvm.RoadKit.slotOf Z O n d) v → Go p e below P T' (mkF m pc' Ls st)) : Go p e below P T (mkF m pc Ls (v :: .ref a :: st)) := by
  subst hp
  obtain ⟨T', h', X', e', W, f⟩ := putF S.X S.ex S.hZ S.hown w via S.eT F E (L.imp id fun q => ⟨q.1, q.2.1, S.hnm.trans q.2.2⟩) wi hty hn hf (g := mkF m pc Ls (v :: .ref a :: st)) rfl rfl (S.hd hd)
  exact (k T' h' _ (S.wrote X' e' W hz hws) W).of f
theorem Go.putfieldN (S : St p l e R s m args below meth c Z own bytes nl ret nm h0 ws T h locs cells slots) {R0 O n d C : String} {index kk : Nat} {ty : FieldType} {a : Addr} {v v' old : Value} (w : (Jvm.Cond.fieldLink own index R0 n d).before a0 Z = true) (via : Via Z R0 O n d) (F : Fld Z h a O n d old) (E : Exa Z h a C)
    (L : (Jvm.Cond.lays C O n d).before a0 Z = true ∨ ((Jvm.Cond.laysFinal C O n d).before a0 Z = true ∧ own = O ∧ nm = "<init>")) (wi : (Jvm.Cond.instantiable C kk).before a0 Z = true) (hty : parseFieldDescriptor d = some ty) (hn : narrow ty v = v') (hf : fits ty v' = true)
    (hz : Z.heap.size ≤ a) (hws : a ∈ ws ∨ h0.size ≤ a) (hd : decode bytes pc = .ok (.putfield index, 3)) (hp : pc + 3 = pc')
    (k : ∀ T' h' locs', St p l e R s m args below meth c Z own bytes nl ret nm h0 ws T' h' locs' cells slots → Wr h h' a (Jvm.RoadKit.slotOf Z O n d) v' → Go p e below P T' (mkF m pc' Ls st)) : Go p e below P T (mkF m pc Ls (v :: .ref a :: st)) := by
  subst hp
  obtain ⟨T', h', X', e', W, f⟩ := putFN S.X S.ex S.hZ S.hown w via S.eT F E (L.imp id fun q => ⟨q.1, q.2.1, S.hnm.trans q.2.2⟩) wi hty hn hf (g := mkF m pc Ls (v :: .ref a :: st)) rfl rfl (S.hd hd)
  exact (k T' h' _ (S.wrote X' e' W hz hws) W).of f
theorem St.made (S : St p l e R s m args below meth c Z own bytes nl ret nm h0 ws T h locs cells slots) {T' : State} {h' : Heap} {cells' slots' : Nat} (X : Stand p l e R s m args below meth c T' locs cells' slots') (e1 : T'.heap = h') (E : Ext h h') : St p l e R s m args below meth c Z own bytes nl ret nm h0 ws T' h' locs cells' slots' :=
  S.next X e1 S.fr (S.keep.ext E) (Old.ext (n0 := Z.heap.size) ⟨rfl, S.ext⟩ E).2
theorem Go.new (S : St p l e R s m args below meth c Z own bytes nl ret nm h0 ws T h locs cells slots) {C : String} {index n : Nat} (w : (Jvm.Cond.classLink own index C).before a0 Z = true) (wi : (Jvm.Cond.instantiable C n).before a0 Z = true) (wz : (Jvm.Cond.initialized C).before a0 Z = true) (hd : decode bytes pc = .ok (.new index, 3)) (hc : cells + 1 ≤ R.cells) (hl : slots + n ≤ R.slots) (hp : pc + 3 = pc')
    (k : ∀ T' h' a, St p l e R s m args below meth c Z own bytes nl ret nm h0 ws T' h' locs (cells + 1) (slots + n) → Ext h h' → h.size = a → Z.heap.size ≤ a → h0.size ≤ a → Exa Z h' a C → (∀ {O nm d : String} {ty : FieldType}, Laid Z a0 C O nm d → parseFieldDescriptor d = some ty → Fld Z h' a O nm d (defaultValue ty)) → Go p e below P T' (mkF m pc' Ls (.ref a :: st))) : Go p e below P T (mkF m pc Ls st) := by
  subst hp
  obtain ⟨T', h', X', e', E, A, D, -, f⟩ := newO S.X S.ex S.hZ S.hown w wi wz S.eT (g := mkF m pc Ls st) rfl (S.hd hd) hc hl
  exact (k T' h' h.size (S.made X' e' E) E rfl S.ext.1 S.keep.1 A D).of f
theorem Go.newarray (S : St p l e R s m args below meth c Z own bytes nl ret nm h0 ws T h locs cells slots) {aty : ArrayType} {n : Int32} {cap : Nat} {ty : FieldType} {dv : Value} (hty : newarray.typeOf aty = ty) (hdv : defaultValue ty = dv) (w : (Jvm.Cond.arrayClass ty).before a0 Z = true) (hd : decode bytes pc = .ok (.newarray aty, 2)) (hn : ¬ n < 0) (hcap : n.toNatClampNeg ≤ cap) (hb : cap * 8 ≤ 536870912) (hc : cells + 1 ≤ R.cells) (hl : slots + cap ≤ R.slots) (hp : pc + 2 = pc')
    (k : ∀ T' h' a cA, St p l e R s m args below meth c Z own bytes nl ret nm h0 ws T' h' locs (cells + 1) (slots + cap) → Ext h h' → h.size = a → Z.heap.size ≤ a → h0.size ≤ a → Arv Z h' a cA ty n (List.replicate cap dv) dv → Go p e below P T' (mkF m pc' Ls (.ref a :: st))) : Go p e below P T (mkF m pc Ls (.int n :: st)) := by
  subst hp hty hdv
  obtain ⟨T', h', cA, X', e', E, A, f⟩ := newP S.X S.ex S.hZ w S.eT (g := mkF m pc Ls (.int n :: st)) rfl (S.hd hd) rfl hn hcap hb hc hl
  exact (k T' h' h.size cA (S.made X' e' E) E rfl S.ext.1 S.keep.1 ((Arv.new A hn).pad (pad_rep [] _ cap))).of f
theorem Go.anewarray (S : St p l e R s m args below meth c Z own bytes nl ret nm h0 ws T h locs cells slots) {C : String} {index : Nat} {n : Int32} {cap : Nat} (w1 : (Jvm.Cond.classLink own index C).before a0 Z = true) (w2 : (Jvm.Cond.arrayOver (.object C)).before a0 Z = true) (hd : decode bytes pc = .ok (.anewarray index, 3)) (hn : ¬ n < 0) (hcap : n.toNatClampNeg ≤ cap) (hb : cap * 8 ≤ 536870912) (hc : cells + 1 ≤ R.cells) (hl : slots + cap ≤ R.slots) (hp : pc + 3 = pc')
    (k : ∀ T' h' a cA, St p l e R s m args below meth c Z own bytes nl ret nm h0 ws T' h' locs (cells + 1) (slots + cap) → Ext h h' → h.size = a → Z.heap.size ≤ a → h0.size ≤ a → Arv Z h' a cA (.object C) n (List.replicate cap .null) .null → Ovr Z cA C → Go p e below P T' (mkF m pc' Ls (.ref a :: st))) : Go p e below P T (mkF m pc Ls (.int n :: st)) := by
  subst hp
  obtain ⟨T', h', cA, X', e', E, A, O, f⟩ := newR S.X S.ex S.hZ S.hown w1 w2 S.eT (g := mkF m pc Ls (.int n :: st)) rfl (S.hd hd) rfl hn hcap hb hc hl
  exact (k T' h' h.size cA (S.made X' e' E) E rfl S.ext.1 S.keep.1 ((Arv.new A hn).pad (pad_rep [] _ cap)) O).of f
theorem Go.iastore (S : St p l e R s m args below meth c Z own bytes nl ret nm h0 ws T h locs cells slots) {a : Addr} {kA : ClassId} {n j : Int32} {x : Int32} {vs : List Value} {dv : Value} {i : Nat} (V : Arv Z h a kA .int n vs dv) (hj : ¬ j < 0 ∧ j < n) (hi : j.toNatClampNeg = i) (hl : i < vs.length) (hz : Z.heap.size ≤ a) (hws : a ∈ ws ∨ h0.size ≤ a) (hd : decode bytes pc = .ok (.iastore, 1)) (hp : pc + 1 = pc')
    (k : ∀ T' h' locs', St p l e R s m args below meth c Z own bytes nl ret nm h0 ws T' h' locs' cells slots → Wr h h' a j.toNatClampNeg (.int x) → Arv Z h' a kA .int n (vs.set i (.int x)) dv → Go p e below P T' (mkF m pc' Ls st)) : Go p e below P T (mkF m pc Ls (.int x :: .int j :: .ref a :: st)) := by
  subst hp
  obtain ⟨cl, A, q1, q2, q3, H, F⟩ := V
  obtain ⟨T', h', X', e', W, f⟩ := stI S.X S.ex S.hZ S.eT A (j := j) (x := x) (inb_of q2 hj) (g := mkF m pc Ls (.int x :: .int j :: .ref a :: st)) rfl rfl (S.hd hd)
  exact (k T' h' _ (S.wrote X' e' W hz hws) W (Arv.set A q1 q2 q3 H F rfl W i hi hl)).of f
theorem Go.castore (S : St p l e R s m args below meth c Z own bytes nl ret nm h0 ws T h locs cells slots) {a : Addr} {kA : ClassId} {n j : Int32} {x : Int32} {vs : List Value} {dv : Value} {i : Nat} (V : Arv Z h a kA .char n vs dv) (hj : ¬ j < 0 ∧ j < n) (hi : j.toNatClampNeg = i) (hl : i < vs.length) (hz : Z.heap.size ≤ a) (hws : a ∈ ws ∨ h0.size ≤ a) (hd : decode bytes pc = .ok (.castore, 1)) (hp : pc + 1 = pc')
    (k : ∀ T' h' locs', St p l e R s m args below meth c Z own bytes nl ret nm h0 ws T' h' locs' cells slots → Wr h h' a j.toNatClampNeg (.int (nar .char x)) → Arv Z h' a kA .char n (vs.set i (.int (nar .char x))) dv → Go p e below P T' (mkF m pc' Ls st)) : Go p e below P T (mkF m pc Ls (.int x :: .int j :: .ref a :: st)) := by
  subst hp
  obtain ⟨cl, A, q1, q2, q3, H, F⟩ := V
  obtain ⟨T', h', X', e', W, f⟩ := stC S.X S.ex S.hZ S.eT A (j := j) (x := x) (inb_of q2 hj) (g := mkF m pc Ls (.int x :: .int j :: .ref a :: st)) rfl rfl (S.hd hd)
  exact (k T' h' _ (S.wrote X' e' W hz hws) W (Arv.set A q1 q2 q3 H F (fits_nar_char _) W i hi hl)).of f
theorem Go.bastore (S : St p l e R s m args below meth c Z own bytes nl ret nm h0 ws T h locs cells slots) {a : Addr} {kA : ClassId} {n j : Int32} {x : Int32} {vs : List Value} {dv : Value} {i : Nat} (V : Arv Z h a kA .byte n vs dv) (hj : ¬ j < 0 ∧ j < n) (hi : j.toNatClampNeg = i) (hl : i < vs.length) (hz : Z.heap.size ≤ a) (hws : a ∈ ws ∨ h0.size ≤ a) (hd : decode bytes pc = .ok (.bastore, 1)) (hp : pc + 1 = pc')
    (k : ∀ T' h' locs', St p l e R s m args below meth c Z own bytes nl ret nm h0 ws T' h' locs' cells slots → Wr h h' a j.toNatClampNeg (.int (nar .byte x)) → Arv Z h' a kA .byte n (vs.set i (.int (nar .byte x))) dv → Go p e below P T' (mkF m pc' Ls st)) : Go p e below P T (mkF m pc Ls (.int x :: .int j :: .ref a :: st)) := by
  subst hp
  obtain ⟨cl, A, q1, q2, q3, H, F⟩ := V
  obtain ⟨T', h', X', e', W, f⟩ := stB S.X S.ex S.hZ S.eT A (j := j) (x := x) (inb_of q2 hj) (g := mkF m pc Ls (.int x :: .int j :: .ref a :: st)) rfl rfl (S.hd hd)
  exact (k T' h' _ (S.wrote X' e' W hz hws) W (Arv.set A q1 q2 q3 H F (fits_nar_byte _) W i hi hl)).of f
theorem Go.lastore (S : St p l e R s m args below meth c Z own bytes nl ret nm h0 ws T h locs cells slots) {a : Addr} {kA : ClassId} {n j : Int32} {x : Int64} {vs : List Value} {dv : Value} {i : Nat} (V : Arv Z h a kA .long n vs dv) (hj : ¬ j < 0 ∧ j < n) (hi : j.toNatClampNeg = i) (hl : i < vs.length) (hz : Z.heap.size ≤ a) (hws : a ∈ ws ∨ h0.size ≤ a) (hd : decode bytes pc = .ok (.lastore, 1)) (hp : pc + 1 = pc')
    (k : ∀ T' h' locs', St p l e R s m args below meth c Z own bytes nl ret nm h0 ws T' h' locs' cells slots → Wr h h' a j.toNatClampNeg (.long x) → Arv Z h' a kA .long n (vs.set i (.long x)) dv → Go p e below P T' (mkF m pc' Ls st)) : Go p e below P T (mkF m pc Ls (.long x :: .int j :: .ref a :: st)) := by
  subst hp
  obtain ⟨cl, A, q1, q2, q3, H, F⟩ := V
  obtain ⟨T', h', X', e', W, f⟩ := stJ S.X S.ex S.hZ S.eT A (j := j) (x := x) (inb_of q2 hj) (g := mkF m pc Ls (.long x :: .int j :: .ref a :: st)) rfl rfl (S.hd hd)
  exact (k T' h' _ (S.wrote X' e' W hz hws) W (Arv.set A q1 q2 q3 H F rfl W i hi hl)).of f
theorem Go.aastore (S : St p l e R s m args below meth c Z own bytes nl ret nm h0 ws T h locs cells slots) {a : Addr} {kA : ClassId} {ty : FieldType} {n j : Int32} {v : Value} {vs : List Value} {dv : Value} {i : Nat} (V : Arv Z h a kA ty n vs dv) (hty : ty.isReference = true) (hj : ¬ j < 0 ∧ j < n) (hi : j.toNatClampNeg = i) (hl : i < vs.length) (hfit : fits ty v = true) (F : Sto Z h a v) (hz : Z.heap.size ≤ a) (hws : a ∈ ws ∨ h0.size ≤ a) (hd : decode bytes pc = .ok (.aastore, 1)) (hp : pc + 1 = pc')
    (k : ∀ T' h' locs', St p l e R s m args below meth c Z own bytes nl ret nm h0 ws T' h' locs' cells slots → Wr h h' a j.toNatClampNeg v → Arv Z h' a kA ty n (vs.set i v) dv → Go p e below P T' (mkF m pc' Ls st)) : Go p e below P T (mkF m pc Ls (v :: .int j :: .ref a :: st)) := by
  subst hp
  obtain ⟨cl, A, q1, q2, q3, H, F'⟩ := V
  obtain ⟨T', h', X', e', W, f⟩ := stR S.X S.ex S.hZ S.eT A (j := j) (v := v) (inb_of q2 hj) hty F (g := mkF m pc Ls (v :: .int j :: .ref a :: st)) rfl rfl (S.hd hd)
  exact (k T' h' _ (S.wrote X' e' W hz hws) W (Arv.set A q1 q2 q3 H F' hfit W i hi hl)).of f
theorem Go.iaload (S : St p l e R s m args below meth c Z own bytes nl ret nm h0 ws T h locs cells slots) {a : Addr} {kA : ClassId} {n j : Int32} {v : Value} {vs : List Value} {dv : Value} (V : Arv Z h a kA .int n vs dv) (hj : ¬ j < 0 ∧ j < n) (hv : vs.getD j.toNatClampNeg dv = v) (hd : decode bytes pc = .ok (.iaload, 1)) (hp : pc + 1 = pc') (k : Go p e below P T (mkF m pc' Ls (v :: st))) : Go p e below P T (mkF m pc Ls (.int j :: .ref a :: st)) := by
  subst hp
  obtain ⟨cl, A, q1, q2, q3, H, F⟩ := V
  exact k.of fun t q => S.X.iaload S.ex (j := j) (v := v) (by rw [S.eT]; exact A.1) (State.isArrayOf_alike S.hZ.alike A.2.1) A.2.2 (inb_of q2 hj) (H.at (inb_of q2 hj) hv) (g := mkF m pc Ls (.int j :: .ref a :: st)) rfl rfl (S.hd hd) _ q
theorem Go.laload (S : St p l e R s m args below meth c Z own bytes nl ret nm h0 ws T h locs cells slots) {a : Addr} {kA : ClassId} {n j : Int32} {v : Value} {vs : List Value} {dv : Value} (V : Arv Z h a kA .long n vs dv) (hj : ¬ j < 0 ∧ j < n) (hv : vs.getD j.toNatClampNeg dv = v) (hd : decode bytes pc = .ok (.laload, 1)) (hp : pc + 1 = pc') (k : Go p e below P T (mkF m pc' Ls (v :: st))) : Go p e below P T (mkF m pc Ls (.int j :: .ref a :: st)) := by
  subst hp
  obtain ⟨cl, A, q1, q2, q3, H, F⟩ := V
  exact k.of fun t q => S.X.laload S.ex (j := j) (v := v) (by rw [S.eT]; exact A.1) (State.isArrayOf_alike S.hZ.alike A.2.1) A.2.2 (inb_of q2 hj) (H.at (inb_of q2 hj) hv) (g := mkF m pc Ls (.int j :: .ref a :: st)) rfl rfl (S.hd hd) _ q
theorem Go.caload (S : St p l e R s m args below meth c Z own bytes nl ret nm h0 ws T h locs cells slots) {a : Addr} {kA : ClassId} {n j : Int32} {v : Value} {vs : List Value} {dv : Value} (V : Arv Z h a kA .char n vs dv) (hj : ¬ j < 0 ∧ j < n) (hv : vs.getD j.toNatClampNeg dv = v) (hd : decode bytes pc = .ok (.caload, 1)) (hp : pc + 1 = pc') (k : Go p e below P T (mkF m pc' Ls (v :: st))) : Go p e below P T (mkF m pc Ls (.int j :: .ref a :: st)) := by
  subst hp
  obtain ⟨cl, A, q1, q2, q3, H, F⟩ := V
  exact k.of fun t q => S.X.caload S.ex (j := j) (v := v) (by rw [S.eT]; exact A.1) (State.isArrayOf_alike S.hZ.alike A.2.1) A.2.2 (inb_of q2 hj) (H.at (inb_of q2 hj) hv) (g := mkF m pc Ls (.int j :: .ref a :: st)) rfl rfl (S.hd hd) _ q
theorem Go.baload (S : St p l e R s m args below meth c Z own bytes nl ret nm h0 ws T h locs cells slots) {a : Addr} {kA : ClassId} {n j : Int32} {v : Value} {vs : List Value} {dv : Value} (V : Arv Z h a kA .byte n vs dv) (hj : ¬ j < 0 ∧ j < n) (hv : vs.getD j.toNatClampNeg dv = v) (hd : decode bytes pc = .ok (.baload, 1)) (hp : pc + 1 = pc') (k : Go p e below P T (mkF m pc' Ls (v :: st))) : Go p e below P T (mkF m pc Ls (.int j :: .ref a :: st)) := by
  subst hp
  obtain ⟨cl, A, q1, q2, q3, H, F⟩ := V
  exact k.of fun t q => S.X.baloadBytes S.ex (j := j) (v := v) (by rw [S.eT]; exact A.1) (State.isArrayOf_alike S.hZ.alike A.2.1) A.2.2 (inb_of q2 hj) (H.at (inb_of q2 hj) hv) (g := mkF m pc Ls (.int j :: .ref a :: st)) rfl rfl (S.hd hd) _ q
theorem Go.aaload (S : St p l e R s m args below meth c Z own bytes nl ret nm h0 ws T h locs cells slots) {a : Addr} {kA : ClassId} {ty : FieldType} {n j : Int32} {v : Value} {vs : List Value} {dv : Value} (V : Arv Z h a kA ty n vs dv) (hty : ty.isReference = true) (hj : ¬ j < 0 ∧ j < n) (hv : vs.getD j.toNatClampNeg dv = v) (hd : decode bytes pc = .ok (.aaload, 1)) (hp : pc + 1 = pc') (k : Go p e below P T (mkF m pc' Ls (v :: st))) : Go p e below P T (mkF m pc Ls (.int j :: .ref a :: st)) := by
  subst hp
  obtain ⟨cl, A, q1, q2, q3, H, F⟩ := V
  exact k.of fun t q => S.X.aaload S.ex (j := j) (v := v) (by rw [S.eT]; exact A.1) (State.isArrayOf_alike S.hZ.alike A.2.1) hty A.2.2 (inb_of q2 hj) (H.at (inb_of q2 hj) hv) (g := mkF m pc Ls (.int j :: .ref a :: st)) rfl rfl (S.hd hd) _ q
theorem Go.arraylength (S : St p l e R s m args below meth c Z own bytes nl ret nm h0 ws T h locs cells slots) {a : Addr} {kA : ClassId} {ty : FieldType} {n : Int32} {vs : List Value} {dv : Value} (V : Arv Z h a kA ty n vs dv) (hd : decode bytes pc = .ok (.arraylength, 1)) (hp : pc + 1 = pc') (k : Go p e below P T (mkF m pc' Ls (.int n :: st))) : Go p e below P T (mkF m pc Ls (.ref a :: st)) := by
  subst hp
  obtain ⟨cl, A, q1, q2, q3, H, F⟩ := V
  exact k.of fun t q => S.X.arraylength S.ex (by rw [S.eT]; exact A.1) (State.isArrayOf_alike S.hZ.alike A.2.1) (g := mkF m pc Ls (.ref a :: st)) rfl rfl (S.hd hd) _ (by rw [len_of q2 q3]; exact q)
theorem Go.initObject (S : St p l e R s m args below meth c Z own bytes nl ret nm h0 ws T h locs cells slots) {idx : Nat} {a : Addr} {W : Nat} (w1 : (Jvm.Cond.methodLink own idx Lib.objectInit).before a0 Z = true) (w2 : (Jvm.Cond.instanceMethod Lib.objectInit).before a0 Z = true) (w3 : (Jvm.Cond.code Lib.objectInit ⟨#[0xb1]⟩ 1 none).before a0 Z = true) (hd : decode bytes pc = .ok (.invokespecial idx, 3)) (hsz : Ls.size = nl) (hf : 1 ≤ R.frames) (hW : (st.map fun v => v.category).sum = W) (hl : W + 12 ≤ R.locals) (hp : pc + 3 = pc')
    (k : ∀ T', St p l e R s m args below meth c Z own bytes nl ret nm h0 ws T' h locs cells slots → Go p e below P T' (mkF m pc' Ls st)) : Go p e below P T (mkF m pc Ls (.ref a :: st)) := by
  subst hp
  obtain ⟨T', X', e', f⟩ := initO S.X S.ex S.hZ S.hown w1 w2 w3 S.eT (g := mkF m pc Ls (.ref a :: st)) rfl (hsz.trans S.hnl.symm) rfl (S.hd hd) hf (W := W) (by show 2 * 0 + _ ≤ _; rw [hW]; omega) hl
  exact (k T' (S.next X' e' S.fr S.keep S.ext)).of f
theorem Go.checkcast (S : St p l e R s m args below meth c Z own bytes nl ret nm h0 ws T h locs cells slots) {C : String} {index : Nat} {a : Addr} (w : (Jvm.Cond.classLink own index C).before a0 Z = true) (F : Ins Z h a C true) (hd : decode bytes pc = .ok (.checkcast index, 3)) (hp : pc + 3 = pc')
    (k : ∀ T', St p l e R s m args below meth c Z own bytes nl ret nm h0 ws T' h locs cells slots → Go p e below P T' (mkF m pc' Ls (.ref a :: st))) : Go p e below P T (mkF m pc Ls (.ref a :: st)) := by
  subst hp
  obtain ⟨T', X', e', f⟩ := castY S.X S.ex S.hZ S.hown w S.eT F (g := mkF m pc Ls (.ref a :: st)) rfl rfl (S.hd hd)
  exact (k T' (S.next X' e' S.fr S.keep S.ext)).of f
theorem Go.instanceofY (S : St p l e R s m args below meth c Z own bytes nl ret nm h0 ws T h locs cells slots) {C : String} {index : Nat} {a : Addr} (w : (Jvm.Cond.classLink own index C).before a0 Z = true) (F : Ins Z h a C true) (hd : decode bytes pc = .ok (.instanceof index, 3)) (hp : pc + 3 = pc')
    (k : ∀ T', St p l e R s m args below meth c Z own bytes nl ret nm h0 ws T' h locs cells slots → Go p e below P T' (mkF m pc' Ls (.int 1 :: st))) : Go p e below P T (mkF m pc Ls (.ref a :: st)) := by
  subst hp
  obtain ⟨T', X', e', f⟩ := instY S.X S.ex S.hZ S.hown w S.eT F (g := mkF m pc Ls (.ref a :: st)) rfl rfl (S.hd hd)
  exact (k T' (S.next X' e' S.fr S.keep S.ext)).of f
theorem Go.invokestatic (S : St p l e R s m args below meth c Z own bytes nl ret nm h0 ws T h locs cells slots) {y : MethodName} {bytes' : ByteArray} {nl' : Nat} {ret' : Option FieldType} {rm : Room} {as' : Array Value} {ws' : List Addr} {Q' : Option Value → Heap → Prop} {index W : Nat} {ps : List FieldType} {r : Option FieldType} {argsL : List Value} (M : OMeets l Z y bytes' nl' ret' rm as' h ws' Q') (w1 : (Jvm.Cond.methodLink own index y).before a0 Z = true) (w2 : (Jvm.Cond.static y).before a0 Z = true) (w3 : (Jvm.Cond.initialized y.cls).before a0 Z = true) (w4 : (Jvm.Cond.code y bytes' nl' ret').before a0 Z = true) (hy : y.cls ≠ "java/lang/invoke/MethodHandle" ∧ y.cls ≠ "java/lang/invoke/VarHandle") (hd : decode bytes pc = .ok (.invokestatic index, 3)) (hsz : Ls.size = nl) (hlen : parseMethodDescriptor y.desc = some ⟨ps, r⟩) (hn : argsL.length = ps.length) (has : argsL.toArray = as') {stk : List Value} (hstk : stk = argsL.reverse ++ st) (hf : rm.frames + 1 ≤ R.frames) (hW : (st.map fun v => v.category).sum = W) (hl : W + (nl' + 11) + rm.locals ≤ R.locals) (hc : cells + rm.cells ≤ R.cells) (hs : slots + rm.slots ≤ R.slots) (hws : ∀ x ∈ ws', x ∈ ws ∨ h0.size ≤ x) (hp : pc + 3 = pc')
    (k : ∀ v T' h' locs', St p l e R s m args below meth c Z own bytes nl ret nm h0 ws T' h' locs' (cells + rm.cells) (slots + rm.slots) → Keep h h' ws' → Q' v h' → Go p e below P T' (mkF m pc' Ls (v.toList ++ st))) : Go p e below P T (mkF m pc Ls stk) := by
  subst hp hstk
  obtain ⟨v, _, ⟨T', L', k', n'⟩, -, X', ⟨L, hQ, l1, l2, l3⟩, f⟩ := Jvm.LawKit.callS S.X S.ex S.hown (mvT S.hZ w1) (mvT S.hZ w2) (mvT S.hZ w3) (mvT S.hZ w4) hy (backOf (Q := fun v U L => Fr Z.heap.size L ∧ Keep h U ws' ∧ Ext Z.heap U ∧ Q' v U) (W := W) (M []) S.hZ w4 w3 hf hl) (g := mkF m pc Ls (argsL.reverse ++ st)) rfl (hsz.trans S.hnl.symm) (argsL := argsL) (rest := st) (lenOf hlen hn) rfl (by show 2 * 0 + _ ≤ _; rw [hW]; omega) (S.hd hd) (fun _ _ => ⟨has, S.eT, hc, hs⟩)
  dsimp only [Pt.U, Pt.locs, Pt.cells, Pt.slots] at X' l1 l2 l3 hQ f
  subst l1 l2 l3
  obtain ⟨N, K', E', q⟩ := hQ
  exact (k v T' T'.heap _ (S.next X' rfl (S.fr.app N) (S.keep.trans K' hws) E') K' q).of f
theorem Go.invokespecial (S : St p l e R s m args below meth c Z own bytes nl ret nm h0 ws T h locs cells slots) {y : MethodName} {bytes' : ByteArray} {nl' : Nat} {ret' : Option FieldType} {rm : Room} {as' : Array Value} {ws' : List Addr} {Q' : Option Value → Heap → Prop} {index W : Nat} {ps : List FieldType} {r : Option FieldType} {argsL : List Value} {a : Addr} (M : OMeets l Z y bytes' nl' ret' rm as' h ws' Q') (hi : y.name = "<init>") (hr0 : ret' = none) (w1 : (Jvm.Cond.methodLink own index y).before a0 Z = true) (w2 : (Jvm.Cond.instanceMethod y).before a0 Z = true) (w3 : (Jvm.Cond.initialized y.cls).before a0 Z = true) (w4 : (Jvm.Cond.code y bytes' nl' ret').before a0 Z = true) (hy : y.cls ≠ "java/lang/invoke/MethodHandle" ∧ y.cls ≠ "java/lang/invoke/VarHandle") (hd : decode bytes pc = .ok (.invokespecial index, 3)) (hsz : Ls.size = nl) (hlen : parseMethodDescriptor y.desc = some ⟨ps, r⟩) (hn : argsL.length = ps.length) (has : (.ref a :: argsL).toArray = as') {stk : List Value} (hstk : stk = argsL.reverse ++ .ref a :: st) (hf : rm.frames + 1 ≤ R.frames) (hW : (st.map fun v => v.category).sum = W) (hl : W + (nl' + 11) + rm.locals ≤ R.locals) (hc : cells + rm.cells ≤ R.cells) (hs : slots + rm.slots ≤ R.slots) (hws : ∀ x ∈ ws', x ∈ ws ∨ h0.size ≤ x) (hp : pc + 3 = pc')
    (k : ∀ v T' h' locs', St p l e R s m args below meth c Z own bytes nl ret nm h0 ws T' h' locs' (cells + rm.cells) (slots + rm.slots) → Keep h h' ws' → Q' v h' → Go p e below P T' (mkF m pc' Ls (v.toList ++ st))) : Go p e below P T (mkF m pc Ls stk) := by
  subst hp hstk hr0
  obtain ⟨v, _, ⟨T', L', k', n'⟩, -, X', ⟨L, hQ, l1, l2, l3⟩, f⟩ := S.X.specialBack S.ex hi S.hown (mvT S.hZ w1) (mvT S.hZ w2) (mvT S.hZ w4) hy (backOf (Q := fun v U L => Fr Z.heap.size L ∧ Keep h U ws' ∧ Ext Z.heap U ∧ Q' v U) (W := W) (M []) S.hZ w4 w3 hf hl) (g := mkF m pc Ls (argsL.reverse ++ .ref a :: st)) rfl (hsz.trans S.hnl.symm) (Steps.refl _) (a := a) (argsL := argsL) (rest := st) (lenOf hlen hn) rfl (by show 2 * 0 + _ ≤ _; rw [hW]; omega) (S.hd hd) (fun _ _ => ⟨has, S.eT, hc, hs⟩)
  dsimp only [Pt.U, Pt.locs, Pt.cells, Pt.slots] at X' l1 l2 l3 hQ f
  subst l1 l2 l3
  obtain ⟨N, K', E', q⟩ := hQ
  exact (k v T' T'.heap _ (S.next X' rfl (S.fr.app N) (S.keep.trans K' hws) E') K' q).of fun t q => f.trans q
theorem Go.invokevirtual (S : St p l e R s m args below meth c Z own bytes nl ret nm h0 ws T h locs cells slots) {y : MethodName} {bytes' : ByteArray} {nl' : Nat} {ret' : Option FieldType} {rm : Room} {as' : Array Value} {ws' : List Addr} {Q' : Option Value → Heap → Prop} {index W : Nat} {ps : List FieldType} {r : Option FieldType} {argsL : List Value} {a : Addr} {x : MethodName} {C : String} (M : OMeets l Z y bytes' nl' ret' rm as' h ws' Q') (w1 : (Jvm.Cond.methodLink own index x).before a0 Z = true) (w2 : (Jvm.Cond.declares x).before a0 Z = true) (hnf : NotFace s x) (w5 : (Jvm.Cond.selects C x y).before a0 Z = true) (w6 : (Jvm.Cond.instanceMethod y).before a0 Z = true) (w3 : (Jvm.Cond.initialized y.cls).before a0 Z = true) (w4 : (Jvm.Cond.code y bytes' nl' ret').before a0 Z = true) (hy : x.cls ≠ "java/lang/invoke/MethodHandle" ∧ x.cls ≠ "java/lang/invoke/VarHandle") (E : Exa Z h a C) (hd : decode bytes pc = .ok (.invokevirtual index, 3)) (hsz : Ls.size = nl) (hlen : parseMethodDescriptor x.desc = some ⟨ps, r⟩) (hn : argsL.length = ps.length) (has : (.ref a :: argsL).toArray = as') {stk : List Value} (hstk : stk = argsL.reverse ++ .ref a :: st) (hf : rm.frames + 1 ≤ R.frames) (hW : (st.map fun v => v.category).sum = W) (hl : W + (nl' + 11) + rm.locals ≤ R.locals) (hc : cells + rm.cells ≤ R.cells) (hs : slots + rm.slots ≤ R.slots) (hws : ∀ x ∈ ws', x ∈ ws ∨ h0.size ≤ x) (hp : pc + 3 = pc')
    (k : ∀ v T' h' locs', St p l e R s m args below meth c Z own bytes nl ret nm h0 ws T' h' locs' (cells + rm.cells) (slots + rm.slots) → Keep h h' ws' → Q' v h' → Go p e below P T' (mkF m pc' Ls (v.toList ++ st))) : Go p e below P T (mkF m pc Ls stk) := by
  subst hp hstk
  obtain ⟨cq, kq, q1, q2, q3⟩ := isOf S.hZ S.eT E
  obtain ⟨v, _, ⟨T', L', k', n'⟩, -, X', ⟨L, hQ, l1, l2, l3⟩, f⟩ := S.X.virtualBack S.ex S.hown (mvT S.hZ w1) (mvT S.hZ w2) hnf (mvT S.hZ w5) (mvT S.hZ w6) hy (backOf (Q := fun v U L => Fr Z.heap.size L ∧ Keep h U ws' ∧ Ext Z.heap U ∧ Q' v U) (W := W) (M []) S.hZ w4 w3 hf hl) q1 q3 (g := mkF m pc Ls (argsL.reverse ++ .ref a :: st)) rfl (hsz.trans S.hnl.symm) (Steps.refl _) (argsL := argsL) (rest := st) (lenOf hlen hn) rfl (by show 2 * 0 + _ ≤ _; rw [hW]; omega) (S.hd hd) (fun _ _ => ⟨has, S.eT, hc, hs⟩)
  dsimp only [Pt.U, Pt.locs, Pt.cells, Pt.slots] at X' l1 l2 l3 hQ f
  subst l1 l2 l3
  obtain ⟨N, K', E', q⟩ := hQ
  exact (k v T' T'.heap _ (S.next X' rfl (S.fr.app N) (S.keep.trans K' hws) E') K' q).of fun t q => f.trans q
theorem St.nf (S : St p l e R s m args below meth c Z own bytes nl ret nm h0 ws T h locs cells slots) {C : String} {x : MethodName} (w : (Jvm.Cond.selects C x x).before a0 Z = true) : NotFace s x := notFace_of_selects (args := #[]) (mvT S.hZ w)
theorem Go.invokevirtualUp (S : St p l e R s m args below meth c Z own bytes nl ret nm h0 ws T h locs cells slots) {y : MethodName} {bytes' : ByteArray} {nl' : Nat} {ret' : Option FieldType} {rm : Room} {as' : Array Value} {ws' : List Addr} {Q' : Option Value → Heap → Prop} {index W : Nat} {ps : List FieldType} {r : Option FieldType} {argsL : List Value} {a : Addr} {x : MethodName} {C owner : String} (M : OMeets l Z y bytes' nl' ret' rm as' h ws' Q') (w1 : (Jvm.Cond.methodLink own index x).before a0 Z = true) (w2 : (Jvm.Cond.declares ⟨owner, x.name, x.desc⟩).before a0 Z = true) (w7 : (Jvm.Cond.sameMethod x.cls owner x.name x.desc).before a0 Z = true) (w5 : (Jvm.Cond.selects C x y).before a0 Z = true) (w6 : (Jvm.Cond.instanceMethod y).before a0 Z = true) (w3 : (Jvm.Cond.initialized y.cls).before a0 Z = true) (w4 : (Jvm.Cond.code y bytes' nl' ret').before a0 Z = true) (hy : owner ≠ "java/lang/invoke/MethodHandle" ∧ owner ≠ "java/lang/invoke/VarHandle") (E : Exa Z h a C) (hd : decode bytes pc = .ok (.invokevirtual index, 3)) (hsz : Ls.size = nl) (hlen : parseMethodDescriptor x.desc = some ⟨ps, r⟩) (hn : argsL.length = ps.length) (has : (.ref a :: argsL).toArray = as') {stk : List Value} (hstk : stk = argsL.reverse ++ .ref a :: st) (hf : rm.frames + 1 ≤ R.frames) (hW : (st.map fun v => v.category).sum = W) (hl : W + (nl' + 11) + rm.locals ≤ R.locals) (hc : cells + rm.cells ≤ R.cells) (hs : slots + rm.slots ≤ R.slots) (hws : ∀ x ∈ ws', x ∈ ws ∨ h0.size ≤ x) (hp : pc + 3 = pc')
    (k : ∀ v T' h' locs', St p l e R s m args below meth c Z own bytes nl ret nm h0 ws T' h' locs' (cells + rm.cells) (slots + rm.slots) → Keep h h' ws' → Q' v h' → Go p e below P T' (mkF m pc' Ls (v.toList ++ st))) : Go p e below P T (mkF m pc Ls stk) := by
  subst hp hstk
  obtain ⟨cq, kq, q1, q2, q3⟩ := isOf S.hZ S.eT E
  obtain ⟨v, _, ⟨T', L', k', n'⟩, -, X', ⟨L, hQ, l1, l2, l3⟩, f⟩ := S.X.virtualBackUp S.ex S.hown (mvT S.hZ w1) (mvT S.hZ w7) (mvT S.hZ w2) hy (mvT S.hZ w5) (mvT S.hZ w6) (backOf (Q := fun v U L => Fr Z.heap.size L ∧ Keep h U ws' ∧ Ext Z.heap U ∧ Q' v U) (W := W) (M []) S.hZ w4 w3 hf hl) q1 q3 (g := mkF m pc Ls (argsL.reverse ++ .ref a :: st)) rfl (hsz.trans S.hnl.symm) (Steps.refl _) (argsL := argsL) (rest := st) (lenOf hlen hn) rfl (by show 2 * 0 + _ ≤ _; rw [hW]; omega) (S.hd hd) (fun _ _ => ⟨has, S.eT, hc, hs⟩)
  dsimp only [Pt.U, Pt.locs, Pt.cells, Pt.slots] at X' l1 l2 l3 hQ f
  subst l1 l2 l3
  obtain ⟨N, K', E', q⟩ := hQ
  exact (k v T' T'.heap _ (S.next X' rfl (S.fr.app N) (S.keep.trans K' hws) E') K' q).of fun t q => f.trans q
theorem Go.tableswitch (S : St p l e R s m args below meth c Z own bytes nl ret nm h0 ws T h locs cells slots) {dflt low high : Int} {offs : Array Int} {len : Nat} {o : Int} {i : Int32} (hd : decode bytes pc = .ok (.tableswitch dflt low high offs, len)) (hin : ¬ (i.toInt < low ∨ i.toInt > high)) (hoff : offs[(i.toInt - low).toNat]? = some o) (hp : (pc : Int) + o = (pc' : Int)) (k : Go p e below P T (mkF m pc' Ls st)) : Go p e below P T (mkF m pc Ls (.int i :: st)) :=
  k.of fun t q => XS.tswIn S.X.here S.ex rfl (pc0 := pc) rfl (S.hd hd) rfl hin hoff (off0 hp) (off1 hp) q
theorem Go.instanceofN (S : St p l e R s m args below meth c Z own bytes nl ret nm h0 ws T h locs cells slots) {C K : String} {index : Nat} {a : Addr} (w : (Jvm.Cond.classLink own index K).before a0 Z = true) (E : Exa Z h a C) (F : ∃ c t, Z.vm.findClass C = some c ∧ Z.vm.findClass K = some t ∧ Z.vm.assignable c t = false) (hd : decode bytes pc = .ok (.instanceof index, 3)) (hp : pc + 3 = pc')
    (k : ∀ T', St p l e R s m args below meth c Z own bytes nl ret nm h0 ws T' h locs cells slots → Go p e below P T' (mkF m pc' Ls (.int 0 :: st))) : Go p e below P T (mkF m pc Ls (.ref a :: st)) := by
  subst hp
  obtain ⟨T', X', e', f⟩ := instNo S.X S.ex S.hZ S.hown w S.eT E F (g := mkF m pc Ls (.ref a :: st)) rfl rfl (S.hd hd)
  exact (k T' (S.next X' e' S.fr S.keep S.ext)).of f
theorem Go.instanceofNull (S : St p l e R s m args below meth c Z own bytes nl ret nm h0 ws T h locs cells slots) {index : Nat} (hd : decode bytes pc = .ok (.instanceof index, 3)) (hp : pc + 3 = pc') (k : Go p e below P T (mkF m pc' Ls (.int 0 :: st))) : Go p e below P T (mkF m pc Ls (.null :: st)) := by
  subst hp
  exact k.of fun t q => S.X.instanceofNull S.ex (g := mkF m pc Ls (.null :: st)) rfl rfl (S.hd hd) _ q
theorem Go.checkcastNull (S : St p l e R s m args below meth c Z own bytes nl ret nm h0 ws T h locs cells slots) {index : Nat} (hd : decode bytes pc = .ok (.checkcast index, 3)) (hp : pc + 3 = pc') (k : Go p e below P T (mkF m pc' Ls (.null :: st))) : Go p e below P T (mkF m pc Ls (.null :: st)) := by
  subst hp
  exact k.of fun t q => S.X.checkcastNull S.ex (g := mkF m pc Ls (.null :: st)) rfl rfl (S.hd hd) _ q
theorem Go.aaloadA (S : St p l e R s m args below meth c Z own bytes nl ret nm h0 ws T h locs cells slots) {a : Addr} {cl : Cell} {ty : FieldType} {j : Int32} {v : Value} (A : Arr Z h a cl ty) (hty : ty.isReference = true) (hj : ¬ (j < 0 ∨ cl.slots.size ≤ j.toNatClampNeg)) (hv : cl.slots[j.toNatClampNeg]? = some v) (hd : decode bytes pc = .ok (.aaload, 1)) (hp : pc + 1 = pc') (k : Go p e below P T (mkF m pc' Ls (v :: st))) : Go p e below P T (mkF m pc Ls (.int j :: .ref a :: st)) := by
  subst hp
  exact k.of fun t q => S.X.aaload S.ex (j := j) (v := v) (by rw [S.eT]; exact A.1) (State.isArrayOf_alike S.hZ.alike A.2.1) hty A.2.2 hj hv (g := mkF m pc Ls (.int j :: .ref a :: st)) rfl rfl (S.hd hd) _ q
theorem Go.clone (S : St p l e R s m args below meth c Z own bytes nl ret nm h0 ws T h locs cells slots) {ad : String} {index : Nat} {a : Addr} {kA : ClassId} {ty : FieldType} {n : Int32} {vs : List Value} {dv : Value} {W cap : Nat} (w1 : (Jvm.Cond.methodLink own index ⟨ad, "clone", "()Ljava/lang/Object;"⟩).before a0 Z = true) (w2 : (Jvm.Cond.sameMethod ad "java/lang/Object" "clone" "()Ljava/lang/Object;").before a0 Z = true) (w3 : (Jvm.Cond.native ⟨"java/lang/Object", "clone", "()Ljava/lang/Object;"⟩).before a0 Z = true) (w4 : (Jvm.Cond.instanceMethod ⟨"java/lang/Object", "clone", "()Ljava/lang/Object;"⟩).before a0 Z = true) (w5 : (Jvm.Cond.selects ad ⟨ad, "clone", "()Ljava/lang/Object;"⟩ ⟨"java/lang/Object", "clone", "()Ljava/lang/Object;"⟩).before a0 Z = true) (w6 : (Jvm.Cond.castable ad "java/lang/Cloneable").before a0 Z = true)
    (V : Arv Z Z.heap a kA ty n vs dv) (hfit : Fit Z) (E : Exa Z Z.heap a ad) (hd : decode bytes pc = .ok (.invokevirtual index, 3)) (hsz : Ls.size = nl) (hf : 1 ≤ R.frames) (hW : (st.map fun v => v.category).sum = W) (hl : W + 14 ≤ R.locals) (hcap : n.toNatClampNeg ≤ cap) (hc : cells + 1 ≤ R.cells) (hsl : slots + cap ≤ R.slots) (hp : pc + 3 = pc')
    (k : ∀ T' h' b, St p l e R s m args below meth c Z own bytes nl ret nm h0 ws T' h' locs (cells + 1) (slots + cap) → Ext h h' → h.size = b → Arv Z h' b kA ty n vs dv → Exa Z h' b ad → Go p e below P T' (mkF m pc' Ls (.ref b :: st))) : Go p e below P T (mkF m pc Ls (.ref a :: st)) := by
  subst hp
  obtain ⟨cl, A, q1, q2, q3, H, F⟩ := V
  obtain ⟨T', h', X', e', E', A', EA, f⟩ := cloneA S.X S.ex S.hZ S.hown w1 w2 w3 w4 w5 w6 S.eT (A.ext S.ext) (E.ext S.ext) (FitC.start hfit A) (g := mkF m pc Ls (.ref a :: st)) rfl (hsz.trans S.hnl.symm) rfl (S.hd hd) hf (W := W) (by show 2 * 0 + _ ≤ _; rw [hW]; omega) hl (cap := cap) (by rw [q2]; exact hcap) hc hsl
  exact (k T' h' h.size (S.made X' e' E') E' rfl ⟨_, A', q1, q2, q3, H, F⟩ EA).of f
theorem Go.invokeinterface (S : St p l e R s m args below meth c Z own bytes nl ret nm h0 ws T h locs cells slots) {y : MethodName} {bytes' : ByteArray} {nl' : Nat} {ret' : Option FieldType} {rm : Room} {as' : Array Value} {ws' : List Addr} {Q' : Option Value → Heap → Prop} {index W : Nat} {ps : List FieldType} {r : Option FieldType} {argsL : List Value} {count : Nat} {a : Addr} {x : MethodName} {C : String} (M : OMeets l Z y bytes' nl' ret' rm as' h ws' Q') (w1 : (Jvm.Cond.methodLink own index x).before a0 Z = true) (w2 : (Jvm.Cond.declares x).before a0 Z = true) (w7 : (Jvm.Cond.interfaceMethod x.cls x.cls x.name x.desc).before a0 Z = true) (h7 : ((Jvm.Cond.interfaceMethod x.cls x.cls x.name x.desc).onTables && (Jvm.Cond.interfaceMethod x.cls x.cls x.name x.desc).keepsFace) = true) (w5 : (Jvm.Cond.selects C x y).before a0 Z = true) (w6 : (Jvm.Cond.instanceMethod y).before a0 Z = true) (w8 : (Jvm.Cond.publicMethod y).before a0 Z = true) (w9 : (Jvm.Cond.unhidden C x.name x.desc).before a0 Z = true) (w10 : (Jvm.Cond.castable C x.cls).before a0 Z = true) (w3 : (Jvm.Cond.initialized y.cls).before a0 Z = true) (w4 : (Jvm.Cond.code y bytes' nl' ret').before a0 Z = true) (hy : x.cls ≠ "java/lang/invoke/MethodHandle" ∧ x.cls ≠ "java/lang/invoke/VarHandle") (E : Exa Z h a C) (hd : decode bytes pc = .ok (.invokeinterface index count, 5)) (hsz : Ls.size = nl) (hlen : parseMethodDescriptor x.desc = some ⟨ps, r⟩) (hn : argsL.length = ps.length) (has : (.ref a :: argsL).toArray = as') {stk : List Value} (hstk : stk = argsL.reverse ++ .ref a :: st) (hf : rm.frames + 1 ≤ R.frames) (hW : (st.map fun v => v.category).sum = W) (hl : W + (nl' + 11) + rm.locals ≤ R.locals) (hc : cells + rm.cells ≤ R.cells) (hs : slots + rm.slots ≤ R.slots) (hws : ∀ x ∈ ws', x ∈ ws ∨ h0.size ≤ x) (hp : pc + 5 = pc')
    (k : ∀ v T' h' locs', St p l e R s m args below meth c Z own bytes nl ret nm h0 ws T' h' locs' (cells + rm.cells) (slots + rm.slots) → Keep h h' ws' → Q' v h' → Go p e below P T' (mkF m pc' Ls (v.toList ++ st))) : Go p e below P T (mkF m pc Ls stk) := by
  subst hp hstk
  obtain ⟨cq, kq, q1, q2, q3⟩ := isOf S.hZ S.eT E
  obtain ⟨v, _, ⟨T', L', k', n'⟩, -, X', ⟨L, hQ, l1, l2, l3⟩, f⟩ := S.X.interfaceBack S.ex S.hown (mvT S.hZ w1) (mvT S.hZ w2) (mvT S.hZ w7 h7) (mvT S.hZ w5) (mvT S.hZ w6) (mvT S.hZ w8) (mvT S.hZ w9) (mvT S.hZ w10) hy (backOf (Q := fun v U L => Fr Z.heap.size L ∧ Keep h U ws' ∧ Ext Z.heap U ∧ Q' v U) (W := W) (M []) S.hZ w4 w3 hf hl) q1 q2 q3 (g := mkF m pc Ls (argsL.reverse ++ .ref a :: st)) rfl (hsz.trans S.hnl.symm) (Steps.refl _) (argsL := argsL) (rest := st) (lenOf hlen hn) rfl (by show 2 * 0 + _ ≤ _; rw [hW]; omega) (S.hd hd) (fun _ _ => ⟨has, S.eT, hc, hs⟩)
  dsimp only [Pt.U, Pt.locs, Pt.cells, Pt.slots] at X' l1 l2 l3 hQ f
  subst l1 l2 l3
  obtain ⟨N, K', E', q⟩ := hQ
  exact (k v T' T'.heap _ (S.next X' rfl (S.fr.app N) (S.keep.trans K' hws) E') K' q).of fun t q => f.trans q
theorem Go.newarrayE (S : St p l e R s m args below meth c Z own bytes nl ret nm h0 ws T h locs cells slots) {aty : ArrayType} {n : Int32} {cap : Nat} {ty : FieldType} {dv : Value} {ad : String} (hty : newarray.typeOf aty = ty) (hdv : defaultValue ty = dv) (had : "[" ++ ty.toString = ad) (w : (Jvm.Cond.arrayClass ty).before a0 Z = true) (hd : decode bytes pc = .ok (.newarray aty, 2)) (hn : ¬ n < 0) (hcap : n.toNatClampNeg ≤ cap) (hb : cap * 8 ≤ 536870912) (hc : cells + 1 ≤ R.cells) (hl : slots + cap ≤ R.slots) (hp : pc + 2 = pc')
    (k : ∀ T' h' a cA, St p l e R s m args below meth c Z own bytes nl ret nm h0 ws T' h' locs (cells + 1) (slots + cap) → Ext h h' → h.size = a → Z.heap.size ≤ a → h0.size ≤ a → Arv Z h' a cA ty n (List.replicate cap dv) dv → Exa Z h' a ad → Go p e below P T' (mkF m pc' Ls (.ref a :: st))) : Go p e below P T (mkF m pc Ls (.int n :: st)) := by
  subst hp hty hdv
  obtain ⟨T', h', cA, X', e', E, A, XA, f⟩ := newPE S.X S.ex S.hZ w S.eT (g := mkF m pc Ls (.int n :: st)) rfl (S.hd hd) rfl hn hcap hb hc hl had
  exact (k T' h' h.size cA (S.made X' e' E) E rfl S.ext.1 S.keep.1 ((Arv.new A hn).pad (pad_rep [] _ cap)) XA).of f
theorem Go.anewarrayA (S : St p l e R s m args below meth c Z own bytes nl ret nm h0 ws T h locs cells slots) {C ad : String} {ty : FieldType} {index : Nat} {n : Int32} {cap : Nat} (hC : (FieldType.array ty).toString = C) (w1 : (Jvm.Cond.classLink own index C).before a0 Z = true) (w2 : (Jvm.Cond.arrayOver (.array ty)).before a0 Z = true) (had : "[" ++ C = ad) (hd : decode bytes pc = .ok (.anewarray index, 3)) (hn : ¬ n < 0) (hcap : n.toNatClampNeg ≤ cap) (hb : cap * 8 ≤ 536870912) (hc : cells + 1 ≤ R.cells) (hl : slots + cap ≤ R.slots) (hp : pc + 3 = pc')
    (k : ∀ T' h' a cA, St p l e R s m args below meth c Z own bytes nl ret nm h0 ws T' h' locs (cells + 1) (slots + cap) → Ext h h' → h.size = a → Z.heap.size ≤ a → h0.size ≤ a → Arv Z h' a cA (.array ty) n (List.replicate cap .null) .null → OvrA Z cA ty C → Go p e below P T' (mkF m pc' Ls (.ref a :: st))) : Go p e below P T (mkF m pc Ls (.int n :: st)) := by
  subst hp
  obtain ⟨T', h', cA, X', e', E, A, -, O, f⟩ := newRA S.X S.ex S.hZ S.hown hC w1 w2 S.eT (g := mkF m pc Ls (.int n :: st)) rfl (S.hd hd) rfl hn hcap hb hc hl had
  exact (k T' h' h.size cA (S.made X' e' E) E rfl S.ext.1 S.keep.1 ((Arv.new A hn).pad (pad_rep [] _ cap)) O).of f
theorem Go.invokeprivate (S : St p l e R s m args below meth c Z own bytes nl ret nm h0 ws T h locs cells slots) {y : MethodName} {bytes' : ByteArray} {nl' : Nat} {ret' : Option FieldType} {rm : Room} {as' : Array Value} {ws' : List Addr} {Q' : Option Value → Heap → Prop} {index W : Nat} {ps : List FieldType} {r : Option FieldType} {argsL : List Value} {a : Addr} {C : String} {kk : Nat} (M : OMeets l Z y bytes' nl' ret' rm as' h ws' Q') (w1 : (Jvm.Cond.methodLink own index y).before a0 Z = true) (w6 : (Jvm.Cond.instanceMethod y).before a0 Z = true) (w7 : (Jvm.Cond.privateMethod y).before a0 Z = true) (w8 : (Jvm.Cond.instantiable y.cls kk).before a0 Z = true) (w3 : (Jvm.Cond.initialized y.cls).before a0 Z = true) (w4 : (Jvm.Cond.code y bytes' nl' ret').before a0 Z = true) (hy : y.cls ≠ "java/lang/invoke/MethodHandle" ∧ y.cls ≠ "java/lang/invoke/VarHandle") (E : Exa Z h a C) (hd : decode bytes pc = .ok (.invokevirtual index, 3)) (hsz : Ls.size = nl) (hlen : parseMethodDescriptor y.desc = some ⟨ps, r⟩) (hn : argsL.length = ps.length) (has : (.ref a :: argsL).toArray = as') {stk : List Value} (hstk : stk = argsL.reverse ++ .ref a :: st) (hf : rm.frames + 1 ≤ R.frames) (hW : (st.map fun v => v.category).sum = W) (hl : W + (nl' + 11) + rm.locals ≤ R.locals) (hc : cells + rm.cells ≤ R.cells) (hs : slots + rm.slots ≤ R.slots) (hws : ∀ x ∈ ws', x ∈ ws ∨ h0.size ≤ x) (hp : pc + 3 = pc')
    (k : ∀ v T' h' locs', St p l e R s m args below meth c Z own bytes nl ret nm h0 ws T' h' locs' (cells + rm.cells) (slots + rm.slots) → Keep h h' ws' → Q' v h' → Go p e below P T' (mkF m pc' Ls (v.toList ++ st))) : Go p e below P T (mkF m pc Ls stk) := by
  subst hp hstk
  obtain ⟨cq, q1, q2⟩ := E.cell
  have hpr := Cond.privateMethod_at (mvP S.hZ w7 (args := args))
  have w8' : (Jvm.Cond.instantiable y.cls kk).before args s = true := mv S.hZ w8
  obtain ⟨ci, ki, i1, i2, -, i4, -⟩ := Cond.instantiable_spec w8'
  have hsel := selects_self_of_private i1 i2 (Bool.or_eq_false_iff.mp i4).1 hpr (mvT S.hZ w6 (args := args)) hy
  obtain ⟨v, _, ⟨T', L', k', n'⟩, -, X', ⟨L, hQ, l1, l2, l3⟩, f⟩ := S.X.privateBack S.ex S.hown (mvT S.hZ w1) (mvT S.hZ w6) hsel hpr (mvT S.hZ w4) hy (backOf (Q := fun v U L => Fr Z.heap.size L ∧ Keep h U ws' ∧ Ext Z.heap U ∧ Q' v U) (W := W) (M []) S.hZ w4 w3 hf hl) (g := mkF m pc Ls (argsL.reverse ++ .ref a :: st)) rfl (hsz.trans S.hnl.symm) (Steps.refl _) (a := a) (by rw [S.eT]; exact q1) q2 (argsL := argsL) (rest := st) (lenOf hlen hn) rfl (by show 2 * 0 + _ ≤ _; rw [hW]; omega) (S.hd hd) (fun _ _ => ⟨has, S.eT, hc, hs⟩)
  dsimp only [Pt.U, Pt.locs, Pt.cells, Pt.slots] at X' l1 l2 l3 hQ f
  subst l1 l2 l3
  obtain ⟨N, K', E', q⟩ := hQ
  exact (k v T' T'.heap _ (S.next X' rfl (S.fr.app N) (S.keep.trans K' hws) E') K' q).of fun t q => f.trans q
theorem OMeets.body {y : MethodName} {Q : Option Value → Heap → Prop} {as : Array Value} (hpl : plainFor y = true) (hE : Ext Z.heap h0) (Ls : Array Slot) (hef : ∀ m : MethodId, entryFrame m as nl = mkF m 0 Ls [])
    (H : ∀ p e s m below meth c T, St p l e R s m as below meth c Z y.cls bytes nl ret y.name h0 ws T h0 [] 0 0 → Go p e below (PostOf Z s h0 ws R.cells R.slots Q) T (mkF m 0 Ls [])) : OMeets l Z y bytes nl ret R as h0 ws Q := by
  intro wd
  refine MetFree.of_bodySF hpl hisR ?_
  intro p e s m args below meth c s₁ Bd hml hP _
  obtain ⟨rfl, hZ, hh⟩ := hP
  have X0 : Stand p l e R s m args below meth c s₁ [] 0 0 := Stand.of_body Bd
  have e0 : s₁.heap = h0 := by rw [← hh, Bd.state]; rfl
  have hg := H p e s m below meth c s₁ ⟨⟨Bd.exec, Bd.bytes, hml, hZ, findClass_of_methodNamed Bd.named, Bd.returns, Bd.notSynchronized, (name_of_methodNamed Bd.named Bd.method).1⟩, X0, e0, Fr.nil _, Keep.refl _ _, hE⟩
  rw [hef]
  exact hg
end Steps
end Jvm.Own
namespace Jvm.Pilot.@@N@@
open Jvm Jvm.ClassFile Sem Op Lib Jvm.Free Jvm.Stand Jvm.LawKit Jvm.RoadKit Jvm.Own Bundle Jvm.Pilot.@@N@@.Jvm.D
abbrev HW (Z : State) (a0 : Array Value) : Prop := ∀ d ∈ tables_1, d.before a0 Z = true
theorem wd0 {Z : State} {a0 : Array Value} (hw : HW Z a0) : Jvm.Cond.before (Jvm.Cond.arrayClass Jvm.ClassFile.FieldType.int) a0 Z = true := hw _ (List.mem_of_getElem? (i := 0) rfl)
theorem wd1 {Z : State} {a0 : Array Value} (hw : HW Z a0) : Jvm.Cond.before (Jvm.Cond.classLink "com/example/hypermedia_forms/hypermediaforms/PatternTreeSubtreesPinLaw" (8 : Nat) "com/example/hypermedia_forms/hypermediaforms/PatternTree") a0 Z = true := hw _ (List.mem_of_getElem? (i := 1) rfl)
theorem wd2 {Z : State} {a0 : Array Value} (hw : HW Z a0) : Jvm.Cond.before (Jvm.Cond.instantiable "com/example/hypermedia_forms/hypermediaforms/PatternTree" (4 : Nat)) a0 Z = true := hw _ (List.mem_of_getElem? (i := 2) rfl)
theorem wd3 {Z : State} {a0 : Array Value} (hw : HW Z a0) : Jvm.Cond.before (Jvm.Cond.initialized "com/example/hypermedia_forms/hypermediaforms/PatternTree") a0 Z = true := hw _ (List.mem_of_getElem? (i := 3) rfl)
theorem wd4 {Z : State} {a0 : Array Value} (hw : HW Z a0) : Jvm.Cond.before (Jvm.Cond.methodLink "com/example/hypermedia_forms/hypermediaforms/PatternTreeSubtreesPinLaw" (21 : Nat) ({ cls := "com/example/hypermedia_forms/hypermediaforms/PatternTree", name := "<init>", desc := "()V" } : Jvm.MethodName)) a0 Z = true := hw _ (List.mem_of_getElem? (i := 4) rfl)
theorem wd5 {Z : State} {a0 : Array Value} (hw : HW Z a0) : Jvm.Cond.before (Jvm.Cond.instanceMethod ({ cls := "com/example/hypermedia_forms/hypermediaforms/PatternTree", name := "<init>", desc := "()V" } : Jvm.MethodName)) a0 Z = true := hw _ (List.mem_of_getElem? (i := 5) rfl)
theorem wd6 {Z : State} {a0 : Array Value} (hw : HW Z a0) : Jvm.Cond.before (Jvm.Cond.code ({ cls := "com/example/hypermedia_forms/hypermediaforms/PatternTree", name := "<init>", desc := "()V" } : Jvm.MethodName) prog_45_method_1_code (1 : Nat) (Option.none : Option Jvm.ClassFile.FieldType)) a0 Z = true := hw _ (List.mem_of_getElem? (i := 6) rfl)
theorem wd7 {Z : State} {a0 : Array Value} (hw : HW Z a0) : Jvm.Cond.before (Jvm.Cond.methodLink "com/example/hypermedia_forms/hypermediaforms/PatternTree" (1 : Nat) ({ cls := "java/lang/Object", name := "<init>", desc := "()V" } : Jvm.MethodName)) a0 Z = true := hw _ (List.mem_of_getElem? (i := 7) rfl)
theorem wd8 {Z : State} {a0 : Array Value} (hw : HW Z a0) : Jvm.Cond.before (Jvm.Cond.instanceMethod ({ cls := "java/lang/Object", name := "<init>", desc := "()V" } : Jvm.MethodName)) a0 Z = true := hw _ (List.mem_of_getElem? (i := 8) rfl)
theorem wd9 {Z : State} {a0 : Array Value} (hw : HW Z a0) : Jvm.Cond.before (Jvm.Cond.code ({ cls := "java/lang/Object", name := "<init>", desc := "()V" } : Jvm.MethodName) object_method_1_code (1 : Nat) (Option.none : Option Jvm.ClassFile.FieldType)) a0 Z = true := hw _ (List.mem_of_getElem? (i := 9) rfl)
theorem wd10 {Z : State} {a0 : Array Value} (hw : HW Z a0) : Jvm.Cond.before (Jvm.Cond.arrayClass Jvm.ClassFile.FieldType.byte) a0 Z = true := hw _ (List.mem_of_getElem? (i := 10) rfl)
theorem wd11 {Z : State} {a0 : Array Value} (hw : HW Z a0) : Jvm.Cond.before (Jvm.Cond.fieldLink "com/example/hypermedia_forms/hypermediaforms/PatternTree" (7 : Nat) "com/example/hypermedia_forms/hypermediaforms/PatternTree" "kinds" "[B") a0 Z = true := hw _ (List.mem_of_getElem? (i := 11) rfl)
theorem wd12 {Z : State} {a0 : Array Value} (hw : HW Z a0) : Jvm.Cond.before (Jvm.Cond.lays "com/example/hypermedia_forms/hypermediaforms/PatternTree" "com/example/hypermedia_forms/hypermediaforms/PatternTree" "kinds" "[B") a0 Z = true := hw _ (List.mem_of_getElem? (i := 12) rfl)
theorem wd13 {Z : State} {a0 : Array Value} (hw : HW Z a0) : Jvm.Cond.before (Jvm.Cond.fieldLink "com/example/hypermedia_forms/hypermediaforms/PatternTree" (13 : Nat) "com/example/hypermedia_forms/hypermediaforms/PatternTree" "firsts" "[I") a0 Z = true := hw _ (List.mem_of_getElem? (i := 13) rfl)
theorem wd14 {Z : State} {a0 : Array Value} (hw : HW Z a0) : Jvm.Cond.before (Jvm.Cond.lays "com/example/hypermedia_forms/hypermediaforms/PatternTree" "com/example/hypermedia_forms/hypermediaforms/PatternTree" "firsts" "[I") a0 Z = true := hw _ (List.mem_of_getElem? (i := 14) rfl)
theorem wd15 {Z : State} {a0 : Array Value} (hw : HW Z a0) : Jvm.Cond.before (Jvm.Cond.classLink "com/example/hypermedia_forms/hypermediaforms/PatternTree" (17 : Nat) "[I") a0 Z = true := hw _ (List.mem_of_getElem? (i := 15) rfl)
theorem wd16 {Z : State} {a0 : Array Value} (hw : HW Z a0) : Jvm.Cond.before (Jvm.Cond.arrayOver (Jvm.ClassFile.FieldType.array Jvm.ClassFile.FieldType.int)) a0 Z = true := hw _ (List.mem_of_getElem? (i := 16) rfl)
theorem wd17 {Z : State} {a0 : Array Value} (hw : HW Z a0) : Jvm.Cond.before (Jvm.Cond.fieldLink "com/example/hypermedia_forms/hypermediaforms/PatternTree" (18 : Nat) "com/example/hypermedia_forms/hypermediaforms/PatternTree" "sets" "[[I") a0 Z = true := hw _ (List.mem_of_getElem? (i := 17) rfl)
theorem wd18 {Z : State} {a0 : Array Value} (hw : HW Z a0) : Jvm.Cond.before (Jvm.Cond.lays "com/example/hypermedia_forms/hypermediaforms/PatternTree" "com/example/hypermedia_forms/hypermediaforms/PatternTree" "sets" "[[I") a0 Z = true := hw _ (List.mem_of_getElem? (i := 18) rfl)
theorem wd19 {Z : State} {a0 : Array Value} (hw : HW Z a0) : Jvm.Cond.before (Jvm.Cond.methodLink "com/example/hypermedia_forms/hypermediaforms/PatternTreeSubtreesPinLaw" (22 : Nat) ({ cls := "com/example/hypermedia_forms/hypermediaforms/PatternTreeSubtreesPinLaw", name := "addShape", desc := "(Lcom/example/hypermedia_forms/hypermediaforms/PatternTree;I[I)V" } : Jvm.MethodName)) a0 Z = true := hw _ (List.mem_of_getElem? (i := 19) rfl)
theorem wd20 {Z : State} {a0 : Array Value} (hw : HW Z a0) : Jvm.Cond.before (Jvm.Cond.static ({ cls := "com/example/hypermedia_forms/hypermediaforms/PatternTreeSubtreesPinLaw", name := "addShape", desc := "(Lcom/example/hypermedia_forms/hypermediaforms/PatternTree;I[I)V" } : Jvm.MethodName)) a0 Z = true := hw _ (List.mem_of_getElem? (i := 20) rfl)
theorem wd21 {Z : State} {a0 : Array Value} (hw : HW Z a0) : Jvm.Cond.before (Jvm.Cond.initialized "com/example/hypermedia_forms/hypermediaforms/PatternTreeSubtreesPinLaw") a0 Z = true := hw _ (List.mem_of_getElem? (i := 21) rfl)
theorem wd22 {Z : State} {a0 : Array Value} (hw : HW Z a0) : Jvm.Cond.before (Jvm.Cond.code ({ cls := "com/example/hypermedia_forms/hypermediaforms/PatternTreeSubtreesPinLaw", name := "addShape", desc := "(Lcom/example/hypermedia_forms/hypermediaforms/PatternTree;I[I)V" } : Jvm.MethodName) method_3_code (4 : Nat) (Option.none : Option Jvm.ClassFile.FieldType)) a0 Z = true := hw _ (List.mem_of_getElem? (i := 22) rfl)
theorem wd23 {Z : State} {a0 : Array Value} (hw : HW Z a0) : Jvm.Cond.before (Jvm.Cond.methodLink "com/example/hypermedia_forms/hypermediaforms/PatternTreeSubtreesPinLaw" (7 : Nat) ({ cls := "com/example/hypermedia_forms/hypermediaforms/PatternTree", name := "addLeaf", desc := "([I)I" } : Jvm.MethodName)) a0 Z = true := hw _ (List.mem_of_getElem? (i := 23) rfl)
theorem wd24 {Z : State} {a0 : Array Value} (hw : HW Z a0) : Jvm.Cond.before (Jvm.Cond.declares ({ cls := "com/example/hypermedia_forms/hypermediaforms/PatternTree", name := "addLeaf", desc := "([I)I" } : Jvm.MethodName)) a0 Z = true := hw _ (List.mem_of_getElem? (i := 24) rfl)
theorem wd25 {Z : State} {a0 : Array Value} (hw : HW Z a0) : Jvm.Cond.before (Jvm.Cond.instanceMethod ({ cls := "com/example/hypermedia_forms/hypermediaforms/PatternTree", name := "addLeaf", desc := "([I)I" } : Jvm.MethodName)) a0 Z = true := hw _ (List.mem_of_getElem? (i := 25) rfl)
theorem wd26 {Z : State} {a0 : Array Value} (hw : HW Z a0) : Jvm.Cond.before (Jvm.Cond.selects "com/example/hypermedia_forms/hypermediaforms/PatternTree" ({ cls := "com/example/hypermedia_forms/hypermediaforms/PatternTree", name := "addLeaf", desc := "([I)I" } : Jvm.MethodName) ({ cls := "com/example/hypermedia_forms/hypermediaforms/PatternTree", name := "addLeaf", desc := "([I)I" } : Jvm.MethodName)) a0 Z = true := hw _ (List.mem_of_getElem? (i := 26) rfl)
theorem wd27 {Z : State} {a0 : Array Value} (hw : HW Z a0) : Jvm.Cond.before (Jvm.Cond.code ({ cls := "com/example/hypermedia_forms/hypermediaforms/PatternTree", name := "addLeaf", desc := "([I)I" } : Jvm.MethodName) prog_45_method_6_code (2 : Nat) (Option.some Jvm.ClassFile.FieldType.int)) a0 Z = true := hw _ (List.mem_of_getElem? (i := 27) rfl)
theorem wd28 {Z : State} {a0 : Array Value} (hw : HW Z a0) : Jvm.Cond.before (Jvm.Cond.fieldLink "com/example/hypermedia_forms/hypermediaforms/PatternTree" (22 : Nat) "com/example/hypermedia_forms/hypermediaforms/PatternTree" "size" "I") a0 Z = true := hw _ (List.mem_of_getElem? (i := 28) rfl)
theorem wd29 {Z : State} {a0 : Array Value} (hw : HW Z a0) : Jvm.Cond.before (Jvm.Cond.lays "com/example/hypermedia_forms/hypermediaforms/PatternTree" "com/example/hypermedia_forms/hypermediaforms/PatternTree" "size" "I") a0 Z = true := hw _ (List.mem_of_getElem? (i := 29) rfl)
theorem wd30 {Z : State} {a0 : Array Value} (hw : HW Z a0) : Jvm.Cond.before (Jvm.Cond.methodLink "com/example/hypermedia_forms/hypermediaforms/PatternTree" (26 : Nat) ({ cls := "com/example/hypermedia_forms/hypermediaforms/PatternTree", name := "add", desc := "(BI[I)I" } : Jvm.MethodName)) a0 Z = true := hw _ (List.mem_of_getElem? (i := 30) rfl)
theorem wd31 {Z : State} {a0 : Array Value} (hw : HW Z a0) : Jvm.Cond.before (Jvm.Cond.instanceMethod ({ cls := "com/example/hypermedia_forms/hypermediaforms/PatternTree", name := "add", desc := "(BI[I)I" } : Jvm.MethodName)) a0 Z = true := hw _ (List.mem_of_getElem? (i := 31) rfl)
theorem wd32 {Z : State} {a0 : Array Value} (hw : HW Z a0) : Jvm.Cond.before (Jvm.Cond.privateMethod ({ cls := "com/example/hypermedia_forms/hypermediaforms/PatternTree", name := "add", desc := "(BI[I)I" } : Jvm.MethodName)) a0 Z = true := hw _ (List.mem_of_getElem? (i := 32) rfl)
theorem wd33 {Z : State} {a0 : Array Value} (hw : HW Z a0) : Jvm.Cond.before (Jvm.Cond.code ({ cls := "com/example/hypermedia_forms/hypermediaforms/PatternTree", name := "add", desc := "(BI[I)I" } : Jvm.MethodName) prog_45_method_12_code (4 : Nat) (Option.some Jvm.ClassFile.FieldType.int)) a0 Z = true := hw _ (List.mem_of_getElem? (i := 33) rfl)
theorem wd34 {Z : State} {a0 : Array Value} (hw : HW Z a0) : Jvm.Cond.before (Jvm.Cond.methodLink "com/example/hypermedia_forms/hypermediaforms/PatternTree" (41 : Nat) ({ cls := "com/example/hypermedia_forms/hypermediaforms/PatternTree", name := "reserve", desc := "(I)V" } : Jvm.MethodName)) a0 Z = true := hw _ (List.mem_of_getElem? (i := 34) rfl)
theorem wd35 {Z : State} {a0 : Array Value} (hw : HW Z a0) : Jvm.Cond.before (Jvm.Cond.instanceMethod ({ cls := "com/example/hypermedia_forms/hypermediaforms/PatternTree", name := "reserve", desc := "(I)V" } : Jvm.MethodName)) a0 Z = true := hw _ (List.mem_of_getElem? (i := 35) rfl)
theorem wd36 {Z : State} {a0 : Array Value} (hw : HW Z a0) : Jvm.Cond.before (Jvm.Cond.privateMethod ({ cls := "com/example/hypermedia_forms/hypermediaforms/PatternTree", name := "reserve", desc := "(I)V" } : Jvm.MethodName)) a0 Z = true := hw _ (List.mem_of_getElem? (i := 36) rfl)
theorem wd37 {Z : State} {a0 : Array Value} (hw : HW Z a0) : Jvm.Cond.before (Jvm.Cond.code ({ cls := "com/example/hypermedia_forms/hypermediaforms/PatternTree", name := "reserve", desc := "(I)V" } : Jvm.MethodName) prog_45_method_13_code (3 : Nat) (Option.none : Option Jvm.ClassFile.FieldType)) a0 Z = true := hw _ (List.mem_of_getElem? (i := 37) rfl)
theorem wd39 {Z : State} {a0 : Array Value} (hw : HW Z a0) : Jvm.Cond.before (Jvm.Cond.methodLink "com/example/hypermedia_forms/hypermediaforms/PatternTreeSubtreesPinLaw" (28 : Nat) ({ cls := "com/example/hypermedia_forms/hypermediaforms/PatternTreeSubtreesPinLaw", name := "len", desc := "(I)I" } : Jvm.MethodName)) a0 Z = true := hw _ (List.mem_of_getElem? (i := 39) rfl)
theorem wd40 {Z : State} {a0 : Array Value} (hw : HW Z a0) : Jvm.Cond.before (Jvm.Cond.static ({ cls := "com/example/hypermedia_forms/hypermediaforms/PatternTreeSubtreesPinLaw", name := "len", desc := "(I)I" } : Jvm.MethodName)) a0 Z = true := hw _ (List.mem_of_getElem? (i := 40) rfl)
theorem wd41 {Z : State} {a0 : Array Value} (hw : HW Z a0) : Jvm.Cond.before (Jvm.Cond.code ({ cls := "com/example/hypermedia_forms/hypermediaforms/PatternTreeSubtreesPinLaw", name := "len", desc := "(I)I" } : Jvm.MethodName) method_2_code (1 : Nat) (Option.some Jvm.ClassFile.FieldType.int)) a0 Z = true := hw _ (List.mem_of_getElem? (i := 41) rfl)
theorem wd42 {Z : State} {a0 : Array Value} (hw : HW Z a0) : Jvm.Cond.before (Jvm.Cond.constant "com/example/hypermedia_forms/hypermediaforms/PatternTreeSubtreesPinLaw" (32 : Nat) (2147483647 : Int32)) a0 Z = true := hw _ (List.mem_of_getElem? (i := 42) rfl)
theorem wd43 {Z : State} {a0 : Array Value} (hw : HW Z a0) : Jvm.Cond.before (Jvm.Cond.methodLink "com/example/hypermedia_forms/hypermediaforms/PatternTreeSubtreesPinLaw" (33 : Nat) ({ cls := "java/lang/Math", name := "min", desc := "(II)I" } : Jvm.MethodName)) a0 Z = true := hw _ (List.mem_of_getElem? (i := 43) rfl)
theorem wd44 {Z : State} {a0 : Array Value} (hw : HW Z a0) : Jvm.Cond.before (Jvm.Cond.static ({ cls := "java/lang/Math", name := "min", desc := "(II)I" } : Jvm.MethodName)) a0 Z = true := hw _ (List.mem_of_getElem? (i := 44) rfl)
theorem wd45 {Z : State} {a0 : Array Value} (hw : HW Z a0) : Jvm.Cond.before (Jvm.Cond.initialized "java/lang/Math") a0 Z = true := hw _ (List.mem_of_getElem? (i := 45) rfl)
theorem wd46 {Z : State} {a0 : Array Value} (hw : HW Z a0) : Jvm.Cond.before (Jvm.Cond.code ({ cls := "java/lang/Math", name := "min", desc := "(II)I" } : Jvm.MethodName) jdk_29_method_69_code (2 : Nat) (Option.some Jvm.ClassFile.FieldType.int)) a0 Z = true := hw _ (List.mem_of_getElem? (i := 46) rfl)
theorem wd47 {Z : State} {a0 : Array Value} (hw : HW Z a0) : Jvm.Cond.before (Jvm.Cond.methodLink "com/example/hypermedia_forms/hypermediaforms/PatternTreeSubtreesPinLaw" (39 : Nat) ({ cls := "java/lang/Math", name := "max", desc := "(II)I" } : Jvm.MethodName)) a0 Z = true := hw _ (List.mem_of_getElem? (i := 47) rfl)
theorem wd48 {Z : State} {a0 : Array Value} (hw : HW Z a0) : Jvm.Cond.before (Jvm.Cond.static ({ cls := "java/lang/Math", name := "max", desc := "(II)I" } : Jvm.MethodName)) a0 Z = true := hw _ (List.mem_of_getElem? (i := 48) rfl)
theorem wd49 {Z : State} {a0 : Array Value} (hw : HW Z a0) : Jvm.Cond.before (Jvm.Cond.code ({ cls := "java/lang/Math", name := "max", desc := "(II)I" } : Jvm.MethodName) jdk_29_method_65_code (2 : Nat) (Option.some Jvm.ClassFile.FieldType.int)) a0 Z = true := hw _ (List.mem_of_getElem? (i := 49) rfl)
theorem wd50 {Z : State} {a0 : Array Value} (hw : HW Z a0) : Jvm.Cond.before (Jvm.Cond.methodLink "com/example/hypermedia_forms/hypermediaforms/PatternTreeSubtreesPinLaw" (42 : Nat) ({ cls := "com/example/hypermedia_forms/hypermediaforms/PatternTree", name := "subtrees", desc := "(II)I" } : Jvm.MethodName)) a0 Z = true := hw _ (List.mem_of_getElem? (i := 50) rfl)
theorem wd51 {Z : State} {a0 : Array Value} (hw : HW Z a0) : Jvm.Cond.before (Jvm.Cond.declares ({ cls := "com/example/hypermedia_forms/hypermediaforms/PatternTree", name := "subtrees", desc := "(II)I" } : Jvm.MethodName)) a0 Z = true := hw _ (List.mem_of_getElem? (i := 51) rfl)
theorem wd52 {Z : State} {a0 : Array Value} (hw : HW Z a0) : Jvm.Cond.before (Jvm.Cond.instanceMethod ({ cls := "com/example/hypermedia_forms/hypermediaforms/PatternTree", name := "subtrees", desc := "(II)I" } : Jvm.MethodName)) a0 Z = true := hw _ (List.mem_of_getElem? (i := 52) rfl)
theorem wd53 {Z : State} {a0 : Array Value} (hw : HW Z a0) : Jvm.Cond.before (Jvm.Cond.selects "com/example/hypermedia_forms/hypermediaforms/PatternTree" ({ cls := "com/example/hypermedia_forms/hypermediaforms/PatternTree", name := "subtrees", desc := "(II)I" } : Jvm.MethodName) ({ cls := "com/example/hypermedia_forms/hypermediaforms/PatternTree", name := "subtrees", desc := "(II)I" } : Jvm.MethodName)) a0 Z = true := hw _ (List.mem_of_getElem? (i := 53) rfl)
theorem wd54 {Z : State} {a0 : Array Value} (hw : HW Z a0) : Jvm.Cond.before (Jvm.Cond.code ({ cls := "com/example/hypermedia_forms/hypermediaforms/PatternTree", name := "subtrees", desc := "(II)I" } : Jvm.MethodName) prog_45_method_9_code (5 : Nat) (Option.some Jvm.ClassFile.FieldType.int)) a0 Z = true := hw _ (List.mem_of_getElem? (i := 54) rfl)
theorem wd55 {Z : State} {a0 : Array Value} (hw : HW Z a0) : Jvm.Cond.before (Jvm.Cond.methodLink "com/example/hypermedia_forms/hypermediaforms/PatternTreeSubtreesPinLaw" (13 : Nat) ({ cls := "com/example/hypermedia_forms/hypermediaforms/PatternTree", name := "addEmpty", desc := "()I" } : Jvm.MethodName)) a0 Z = true := hw _ (List.mem_of_getElem? (i := 55) rfl)
theorem wd56 {Z : State} {a0 : Array Value} (hw : HW Z a0) : Jvm.Cond.before (Jvm.Cond.declares ({ cls := "com/example/hypermedia_forms/hypermediaforms/PatternTree", name := "addEmpty", desc := "()I" } : Jvm.MethodName)) a0 Z = true := hw _ (List.mem_of_getElem? (i := 56) rfl)
theorem wd57 {Z : State} {a0 : Array Value} (hw : HW Z a0) : Jvm.Cond.before (Jvm.Cond.instanceMethod ({ cls := "com/example/hypermedia_forms/hypermediaforms/PatternTree", name := "addEmpty", desc := "()I" } : Jvm.MethodName)) a0 Z = true := hw _ (List.mem_of_getElem? (i := 57) rfl)
theorem wd58 {Z : State} {a0 : Array Value} (hw : HW Z a0) : Jvm.Cond.before (Jvm.Cond.selects "com/example/hypermedia_forms/hypermediaforms/PatternTree" ({ cls := "com/example/hypermedia_forms/hypermediaforms/PatternTree", name := "addEmpty", desc := "()I" } : Jvm.MethodName) ({ cls := "com/example/hypermedia_forms/hypermediaforms/PatternTree", name := "addEmpty", desc := "()I" } : Jvm.MethodName)) a0 Z = true := hw _ (List.mem_of_getElem? (i := 58) rfl)
theorem wd59 {Z : State} {a0 : Array Value} (hw : HW Z a0) : Jvm.Cond.before (Jvm.Cond.code ({ cls := "com/example/hypermedia_forms/hypermediaforms/PatternTree", name := "addEmpty", desc := "()I" } : Jvm.MethodName) prog_45_method_7_code (1 : Nat) (Option.some Jvm.ClassFile.FieldType.int)) a0 Z = true := hw _ (List.mem_of_getElem? (i := 59) rfl)
theorem wd60 {Z : State} {a0 : Array Value} (hw : HW Z a0) : Jvm.Cond.before (Jvm.Cond.methodLink "com/example/hypermedia_forms/hypermediaforms/PatternTreeSubtreesPinLaw" (17 : Nat) ({ cls := "com/example/hypermedia_forms/hypermediaforms/PatternTree", name := "addParent", desc := "(BI)I" } : Jvm.MethodName)) a0 Z = true := hw _ (List.mem_of_getElem? (i := 60) rfl)
theorem wd61 {Z : State} {a0 : Array Value} (hw : HW Z a0) : Jvm.Cond.before (Jvm.Cond.declares ({ cls := "com/example/hypermedia_forms/hypermediaforms/PatternTree", name := "addParent", desc := "(BI)I" } : Jvm.MethodName)) a0 Z = true := hw _ (List.mem_of_getElem? (i := 61) rfl)
theorem wd62 {Z : State} {a0 : Array Value} (hw : HW Z a0) : Jvm.Cond.before (Jvm.Cond.instanceMethod ({ cls := "com/example/hypermedia_forms/hypermediaforms/PatternTree", name := "addParent", desc := "(BI)I" } : Jvm.MethodName)) a0 Z = true := hw _ (List.mem_of_getElem? (i := 62) rfl)
theorem wd63 {Z : State} {a0 : Array Value} (hw : HW Z a0) : Jvm.Cond.before (Jvm.Cond.selects "com/example/hypermedia_forms/hypermediaforms/PatternTree" ({ cls := "com/example/hypermedia_forms/hypermediaforms/PatternTree", name := "addParent", desc := "(BI)I" } : Jvm.MethodName) ({ cls := "com/example/hypermedia_forms/hypermediaforms/PatternTree", name := "addParent", desc := "(BI)I" } : Jvm.MethodName)) a0 Z = true := hw _ (List.mem_of_getElem? (i := 63) rfl)
theorem wd64 {Z : State} {a0 : Array Value} (hw : HW Z a0) : Jvm.Cond.before (Jvm.Cond.code ({ cls := "com/example/hypermedia_forms/hypermediaforms/PatternTree", name := "addParent", desc := "(BI)I" } : Jvm.MethodName) prog_45_method_8_code (3 : Nat) (Option.some Jvm.ClassFile.FieldType.int)) a0 Z = true := hw _ (List.mem_of_getElem? (i := 64) rfl)
theorem pn0 : plainName "com/example/hypermedia_forms/hypermediaforms/PatternTree" = true := by first | (simp [plainName, overriddenIn]; done) | decide +kernel
theorem pn1 : plainName "com/example/hypermedia_forms/hypermediaforms/PatternTreeSubtreesPinLaw" = true := by first | (simp [plainName, overriddenIn]; done) | decide +kernel
theorem pd0 : parseMethodDescriptor "(I)V" = some ⟨[.int], none⟩ := by decide +kernel
theorem pd1 : parseMethodDescriptor "(BI[I)I" = some ⟨[.byte, .int, (.array .int)], some .int⟩ := by decide +kernel
theorem pd2 : parseMethodDescriptor "([I)I" = some ⟨[(.array .int)], some .int⟩ := by decide +kernel
theorem pd3 : parseMethodDescriptor "(BI)I" = some ⟨[.byte, .int], some .int⟩ := by decide +kernel
theorem pd4 : parseMethodDescriptor "()I" = some ⟨[], some .int⟩ := by decide +kernel
theorem pd5 : parseMethodDescriptor "()V" = some ⟨[], none⟩ := by decide +kernel
theorem pd6 : parseMethodDescriptor "(Lcom/example/hypermedia_forms/hypermediaforms/PatternTree;I[I)V" = some ⟨[(.object "com/example/hypermedia_forms/hypermediaforms/PatternTree"), .int, (.array .int)], none⟩ := by decide +kernel
theorem pd7 : parseMethodDescriptor "(I)I" = some ⟨[.int], some .int⟩ := by decide +kernel
theorem pd8 : parseMethodDescriptor "(II)I" = some ⟨[.int, .int], some .int⟩ := by decide +kernel
theorem d_jdk_29_method_65_code_0 : decode jdk_29_method_65_code 0 = .ok (.iload_n 0, 1) := by decide +kernel
theorem d_jdk_29_method_65_code_1 : decode jdk_29_method_65_code 1 = .ok (.iload_n 1, 1) := by decide +kernel
theorem d_jdk_29_method_65_code_2 : decode jdk_29_method_65_code 2 = .ok (.if_icmp .lt 7, 3) := by decide +kernel
theorem d_jdk_29_method_65_code_5 : decode jdk_29_method_65_code 5 = .ok (.iload_n 0, 1) := by decide +kernel
theorem d_jdk_29_method_65_code_6 : decode jdk_29_method_65_code 6 = .ok (.goto 4, 3) := by decide +kernel
theorem d_jdk_29_method_65_code_9 : decode jdk_29_method_65_code 9 = .ok (.iload_n 1, 1) := by decide +kernel
theorem d_jdk_29_method_65_code_10 : decode jdk_29_method_65_code 10 = .ok (.ireturn, 1) := by decide +kernel
theorem d_jdk_29_method_69_code_0 : decode jdk_29_method_69_code 0 = .ok (.iload_n 0, 1) := by decide +kernel
theorem d_jdk_29_method_69_code_1 : decode jdk_29_method_69_code 1 = .ok (.iload_n 1, 1) := by decide +kernel
theorem d_jdk_29_method_69_code_2 : decode jdk_29_method_69_code 2 = .ok (.if_icmp .gt 7, 3) := by decide +kernel
theorem d_jdk_29_method_69_code_5 : decode jdk_29_method_69_code 5 = .ok (.iload_n 0, 1) := by decide +kernel
theorem d_jdk_29_method_69_code_6 : decode jdk_29_method_69_code 6 = .ok (.goto 4, 3) := by decide +kernel
theorem d_jdk_29_method_69_code_9 : decode jdk_29_method_69_code 9 = .ok (.iload_n 1, 1) := by decide +kernel
theorem d_jdk_29_method_69_code_10 : decode jdk_29_method_69_code 10 = .ok (.ireturn, 1) := by decide +kernel
theorem d_method_2_code_0 : decode method_2_code 0 = .ok (.iload_n 0, 1) := by decide +kernel
theorem d_method_2_code_1 : decode method_2_code 1 = .ok (.ifCond .ne 5, 3) := by decide +kernel
theorem d_method_2_code_4 : decode method_2_code 4 = .ok (.iconst 1, 1) := by decide +kernel
theorem d_method_2_code_5 : decode method_2_code 5 = .ok (.ireturn, 1) := by decide +kernel
theorem d_method_2_code_6 : decode method_2_code 6 = .ok (.iload_n 0, 1) := by decide +kernel
theorem d_method_2_code_7 : decode method_2_code 7 = .ok (.iconst 1, 1) := by decide +kernel
theorem d_method_2_code_8 : decode method_2_code 8 = .ok (.if_icmp .ne 5, 3) := by decide +kernel
theorem d_method_2_code_11 : decode method_2_code 11 = .ok (.iconst 1, 1) := by decide +kernel
theorem d_method_2_code_12 : decode method_2_code 12 = .ok (.ireturn, 1) := by decide +kernel
theorem d_method_2_code_13 : decode method_2_code 13 = .ok (.iload_n 0, 1) := by decide +kernel
theorem d_method_2_code_14 : decode method_2_code 14 = .ok (.iconst 2, 1) := by decide +kernel
theorem d_method_2_code_15 : decode method_2_code 15 = .ok (.if_icmp .ne 5, 3) := by decide +kernel
theorem d_method_2_code_18 : decode method_2_code 18 = .ok (.iconst 2, 1) := by decide +kernel
theorem d_method_2_code_19 : decode method_2_code 19 = .ok (.ireturn, 1) := by decide +kernel
theorem d_method_2_code_20 : decode method_2_code 20 = .ok (.iconst 3, 1) := by decide +kernel
theorem d_method_2_code_21 : decode method_2_code 21 = .ok (.ireturn, 1) := by decide +kernel
theorem d_method_3_code_0 : decode method_3_code 0 = .ok (.iload_n 1, 1) := by decide +kernel
theorem d_method_3_code_1 : decode method_3_code 1 = .ok (.ifCond .ne 12, 3) := by decide +kernel
theorem d_method_3_code_4 : decode method_3_code 4 = .ok (.aload_n 0, 1) := by decide +kernel
theorem d_method_3_code_5 : decode method_3_code 5 = .ok (.aload_n 2, 1) := by decide +kernel
theorem d_method_3_code_6 : decode method_3_code 6 = .ok (.invokevirtual 7, 3) := by decide +kernel
theorem d_method_3_code_9 : decode method_3_code 9 = .ok (.pop, 1) := by decide +kernel
theorem d_method_3_code_10 : decode method_3_code 10 = .ok (.goto 56, 3) := by decide +kernel
theorem d_method_3_code_13 : decode method_3_code 13 = .ok (.iload_n 1, 1) := by decide +kernel
theorem d_method_3_code_14 : decode method_3_code 14 = .ok (.iconst 1, 1) := by decide +kernel
theorem d_method_3_code_15 : decode method_3_code 15 = .ok (.if_icmp .ne 11, 3) := by decide +kernel
theorem d_method_3_code_18 : decode method_3_code 18 = .ok (.aload_n 0, 1) := by decide +kernel
theorem d_method_3_code_19 : decode method_3_code 19 = .ok (.invokevirtual 13, 3) := by decide +kernel
theorem d_method_3_code_22 : decode method_3_code 22 = .ok (.pop, 1) := by decide +kernel
theorem d_method_3_code_23 : decode method_3_code 23 = .ok (.goto 43, 3) := by decide +kernel
theorem d_method_3_code_26 : decode method_3_code 26 = .ok (.iload_n 1, 1) := by decide +kernel
theorem d_method_3_code_27 : decode method_3_code 27 = .ok (.iconst 2, 1) := by decide +kernel
theorem d_method_3_code_28 : decode method_3_code 28 = .ok (.if_icmp .ne 19, 3) := by decide +kernel
theorem d_method_3_code_31 : decode method_3_code 31 = .ok (.aload_n 0, 1) := by decide +kernel
theorem d_method_3_code_32 : decode method_3_code 32 = .ok (.aload_n 2, 1) := by decide +kernel
theorem d_method_3_code_33 : decode method_3_code 33 = .ok (.invokevirtual 7, 3) := by decide +kernel
theorem d_method_3_code_36 : decode method_3_code 36 = .ok (.istore_n 3, 1) := by decide +kernel
theorem d_method_3_code_37 : decode method_3_code 37 = .ok (.aload_n 0, 1) := by decide +kernel
theorem d_method_3_code_38 : decode method_3_code 38 = .ok (.iconst 4, 1) := by decide +kernel
theorem d_method_3_code_39 : decode method_3_code 39 = .ok (.iload_n 3, 1) := by decide +kernel
theorem d_method_3_code_40 : decode method_3_code 40 = .ok (.invokevirtual 17, 3) := by decide +kernel
theorem d_method_3_code_43 : decode method_3_code 43 = .ok (.pop, 1) := by decide +kernel
theorem d_method_3_code_44 : decode method_3_code 44 = .ok (.goto 22, 3) := by decide +kernel
theorem d_method_3_code_47 : decode method_3_code 47 = .ok (.aload_n 0, 1) := by decide +kernel
theorem d_method_3_code_48 : decode method_3_code 48 = .ok (.aload_n 2, 1) := by decide +kernel
theorem d_method_3_code_49 : decode method_3_code 49 = .ok (.invokevirtual 7, 3) := by decide +kernel
theorem d_method_3_code_52 : decode method_3_code 52 = .ok (.istore_n 3, 1) := by decide +kernel
theorem d_method_3_code_53 : decode method_3_code 53 = .ok (.aload_n 0, 1) := by decide +kernel
theorem d_method_3_code_54 : decode method_3_code 54 = .ok (.aload_n 2, 1) := by decide +kernel
theorem d_method_3_code_55 : decode method_3_code 55 = .ok (.invokevirtual 7, 3) := by decide +kernel
theorem d_method_3_code_58 : decode method_3_code 58 = .ok (.pop, 1) := by decide +kernel
theorem d_method_3_code_59 : decode method_3_code 59 = .ok (.aload_n 0, 1) := by decide +kernel
theorem d_method_3_code_60 : decode method_3_code 60 = .ok (.iconst 2, 1) := by decide +kernel
theorem d_method_3_code_61 : decode method_3_code 61 = .ok (.iload_n 3, 1) := by decide +kernel
theorem d_method_3_code_62 : decode method_3_code 62 = .ok (.invokevirtual 17, 3) := by decide +kernel
theorem d_method_3_code_65 : decode method_3_code 65 = .ok (.pop, 1) := by decide +kernel
theorem d_method_3_code_66 : decode method_3_code 66 = .ok (.return_, 1) := by decide +kernel
theorem d_prog_45_method_12_code_0 : decode prog_45_method_12_code 0 = .ok (.aload_n 0, 1) := by decide +kernel
theorem d_prog_45_method_12_code_1 : decode prog_45_method_12_code 1 = .ok (.iconst 1, 1) := by decide +kernel
theorem d_prog_45_method_12_code_2 : decode prog_45_method_12_code 2 = .ok (.invokevirtual 41, 3) := by decide +kernel
theorem d_prog_45_method_12_code_5 : decode prog_45_method_12_code 5 = .ok (.aload_n 0, 1) := by decide +kernel
theorem d_prog_45_method_12_code_6 : decode prog_45_method_12_code 6 = .ok (.getfield 7, 3) := by decide +kernel
theorem d_prog_45_method_12_code_9 : decode prog_45_method_12_code 9 = .ok (.aload_n 0, 1) := by decide +kernel
theorem d_prog_45_method_12_code_10 : decode prog_45_method_12_code 10 = .ok (.getfield 22, 3) := by decide +kernel
theorem d_prog_45_method_12_code_13 : decode prog_45_method_12_code 13 = .ok (.iload_n 1, 1) := by decide +kernel
theorem d_prog_45_method_12_code_14 : decode prog_45_method_12_code 14 = .ok (.bastore, 1) := by decide +kernel
theorem d_prog_45_method_12_code_15 : decode prog_45_method_12_code 15 = .ok (.aload_n 0, 1) := by decide +kernel
theorem d_prog_45_method_12_code_16 : decode prog_45_method_12_code 16 = .ok (.getfield 13, 3) := by decide +kernel
theorem d_prog_45_method_12_code_19 : decode prog_45_method_12_code 19 = .ok (.aload_n 0, 1) := by decide +kernel
theorem d_prog_45_method_12_code_20 : decode prog_45_method_12_code 20 = .ok (.getfield 22, 3) := by decide +kernel
theorem d_prog_45_method_12_code_23 : decode prog_45_method_12_code 23 = .ok (.iload_n 2, 1) := by decide +kernel
theorem d_prog_45_method_12_code_24 : decode prog_45_method_12_code 24 = .ok (.iastore, 1) := by decide +kernel
theorem d_prog_45_method_12_code_25 : decode prog_45_method_12_code 25 = .ok (.aload_n 0, 1) := by decide +kernel
theorem d_prog_45_method_12_code_26 : decode prog_45_method_12_code 26 = .ok (.getfield 18, 3) := by decide +kernel
theorem d_prog_45_method_12_code_29 : decode prog_45_method_12_code 29 = .ok (.aload_n 0, 1) := by decide +kernel
theorem d_prog_45_method_12_code_30 : decode prog_45_method_12_code 30 = .ok (.getfield 22, 3) := by decide +kernel
theorem d_prog_45_method_12_code_33 : decode prog_45_method_12_code 33 = .ok (.aload_n 3, 1) := by decide +kernel
theorem d_prog_45_method_12_code_34 : decode prog_45_method_12_code 34 = .ok (.aastore, 1) := by decide +kernel
theorem d_prog_45_method_12_code_35 : decode prog_45_method_12_code 35 = .ok (.aload_n 0, 1) := by decide +kernel
theorem d_prog_45_method_12_code_36 : decode prog_45_method_12_code 36 = .ok (.dup, 1) := by decide +kernel
theorem d_prog_45_method_12_code_37 : decode prog_45_method_12_code 37 = .ok (.getfield 22, 3) := by decide +kernel
theorem d_prog_45_method_12_code_40 : decode prog_45_method_12_code 40 = .ok (.dup_x1, 1) := by decide +kernel
theorem d_prog_45_method_12_code_41 : decode prog_45_method_12_code 41 = .ok (.iconst 1, 1) := by decide +kernel
theorem d_prog_45_method_12_code_42 : decode prog_45_method_12_code 42 = .ok (.iadd, 1) := by decide +kernel
theorem d_prog_45_method_12_code_43 : decode prog_45_method_12_code 43 = .ok (.putfield 22, 3) := by decide +kernel
theorem d_prog_45_method_12_code_46 : decode prog_45_method_12_code 46 = .ok (.ireturn, 1) := by decide +kernel
theorem d_prog_45_method_13_code_0 : decode prog_45_method_13_code 0 = .ok (.aload_n 0, 1) := by decide +kernel
theorem d_prog_45_method_13_code_1 : decode prog_45_method_13_code 1 = .ok (.getfield 22, 3) := by decide +kernel
theorem d_prog_45_method_13_code_4 : decode prog_45_method_13_code 4 = .ok (.iload_n 1, 1) := by decide +kernel
theorem d_prog_45_method_13_code_5 : decode prog_45_method_13_code 5 = .ok (.iadd, 1) := by decide +kernel
theorem d_prog_45_method_13_code_6 : decode prog_45_method_13_code 6 = .ok (.aload_n 0, 1) := by decide +kernel
theorem d_prog_45_method_13_code_7 : decode prog_45_method_13_code 7 = .ok (.getfield 7, 3) := by decide +kernel
theorem d_prog_45_method_13_code_10 : decode prog_45_method_13_code 10 = .ok (.arraylength, 1) := by decide +kernel
theorem d_prog_45_method_13_code_11 : decode prog_45_method_13_code 11 = .ok (.if_icmp .gt 4, 3) := by decide +kernel
theorem d_prog_45_method_13_code_14 : decode prog_45_method_13_code 14 = .ok (.return_, 1) := by decide +kernel
theorem d_prog_45_method_1_code_0 : decode prog_45_method_1_code 0 = .ok (.aload_n 0, 1) := by decide +kernel
theorem d_prog_45_method_1_code_1 : decode prog_45_method_1_code 1 = .ok (.invokespecial 1, 3) := by decide +kernel
theorem d_prog_45_method_1_code_4 : decode prog_45_method_1_code 4 = .ok (.aload_n 0, 1) := by decide +kernel
theorem d_prog_45_method_1_code_5 : decode prog_45_method_1_code 5 = .ok (.bipush 16, 2) := by decide +kernel
theorem d_prog_45_method_1_code_7 : decode prog_45_method_1_code 7 = .ok (.newarray .byte, 2) := by decide +kernel
theorem d_prog_45_method_1_code_9 : decode prog_45_method_1_code 9 = .ok (.putfield 7, 3) := by decide +kernel
theorem d_prog_45_method_1_code_12 : decode prog_45_method_1_code 12 = .ok (.aload_n 0, 1) := by decide +kernel
theorem d_prog_45_method_1_code_13 : decode prog_45_method_1_code 13 = .ok (.bipush 16, 2) := by decide +kernel
theorem d_prog_45_method_1_code_15 : decode prog_45_method_1_code 15 = .ok (.newarray .int, 2) := by decide +kernel
theorem d_prog_45_method_1_code_17 : decode prog_45_method_1_code 17 = .ok (.putfield 13, 3) := by decide +kernel
theorem d_prog_45_method_1_code_20 : decode prog_45_method_1_code 20 = .ok (.aload_n 0, 1) := by decide +kernel
theorem d_prog_45_method_1_code_21 : decode prog_45_method_1_code 21 = .ok (.bipush 16, 2) := by decide +kernel
theorem d_prog_45_method_1_code_23 : decode prog_45_method_1_code 23 = .ok (.anewarray 17, 3) := by decide +kernel
theorem d_prog_45_method_1_code_26 : decode prog_45_method_1_code 26 = .ok (.putfield 18, 3) := by decide +kernel
theorem d_prog_45_method_1_code_29 : decode prog_45_method_1_code 29 = .ok (.return_, 1) := by decide +kernel
theorem d_prog_45_method_6_code_0 : decode prog_45_method_6_code 0 = .ok (.aload_n 0, 1) := by decide +kernel
theorem d_prog_45_method_6_code_1 : decode prog_45_method_6_code 1 = .ok (.iconst 0, 1) := by decide +kernel
theorem d_prog_45_method_6_code_2 : decode prog_45_method_6_code 2 = .ok (.aload_n 0, 1) := by decide +kernel
theorem d_prog_45_method_6_code_3 : decode prog_45_method_6_code 3 = .ok (.getfield 22, 3) := by decide +kernel
theorem d_prog_45_method_6_code_6 : decode prog_45_method_6_code 6 = .ok (.aload_n 1, 1) := by decide +kernel
theorem d_prog_45_method_6_code_7 : decode prog_45_method_6_code 7 = .ok (.invokevirtual 26, 3) := by decide +kernel
theorem d_prog_45_method_6_code_10 : decode prog_45_method_6_code 10 = .ok (.ireturn, 1) := by decide +kernel
theorem d_prog_45_method_7_code_0 : decode prog_45_method_7_code 0 = .ok (.aload_n 0, 1) := by decide +kernel
theorem d_prog_45_method_7_code_1 : decode prog_45_method_7_code 1 = .ok (.iconst 1, 1) := by decide +kernel
theorem d_prog_45_method_7_code_2 : decode prog_45_method_7_code 2 = .ok (.aload_n 0, 1) := by decide +kernel
theorem d_prog_45_method_7_code_3 : decode prog_45_method_7_code 3 = .ok (.getfield 22, 3) := by decide +kernel
theorem d_prog_45_method_7_code_6 : decode prog_45_method_7_code 6 = .ok (.aconst_null, 1) := by decide +kernel
theorem d_prog_45_method_7_code_7 : decode prog_45_method_7_code 7 = .ok (.invokevirtual 26, 3) := by decide +kernel
theorem d_prog_45_method_7_code_10 : decode prog_45_method_7_code 10 = .ok (.ireturn, 1) := by decide +kernel
theorem d_prog_45_method_8_code_0 : decode prog_45_method_8_code 0 = .ok (.aload_n 0, 1) := by decide +kernel
theorem d_prog_45_method_8_code_1 : decode prog_45_method_8_code 1 = .ok (.iload_n 1, 1) := by decide +kernel
theorem d_prog_45_method_8_code_2 : decode prog_45_method_8_code 2 = .ok (.iload_n 2, 1) := by decide +kernel
theorem d_prog_45_method_8_code_3 : decode prog_45_method_8_code 3 = .ok (.aconst_null, 1) := by decide +kernel
theorem d_prog_45_method_8_code_4 : decode prog_45_method_8_code 4 = .ok (.invokevirtual 26, 3) := by decide +kernel
theorem d_prog_45_method_8_code_7 : decode prog_45_method_8_code 7 = .ok (.ireturn, 1) := by decide +kernel
theorem d_prog_45_method_9_code_0 : decode prog_45_method_9_code 0 = .ok (.iconst 0, 1) := by decide +kernel
theorem d_prog_45_method_9_code_1 : decode prog_45_method_9_code 1 = .ok (.istore_n 3, 1) := by decide +kernel
theorem d_prog_45_method_9_code_2 : decode prog_45_method_9_code 2 = .ok (.iload_n 2, 1) := by decide +kernel
theorem d_prog_45_method_9_code_3 : decode prog_45_method_9_code 3 = .ok (.iconst 1, 1) := by decide +kernel
theorem d_prog_45_method_9_code_4 : decode prog_45_method_9_code 4 = .ok (.isub, 1) := by decide +kernel
theorem d_prog_45_method_9_code_5 : decode prog_45_method_9_code 5 = .ok (.istore 4, 2) := by decide +kernel
theorem d_prog_45_method_9_code_7 : decode prog_45_method_9_code 7 = .ok (.iload 4, 2) := by decide +kernel
theorem d_prog_45_method_9_code_9 : decode prog_45_method_9_code 9 = .ok (.iload_n 1, 1) := by decide +kernel
theorem d_prog_45_method_9_code_10 : decode prog_45_method_9_code 10 = .ok (.if_icmp .lt 20, 3) := by decide +kernel
theorem d_prog_45_method_9_code_13 : decode prog_45_method_9_code 13 = .ok (.iinc 3 1, 3) := by decide +kernel
theorem d_prog_45_method_9_code_16 : decode prog_45_method_9_code 16 = .ok (.aload_n 0, 1) := by decide +kernel
theorem d_prog_45_method_9_code_17 : decode prog_45_method_9_code 17 = .ok (.getfield 13, 3) := by decide +kernel
theorem d_prog_45_method_9_code_20 : decode prog_45_method_9_code 20 = .ok (.iload 4, 2) := by decide +kernel
theorem d_prog_45_method_9_code_22 : decode prog_45_method_9_code 22 = .ok (.iaload, 1) := by decide +kernel
theorem d_prog_45_method_9_code_23 : decode prog_45_method_9_code 23 = .ok (.iconst 1, 1) := by decide +kernel
theorem d_prog_45_method_9_code_24 : decode prog_45_method_9_code 24 = .ok (.isub, 1) := by decide +kernel
theorem d_prog_45_method_9_code_25 : decode prog_45_method_9_code 25 = .ok (.istore 4, 2) := by decide +kernel
theorem d_prog_45_method_9_code_27 : decode prog_45_method_9_code 27 = .ok (.goto (-20), 3) := by decide +kernel
theorem d_prog_45_method_9_code_30 : decode prog_45_method_9_code 30 = .ok (.iload_n 3, 1) := by decide +kernel
theorem d_prog_45_method_9_code_31 : decode prog_45_method_9_code 31 = .ok (.ireturn, 1) := by decide +kernel
theorem own_toInt {i : Nat} (h : i < 2147483648) : i.toInt32.toInt = i := len_toInt (by omega)
theorem own_clamp {i : Nat} (h : i < 2147483648) : i.toInt32.toNatClampNeg = i := by
  simp only [Int32.toNatClampNeg]
  rw [own_toInt h]
  omega
theorem own_ltn {i n : Nat} (hi : i < 2147483648) (hn : n < 2147483648) : i.toInt32 < n.toInt32 ↔ i < n := by
  rw [Int32.lt_iff_toInt_lt, own_toInt hi, own_toInt hn]
  omega
theorem own_inb {i n : Nat} (h : i < n) (hn : n < 2147483648) : ¬ i.toInt32 < 0 ∧ i.toInt32 < n.toInt32 := by
  refine ⟨?_, (own_ltn (by omega) hn).mpr h⟩
  rw [Int32.lt_iff_toInt_lt, own_toInt (by omega)]
  have e0 : (0 : Int32).toInt = 0 := rfl
  omega
theorem own_incN {i : Nat} (h : i < 2147483647) : i.toInt32 + 1 = (i + 1).toInt32 := by
  rw [← Int32.toInt_inj, own_toInt (i := i + 1) (by omega)]
  have a := c_iadd i.toInt32 1
  have r := rng32 (i.toInt32 + 1)
  have e1 : (1 : Int32).toInt = 1 := rfl
  rw [own_toInt (i := i) (by omega), e1] at a
  omega
theorem own_getD (bs : List Int32) (i : Nat) : (bs.map Value.int).getD i (.int 0) = .int (bs.getD i 0) := by
  simp only [List.getD_eq_getElem?_getD, List.getElem?_map]
  cases bs[i]? <;> rfl
theorem own_at {bs : List Int32} {i : Nat} (h : i < 2147483648) : (bs.map Value.int).getD i.toInt32.toNatClampNeg (.int 0) = .int (bs.getD i 0) := by
  rw [own_clamp h, own_getD]
theorem own_take {a b : List Int32} {i : Nat} (h : a.take i = b.take i) (ha : i < a.length) (hb : i < b.length) (q : a.getD i 0 = b.getD i 0) : a.take (i + 1) = b.take (i + 1) := by
  rw [List.take_add_one, List.take_add_one, h]
  simp only [List.getD_eq_getElem?_getD, List.getElem?_eq_getElem ha, List.getElem?_eq_getElem hb, Option.getD_some] at q
  rw [List.getElem?_eq_getElem ha, List.getElem?_eq_getElem hb, q]
theorem own_sub {i n : Nat} (h : i ≤ n) (hn : n < 2147483648) : n.toInt32 - i.toInt32 = (n - i).toInt32 := by
  rw [← Int32.toInt_inj, own_toInt (i := n - i) (by omega)]
  have a := c_isub n.toInt32 i.toInt32
  have r := rng32 (n.toInt32 - i.toInt32)
  rw [own_toInt (i := i) (by omega), own_toInt hn] at a
  omega
/-- the array of the first places -/
def own_row (fs : List Nat) : List Value := (List.range 16).map fun k => Value.int (fs.getD k 0).toInt32
theorem own_row_len (fs : List Nat) : (own_row fs).length = 16 := by simp [own_row]
theorem own_row_set {fs : List Nat} (f : Nat) (h : fs.length < 16) : (own_row fs).set fs.length (.int f.toInt32) = own_row (fs ++ [f]) := by
  apply List.ext_getElem
  · simp [own_row]
  · intro k h1 h2
    rw [List.getElem_set]
    simp only [own_row, List.getElem_map, List.getElem_range]
    by_cases q : fs.length = k
    · subst q
      simp
    · simp only [q, if_false, List.getD_eq_getElem?_getD]
      by_cases r : k < fs.length
      · rw [List.getElem?_append_left r]
      · rw [List.getElem?_eq_none (by omega), List.getElem?_eq_none (by simp; omega)]
theorem own_row_at {fs : List Nat} {k : Nat} (h : k < 16) : (own_row fs).getD k (.int 0) = .int (fs.getD k 0).toInt32 := by
  simp [own_row, List.getD_eq_getElem?_getD, h]
theorem own_row_nil : own_row [] = List.replicate 16 (.int 0) := by rfl
/-- a PatternTree of these first places -/
def PT (Z : State) (h : Heap) (t ak af ax : Addr) (kk kf kx : ClassId) (fs : List Nat) : Prop :=
  Exa Z h t "com/example/hypermedia_forms/hypermediaforms/PatternTree" ∧ Fld Z h t "com/example/hypermedia_forms/hypermediaforms/PatternTree" "kinds" "[B" (.ref ak) ∧ Fld Z h t "com/example/hypermedia_forms/hypermediaforms/PatternTree" "firsts" "[I" (.ref af) ∧ Fld Z h t "com/example/hypermedia_forms/hypermediaforms/PatternTree" "sets" "[[I" (.ref ax) ∧ Fld Z h t "com/example/hypermedia_forms/hypermediaforms/PatternTree" "size" "I" (.int fs.length.toInt32) ∧
  (∃ vs, vs.length = 16 ∧ Arv Z h ak kk .byte 16 vs (.int 0)) ∧ Arv Z h af kf .int 16 (own_row fs) (.int 0) ∧ ∃ vs, vs.length = 16 ∧ Arv Z h ax kx (.array .int) 16 vs .null
/-- its four cells are new ones, and unlike -/
def PD (Z : State) (t ak af ax : Addr) : Prop := (Z.heap.size ≤ t ∧ Z.heap.size ≤ ak ∧ Z.heap.size ≤ af ∧ Z.heap.size ≤ ax) ∧ t ≠ ak ∧ t ≠ af ∧ t ≠ ax ∧ ak ≠ af ∧ ak ≠ ax ∧ af ≠ ax
def own_app (fs : List Nat) (sh : Int32) : List Nat :=
  if sh = 0 then fs ++ [fs.length] else if sh = 1 then fs ++ [fs.length] else if sh = 2 then (fs ++ [fs.length]) ++ [fs.length] else ((fs ++ [fs.length]) ++ [(fs ++ [fs.length]).length]) ++ [fs.length]
theorem own_app_len (fs : List Nat) (sh : Int32) : (own_app fs sh).length ≤ fs.length + 3 := by
  unfold own_app
  split
  · simp
  · split
    · simp
    · split <;> simp
def own_ln (sh : Int32) : Nat := if sh = 0 then 1 else if sh = 1 then 1 else if sh = 2 then 2 else 3
def own_cnt (fs : List Nat) (lo : Nat) : Nat → Nat → Nat
  | 0, _ => 0
  | f + 1, j => if j ≤ lo then 0 else own_cnt fs lo f (fs.getD (j - 1) 0) + 1
theorem own_addN {i n : Nat} (h : i + n < 2147483648) : i.toInt32 + n.toInt32 = (i + n).toInt32 := by
  rw [← Int32.toInt_inj, own_toInt h]
  have a := c_iadd i.toInt32 n.toInt32
  have r := rng32 (i.toInt32 + n.toInt32)
  rw [own_toInt (i := i) (by omega), own_toInt (i := n) (by omega)] at a
  omega
theorem own_pred {j l : Nat} (hj : j < 2147483648) (hl : l < 2147483648) : j.toInt32 - 1 < l.toInt32 ↔ j ≤ l := by
  have a := c_isub j.toInt32 1
  have r := rng32 (j.toInt32 - 1)
  have e1 : (1 : Int32).toInt = 1 := rfl
  rw [own_toInt hj, e1] at a
  rw [Int32.lt_iff_toInt_lt, own_toInt hl]
  omega
theorem own_predI {j : Nat} (h0 : 0 < j) (hj : j ≤ 16) : (¬ j.toInt32 - 1 < 0 ∧ j.toInt32 - 1 < 16) ∧ (j.toInt32 - 1).toNatClampNeg = j - 1 := by
  have a := c_isub j.toInt32 1
  have r := rng32 (j.toInt32 - 1)
  have e0 : (0 : Int32).toInt = 0 := rfl
  have e1 : (1 : Int32).toInt = 1 := rfl
  have e16 : (16 : Int32).toInt = 16 := rfl
  rw [own_toInt (by omega), e1] at a
  rw [Int32.lt_iff_toInt_lt, Int32.lt_iff_toInt_lt]
  refine ⟨by omega, ?_⟩
  simp only [Int32.toNatClampNeg]
  omega
theorem own_max {n : Nat} (h : n < 16) : ¬ 16 < n.toInt32 + 1 := by
  rw [own_incN (by omega), Int32.lt_iff_toInt_lt, own_toInt (by omega)]
  have e16 : (16 : Int32).toInt = 16 := rfl
  omega
theorem own_in16 {n : Nat} (h : n < 16) : ¬ n.toInt32 < 0 ∧ n.toInt32 < 16 := own_inb (n := 16) h (by omega)
set_option maxRecDepth 65536 in
set_option maxHeartbeats 4000000 in
theorem rm_reserve {l : Launch} {Z : State} {a0 : Array Value} (hw : HW Z a0) (t : Addr) (ak : Addr) (kk : ClassId) (n : Nat) (vs : List Value) {h0 : Heap} (hE : Ext Z.heap h0) (hn : n < 16) (Fk : Fld Z h0 t "com/example/hypermedia_forms/hypermediaforms/PatternTree" "kinds" "[B" (.ref ak)) (Fz : Fld Z h0 t "com/example/hypermedia_forms/hypermediaforms/PatternTree" "size" "I" (.int n.toInt32)) (Vk : Arv Z h0 ak kk .byte 16 vs (.int 0)) :
    OMeets l Z (⟨"com/example/hypermedia_forms/hypermediaforms/PatternTree", "reserve", "(I)V"⟩ : MethodName) prog_45_method_13_code 3 none ({ frames := 0, cells := 0, slots := 0, locals := 0 } : Room) #[(.ref t), (.int (1 : Int32))] h0 [] (fun v h => v = none ∧ h0 = h) := by
  refine OMeets.body (plainFor_of_name pn0) hE #[.val (.ref t), .val (.int (1 : Int32)), .unset] (fun m => by first | rfl | (simp [entryFrame, mkF, argsToLocals, Value.category, maxLocals]; done)) ?_
  intro p e s m below meth co T S
  refine Go.aloadN S d_prog_45_method_13_code_0 rfl rfl (pc' := 1) rfl ?_
  refine Go.getfield S (host := "") (Or.inl (wd28 hw)) Via.refl Fz d_prog_45_method_13_code_1 (pc' := 4) rfl ?_
  intro T1 S1
  refine Go.iloadN S1 d_prog_45_method_13_code_4 rfl (pc' := 5) rfl ?_
  refine Go.iadd S1 d_prog_45_method_13_code_5 (pc' := 6) rfl ?_
  refine Go.aloadN S1 d_prog_45_method_13_code_6 rfl rfl (pc' := 7) rfl ?_
  refine Go.getfield S1 (host := "") (Or.inl (wd11 hw)) Via.refl Fk d_prog_45_method_13_code_7 (pc' := 10) rfl ?_
  intro T2 S2
  refine Go.arraylength S2 Vk d_prog_45_method_13_code_10 (pc' := 11) rfl ?_
  refine Go.icmp_gt S2 d_prog_45_method_13_code_11 (pt := 15) (by decide) (pc' := 14) rfl ?_ ?_
  · intro c11; exact absurd c11 (own_max hn)
  · intro c11
    exact Go.vreturn S2 rfl d_prog_45_method_13_code_14 (by decide) (by decide) (⟨rfl, rfl⟩)
set_option maxRecDepth 65536 in
set_option maxHeartbeats 4000000 in
theorem rm_add {l : Launch} {Z : State} {a0 : Array Value} (hw : HW Z a0) (t : Addr) (kd : Int32) (w : Value) (ak af ax : Addr) (kk kf kx : ClassId) (fs : List Nat) (f : Nat) (hn : fs.length < 16) (hr : w.isRef = true) (hfw : fits (.array .int) w = true) {h0 : Heap} (hE : Ext Z.heap h0) (D : PD Z t ak af ax) (Pt : PT Z h0 t ak af ax kk kf kx fs) (Sw : Sto Z h0 ax w) :
    OMeets l Z (⟨"com/example/hypermedia_forms/hypermediaforms/PatternTree", "add", "(BI[I)I"⟩ : MethodName) prog_45_method_12_code 4 (some .int) ({ frames := 1, cells := 0, slots := 0, locals := 14 } : Room) #[(.ref t), (.int kd), (.int f.toInt32), w] h0 [t, ak, af, ax] (fun v h => v = some (.int fs.length.toInt32) ∧ PT Z h t ak af ax kk kf kx (fs ++ [f])) := by
  refine OMeets.body (plainFor_of_name pn0) hE #[.val (.ref t), .val (.int kd), .val (.int f.toInt32), .val w] (fun m => by rcases ref_cases hr with rfl | ⟨a, rfl⟩ <;> rfl) ?_
  intro p e s m below meth co T S
  obtain ⟨E, Fk, Ff, Fs, Fz, ⟨kv, hkv, Vk⟩, Vf, ⟨xv, hxv, Vx⟩⟩ := Pt
  refine Go.aloadN S d_prog_45_method_12_code_0 rfl rfl (pc' := 1) rfl ?_
  refine Go.iconst S (v := 1) d_prog_45_method_12_code_1 rfl (pc' := 2) rfl ?_
  refine Go.invokeprivate S (y := ⟨"com/example/hypermedia_forms/hypermediaforms/PatternTree", "reserve", "(I)V"⟩) (rm_reserve hw t ak kk fs.length kv S.ext hn Fk Fz Vk) (wd34 hw) (wd35 hw) (wd36 hw) (wd2 hw) (wd3 hw) (wd37 hw) (by decide) E d_prog_45_method_12_code_2 rfl pd0 (argsL := [(.int (1 : Int32))]) rfl rfl rfl (by decide) (W := 0) rfl (by decide) (by decide) (by decide) all0 (pc' := 5) rfl ?_
  intro v1 T1 h1 L1 S1 K1 q1
  obtain ⟨rfl, rfl⟩ := q1
  show Go _ _ _ _ T1 (mkF m 5 #[.val (.ref t), .val (.int kd), .val (.int f.toInt32), .val w] [])
  refine Go.aloadN S1 d_prog_45_method_12_code_5 rfl rfl (pc' := 6) rfl ?_
  refine Go.getfield S1 (host := "") (Or.inl (wd11 hw)) Via.refl Fk d_prog_45_method_12_code_6 (pc' := 9) rfl ?_
  intro T2 S2
  refine Go.aloadN S2 d_prog_45_method_12_code_9 rfl rfl (pc' := 10) rfl ?_
  refine Go.getfield S2 (host := "") (Or.inl (wd28 hw)) Via.refl Fz d_prog_45_method_12_code_10 (pc' := 13) rfl ?_
  intro T3 S3
  refine Go.iloadN S3 d_prog_45_method_12_code_13 rfl (pc' := 14) rfl ?_
  refine Go.bastore S3 Vk (own_in16 hn) (i := fs.length) (own_clamp (by omega)) (by rw [hkv]; exact hn) D.1.2.1 (Or.inl (List.mem_of_getElem? (i := 1) rfl)) d_prog_45_method_12_code_14 (pc' := 15) rfl ?_
  intro T4 h4 L4 S4 W4 Q4
  replace E := E.wr W4
  replace Fk := Fk.other W4 (Or.inl (D.2.1))
  replace Ff := Ff.other W4 (Or.inl (D.2.1))
  replace Fs := Fs.other W4 (Or.inl (D.2.1))
  replace Fz := Fz.other W4 (Or.inl (D.2.1))
  replace Vf := Vf.other W4 ((Ne.symm D.2.2.2.2.1))
  replace Vx := Vx.other W4 ((Ne.symm D.2.2.2.2.2.1))
  replace Vk := Q4
  replace Sw := Sw.wr W4
  refine Go.aloadN S4 d_prog_45_method_12_code_15 rfl rfl (pc' := 16) rfl ?_
  refine Go.getfield S4 (host := "") (Or.inl (wd13 hw)) Via.refl Ff d_prog_45_method_12_code_16 (pc' := 19) rfl ?_
  intro T5 S5
  refine Go.aloadN S5 d_prog_45_method_12_code_19 rfl rfl (pc' := 20) rfl ?_
  refine Go.getfield S5 (host := "") (Or.inl (wd28 hw)) Via.refl Fz d_prog_45_method_12_code_20 (pc' := 23) rfl ?_
  intro T6 S6
  refine Go.iloadN S6 d_prog_45_method_12_code_23 rfl (pc' := 24) rfl ?_
  refine Go.iastore S6 Vf (own_in16 hn) (i := fs.length) (own_clamp (by omega)) (by rw [own_row_len]; exact hn) D.1.2.2.1 (Or.inl (List.mem_of_getElem? (i := 2) rfl)) d_prog_45_method_12_code_24 (pc' := 25) rfl ?_
  intro T7 h7 L7 S7 W7 Q7
  replace E := E.wr W7
  replace Fk := Fk.other W7 (Or.inl (D.2.2.1))
  replace Ff := Ff.other W7 (Or.inl (D.2.2.1))
  replace Fs := Fs.other W7 (Or.inl (D.2.2.1))
  replace Fz := Fz.other W7 (Or.inl (D.2.2.1))
  replace Vx := Vx.other W7 ((Ne.symm D.2.2.2.2.2.2))
  replace Vk := Vk.other W7 (D.2.2.2.2.1)
  rw [own_row_set f hn] at Q7
  replace Vf := Q7
  replace Sw := Sw.wr W7
  refine Go.aloadN S7 d_prog_45_method_12_code_25 rfl rfl (pc' := 26) rfl ?_
  refine Go.getfield S7 (host := "") (Or.inl (wd17 hw)) Via.refl Fs d_prog_45_method_12_code_26 (pc' := 29) rfl ?_
  intro T8 S8
  refine Go.aloadN S8 d_prog_45_method_12_code_29 rfl rfl (pc' := 30) rfl ?_
  refine Go.getfield S8 (host := "") (Or.inl (wd28 hw)) Via.refl Fz d_prog_45_method_12_code_30 (pc' := 33) rfl ?_
  intro T9 S9
  refine Go.aloadN S9 d_prog_45_method_12_code_33 rfl hr (pc' := 34) rfl ?_
  refine Go.aastore S9 Vx rfl (own_in16 hn) (i := fs.length) (own_clamp (by omega)) (by rw [hxv]; exact hn) hfw Sw D.1.2.2.2 (Or.inl (List.mem_of_getElem? (i := 3) rfl)) d_prog_45_method_12_code_34 (pc' := 35) rfl ?_
  intro T10 h10 L10 S10 W10 Q10
  replace E := E.wr W10
  replace Fk := Fk.other W10 (Or.inl (D.2.2.2.1))
  replace Ff := Ff.other W10 (Or.inl (D.2.2.2.1))
  replace Fs := Fs.other W10 (Or.inl (D.2.2.2.1))
  replace Fz := Fz.other W10 (Or.inl (D.2.2.2.1))
  replace Vk := Vk.other W10 (D.2.2.2.2.2.1)
  replace Vf := Vf.other W10 (D.2.2.2.2.2.2)
  replace Vx := Q10
  refine Go.aloadN S10 d_prog_45_method_12_code_35 rfl rfl (pc' := 36) rfl ?_
  refine Go.dup S10 d_prog_45_method_12_code_36 rfl (pc' := 37) rfl ?_
  refine Go.getfield S10 (host := "") (Or.inl (wd28 hw)) Via.refl Fz d_prog_45_method_12_code_37 (pc' := 40) rfl ?_
  intro T11 S11
  refine Go.dup_x1 S11 d_prog_45_method_12_code_40 rfl rfl (pc' := 41) rfl ?_
  refine Go.iconst S11 (v := 1) d_prog_45_method_12_code_41 rfl (pc' := 42) rfl ?_
  refine Go.iadd S11 d_prog_45_method_12_code_42 (pc' := 43) rfl ?_
  refine Go.putfield S11 (host := "") (Or.inl (wd28 hw)) Via.refl Fz E (Or.inl (wd29 hw)) (wd2 hw) (ty := .int) (by decide) rfl rfl D.1.1 (Or.inl (List.mem_of_getElem? (i := 0) rfl)) d_prog_45_method_12_code_43 (pc' := 46) rfl ?_
  intro T12 h12 L12 S12 W12
  have F12 := Fz.same W12
  replace Fk := Fk.other W12 (Or.inr (slot_ne (Or.inl (wd12 hw)) (Or.inl (wd29 hw)) (by decide) (t := (.array .byte)) (t' := .int) (by decide) (by decide)))
  replace Ff := Ff.other W12 (Or.inr (slot_ne (Or.inl (wd14 hw)) (Or.inl (wd29 hw)) (by decide) (t := (.array .int)) (t' := .int) (by decide) (by decide)))
  replace Fs := Fs.other W12 (Or.inr (slot_ne (Or.inl (wd18 hw)) (Or.inl (wd29 hw)) (by decide) (t := (.array (.array .int))) (t' := .int) (by decide) (by decide)))
  replace E := E.wr W12
  replace Vk := Vk.other W12 ((Ne.symm D.2.1))
  replace Vf := Vf.other W12 ((Ne.symm D.2.2.1))
  replace Vx := Vx.other W12 ((Ne.symm D.2.2.2.1))
  have Fz' : Fld Z h12 t "com/example/hypermedia_forms/hypermediaforms/PatternTree" "size" "I" (.int (fs ++ [f]).length.toInt32) := by rw [List.length_append]; show Fld _ _ _ _ _ _ (.int (fs.length + 1).toInt32); rw [← own_incN (by omega)]; exact F12
  exact Go.ireturn S12 rfl d_prog_45_method_12_code_46 (by decide) (by decide) (⟨rfl, E, Fk, Ff, Fs, Fz', ⟨_, List.length_set.trans hkv, Vk⟩, Vf, ⟨_, List.length_set.trans hxv, Vx⟩⟩)
set_option maxRecDepth 65536 in
set_option maxHeartbeats 4000000 in
theorem rm_leaf {l : Launch} {Z : State} {a0 : Array Value} (hw : HW Z a0) (t : Addr) (y : Addr) (ak af ax : Addr) (kk kf kx : ClassId) (fs : List Nat) {h0 : Heap} (hE : Ext Z.heap h0) (hn : fs.length < 16) (D : PD Z t ak af ax) (Pt : PT Z h0 t ak af ax kk kf kx fs) (Sw : Sto Z h0 ax (.ref y)) :
    OMeets l Z (⟨"com/example/hypermedia_forms/hypermediaforms/PatternTree", "addLeaf", "([I)I"⟩ : MethodName) prog_45_method_6_code 2 (some .int) ({ frames := 2, cells := 0, slots := 0, locals := 29 } : Room) #[(.ref t), (.ref y)] h0 [t, ak, af, ax] (fun v h => v = some (.int fs.length.toInt32) ∧ PT Z h t ak af ax kk kf kx (fs ++ [fs.length])) := by
  refine OMeets.body (plainFor_of_name pn0) hE #[.val (.ref t), .val (.ref y)] (fun m => by first | rfl | (simp [entryFrame, mkF, argsToLocals, Value.category, maxLocals]; done)) ?_
  intro p e s m below meth co T S
  refine Go.aloadN S d_prog_45_method_6_code_0 rfl rfl (pc' := 1) rfl ?_
  refine Go.iconst S (v := 0) d_prog_45_method_6_code_1 rfl (pc' := 2) rfl ?_
  refine Go.aloadN S d_prog_45_method_6_code_2 rfl rfl (pc' := 3) rfl ?_
  refine Go.getfield S (host := "") (Or.inl (wd28 hw)) Via.refl Pt.2.2.2.2.1 d_prog_45_method_6_code_3 (pc' := 6) rfl ?_
  intro T1 S1
  refine Go.aloadN S1 d_prog_45_method_6_code_6 rfl rfl (pc' := 7) rfl ?_
  refine Go.invokeprivate S1 (y := ⟨"com/example/hypermedia_forms/hypermediaforms/PatternTree", "add", "(BI[I)I"⟩) (rm_add hw t (0 : Int32) (.ref y) ak af ax kk kf kx fs fs.length hn rfl rfl S1.ext D Pt Sw) (wd30 hw) (wd31 hw) (wd32 hw) (wd2 hw) (wd3 hw) (wd33 hw) (by decide) Pt.1 d_prog_45_method_6_code_7 rfl pd1 (argsL := [(.int (0 : Int32)), (.int fs.length.toInt32), (.ref y)]) rfl rfl rfl (by decide) (W := 0) rfl (by decide) (by decide) (by decide) (allS (Or.inl (List.mem_of_getElem? (i := 0) rfl)) (allS (Or.inl (List.mem_of_getElem? (i := 1) rfl)) (allS (Or.inl (List.mem_of_getElem? (i := 2) rfl)) (allS (Or.inl (List.mem_of_getElem? (i := 3) rfl)) all0)))) (pc' := 10) rfl ?_
  intro v2 T2 h2 L2 S2 K2 q2
  obtain ⟨rfl, Pt'⟩ := q2
  show Go _ _ _ _ T2 (mkF m 10 #[.val (.ref t), .val (.ref y)] [(.int fs.length.toInt32)])
  exact Go.ireturn S2 rfl d_prog_45_method_6_code_10 (by decide) (by decide) (⟨rfl, Pt'⟩)
set_option maxRecDepth 65536 in
set_option maxHeartbeats 4000000 in
theorem rm_empty {l : Launch} {Z : State} {a0 : Array Value} (hw : HW Z a0) (t : Addr) (ak af ax : Addr) (kk kf kx : ClassId) (fs : List Nat) {h0 : Heap} (hE : Ext Z.heap h0) (hn : fs.length < 16) (D : PD Z t ak af ax) (Pt : PT Z h0 t ak af ax kk kf kx fs) :
    OMeets l Z (⟨"com/example/hypermedia_forms/hypermediaforms/PatternTree", "addEmpty", "()I"⟩ : MethodName) prog_45_method_7_code 1 (some .int) ({ frames := 2, cells := 0, slots := 0, locals := 29 } : Room) #[(.ref t)] h0 [t, ak, af, ax] (fun v h => v = some (.int fs.length.toInt32) ∧ PT Z h t ak af ax kk kf kx (fs ++ [fs.length])) := by
  refine OMeets.body (plainFor_of_name pn0) hE #[.val (.ref t)] (fun m => by first | rfl | (simp [entryFrame, mkF, argsToLocals, Value.category, maxLocals]; done)) ?_
  intro p e s m below meth co T S
  refine Go.aloadN S d_prog_45_method_7_code_0 rfl rfl (pc' := 1) rfl ?_
  refine Go.iconst S (v := 1) d_prog_45_method_7_code_1 rfl (pc' := 2) rfl ?_
  refine Go.aloadN S d_prog_45_method_7_code_2 rfl rfl (pc' := 3) rfl ?_
  refine Go.getfield S (host := "") (Or.inl (wd28 hw)) Via.refl Pt.2.2.2.2.1 d_prog_45_method_7_code_3 (pc' := 6) rfl ?_
  intro T1 S1
  refine Go.aconst_null S1 d_prog_45_method_7_code_6 (pc' := 7) rfl ?_
  refine Go.invokeprivate S1 (y := ⟨"com/example/hypermedia_forms/hypermediaforms/PatternTree", "add", "(BI[I)I"⟩) (rm_add hw t (1 : Int32) .null ak af ax kk kf kx fs fs.length hn rfl rfl S1.ext D Pt (Or.inl rfl)) (wd30 hw) (wd31 hw) (wd32 hw) (wd2 hw) (wd3 hw) (wd33 hw) (by decide) Pt.1 d_prog_45_method_7_code_7 rfl pd1 (argsL := [(.int (1 : Int32)), (.int fs.length.toInt32), .null]) rfl rfl rfl (by decide) (W := 0) rfl (by decide) (by decide) (by decide) (allS (Or.inl (List.mem_of_getElem? (i := 0) rfl)) (allS (Or.inl (List.mem_of_getElem? (i := 1) rfl)) (allS (Or.inl (List.mem_of_getElem? (i := 2) rfl)) (allS (Or.inl (List.mem_of_getElem? (i := 3) rfl)) all0)))) (pc' := 10) rfl ?_
  intro v2 T2 h2 L2 S2 K2 q2
  obtain ⟨rfl, Pt'⟩ := q2
  show Go _ _ _ _ T2 (mkF m 10 #[.val (.ref t)] [(.int fs.length.toInt32)])
  exact Go.ireturn S2 rfl d_prog_45_method_7_code_10 (by decide) (by decide) (⟨rfl, Pt'⟩)
set_option maxRecDepth 65536 in
set_option maxHeartbeats 4000000 in
theorem rm_parent {l : Launch} {Z : State} {a0 : Array Value} (hw : HW Z a0) (t : Addr) (kd : Int32) (ak af ax : Addr) (kk kf kx : ClassId) (fs : List Nat) (f : Nat) {h0 : Heap} (hE : Ext Z.heap h0) (hn : fs.length < 16) (D : PD Z t ak af ax) (Pt : PT Z h0 t ak af ax kk kf kx fs) :
    OMeets l Z (⟨"com/example/hypermedia_forms/hypermediaforms/PatternTree", "addParent", "(BI)I"⟩ : MethodName) prog_45_method_8_code 3 (some .int) ({ frames := 2, cells := 0, slots := 0, locals := 29 } : Room) #[(.ref t), (.int kd), (.int f.toInt32)] h0 [t, ak, af, ax] (fun v h => v = some (.int fs.length.toInt32) ∧ PT Z h t ak af ax kk kf kx (fs ++ [f])) := by
  refine OMeets.body (plainFor_of_name pn0) hE #[.val (.ref t), .val (.int kd), .val (.int f.toInt32)] (fun m => by first | rfl | (simp [entryFrame, mkF, argsToLocals, Value.category, maxLocals]; done)) ?_
  intro p e s m below meth co T S
  refine Go.aloadN S d_prog_45_method_8_code_0 rfl rfl (pc' := 1) rfl ?_
  refine Go.iloadN S d_prog_45_method_8_code_1 rfl (pc' := 2) rfl ?_
  refine Go.iloadN S d_prog_45_method_8_code_2 rfl (pc' := 3) rfl ?_
  refine Go.aconst_null S d_prog_45_method_8_code_3 (pc' := 4) rfl ?_
  refine Go.invokeprivate S (y := ⟨"com/example/hypermedia_forms/hypermediaforms/PatternTree", "add", "(BI[I)I"⟩) (rm_add hw t kd .null ak af ax kk kf kx fs f hn rfl rfl S.ext D Pt (Or.inl rfl)) (wd30 hw) (wd31 hw) (wd32 hw) (wd2 hw) (wd3 hw) (wd33 hw) (by decide) Pt.1 d_prog_45_method_8_code_4 rfl pd1 (argsL := [(.int kd), (.int f.toInt32), .null]) rfl rfl rfl (by decide) (W := 0) rfl (by decide) (by decide) (by decide) (allS (Or.inl (List.mem_of_getElem? (i := 0) rfl)) (allS (Or.inl (List.mem_of_getElem? (i := 1) rfl)) (allS (Or.inl (List.mem_of_getElem? (i := 2) rfl)) (allS (Or.inl (List.mem_of_getElem? (i := 3) rfl)) all0)))) (pc' := 7) rfl ?_
  intro v1 T1 h1 L1 S1 K1 q1
  obtain ⟨rfl, Pt'⟩ := q1
  show Go _ _ _ _ T1 (mkF m 7 #[.val (.ref t), .val (.int kd), .val (.int f.toInt32)] [(.int fs.length.toInt32)])
  exact Go.ireturn S1 rfl d_prog_45_method_8_code_7 (by decide) (by decide) (⟨rfl, Pt'⟩)
theorem Ins.keep_ {Z : State} {h h' : Heap} {a : Addr} {K : String} {ws : List Addr} (F : Ins Z h a K true) (Kp : Keep h h' ws) : Ins Z h' a K true := by
  obtain ⟨cell, cT, h1, h2, h3⟩ := F
  obtain ⟨c', q1, q2, q3, -⟩ := Kp.2.2 _ _ h1
  exact ⟨c', cT, q1, h2, by rw [q2, q3]; exact h3⟩
theorem own_sto {Z : State} {h : Heap} {t ak af ax y : Addr} {kk kf kx : ClassId} {fs : List Nat} (P : PT Z h t ak af ax kk kf kx fs) (O : OvrA Z kx .int "[I") (I : Ins Z h y "[I" true) : Sto Z h ax (.ref y) := by
  obtain ⟨vs, -, cl, A, q, -⟩ := P.2.2.2.2.2.2.2
  exact Sto.ofVA A q O I
set_option maxRecDepth 65536 in
set_option maxHeartbeats 4000000 in
theorem rm_shape {l : Launch} {Z : State} {a0 : Array Value} (hw : HW Z a0) (t : Addr) (sh : Int32) (y : Addr) (ak af ax : Addr) (kk kf kx : ClassId) (fs : List Nat) {h0 : Heap} (hE : Ext Z.heap h0) (hn : fs.length ≤ 12) (D : PD Z t ak af ax) (Pt : PT Z h0 t ak af ax kk kf kx fs) (Ov : OvrA Z kx .int "[I") (Iy : Ins Z h0 y "[I" true) :
    OMeets l Z (⟨"com/example/hypermedia_forms/hypermediaforms/PatternTreeSubtreesPinLaw", "addShape", "(Lcom/example/hypermedia_forms/hypermediaforms/PatternTree;I[I)V"⟩ : MethodName) method_3_code 4 none ({ frames := 3, cells := 0, slots := 0, locals := 45 } : Room) #[(.ref t), (.int sh), (.ref y)] h0 [t, ak, af, ax] (fun v h => v = none ∧ PT Z h t ak af ax kk kf kx (own_app fs sh) ∧ Ins Z h y "[I" true) := by
  refine OMeets.body (plainFor_of_name pn1) hE #[.val (.ref t), .val (.int sh), .val (.ref y), .unset] (fun m => by first | rfl | (simp [entryFrame, mkF, argsToLocals, Value.category, maxLocals]; done)) ?_
  intro p e s m below meth co T S
  refine Go.iloadN S d_method_3_code_0 rfl (pc' := 1) rfl ?_
  refine Go.if_ne S d_method_3_code_1 (pt := 13) (by decide) (pc' := 4) rfl ?_ ?_
  · intro c1
    refine Go.iloadN S d_method_3_code_13 rfl (pc' := 14) rfl ?_
    refine Go.iconst S (v := 1) d_method_3_code_14 rfl (pc' := 15) rfl ?_
    refine Go.icmp_ne S d_method_3_code_15 (pt := 26) (by decide) (pc' := 18) rfl ?_ ?_
    · intro c15
      refine Go.iloadN S d_method_3_code_26 rfl (pc' := 27) rfl ?_
      refine Go.iconst S (v := 2) d_method_3_code_27 rfl (pc' := 28) rfl ?_
      refine Go.icmp_ne S d_method_3_code_28 (pt := 47) (by decide) (pc' := 31) rfl ?_ ?_
      · intro c28
        refine Go.aloadN S d_method_3_code_47 rfl rfl (pc' := 48) rfl ?_
        refine Go.aloadN S d_method_3_code_48 rfl rfl (pc' := 49) rfl ?_
        refine Go.invokevirtual S (y := ⟨"com/example/hypermedia_forms/hypermediaforms/PatternTree", "addLeaf", "([I)I"⟩) (rm_leaf hw t y ak af ax kk kf kx fs S.ext (by omega) D Pt (own_sto Pt Ov Iy)) (wd23 hw) (wd24 hw) (S.nf (wd26 hw)) (wd26 hw) (wd25 hw) (wd3 hw) (wd27 hw) (by decide) Pt.1 d_method_3_code_49 rfl pd2 (argsL := [(.ref y)]) rfl rfl rfl (by decide) (W := 0) rfl (by decide) (by decide) (by decide) (allS (Or.inl (List.mem_of_getElem? (i := 0) rfl)) (allS (Or.inl (List.mem_of_getElem? (i := 1) rfl)) (allS (Or.inl (List.mem_of_getElem? (i := 2) rfl)) (allS (Or.inl (List.mem_of_getElem? (i := 3) rfl)) all0)))) (pc' := 52) rfl ?_
        intro v1 T1 h1 L1 S1 K1 q1
        obtain ⟨rfl, P1⟩ := q1
        show Go _ _ _ _ T1 (mkF m 52 #[.val (.ref t), .val (.int sh), .val (.ref y), .unset] [(.int fs.length.toInt32)])
        replace Iy := Ins.keep_ Iy K1
        have S1y := own_sto P1 Ov Iy
        refine Go.istoreN S1 d_method_3_code_52 (Ls' := #[.val (.ref t), .val (.int sh), .val (.ref y), .val (.int fs.length.toInt32)]) rfl (pc' := 53) rfl ?_
        refine Go.aloadN S1 d_method_3_code_53 rfl rfl (pc' := 54) rfl ?_
        refine Go.aloadN S1 d_method_3_code_54 rfl rfl (pc' := 55) rfl ?_
        refine Go.invokevirtual S1 (y := ⟨"com/example/hypermedia_forms/hypermediaforms/PatternTree", "addLeaf", "([I)I"⟩) (rm_leaf hw t y ak af ax kk kf kx (fs ++ [fs.length]) S1.ext (by have := hn; simp; omega) D P1 S1y) (wd23 hw) (wd24 hw) (S1.nf (wd26 hw)) (wd26 hw) (wd25 hw) (wd3 hw) (wd27 hw) (by decide) P1.1 d_method_3_code_55 rfl pd2 (argsL := [(.ref y)]) rfl rfl rfl (by decide) (W := 0) rfl (by decide) (by decide) (by decide) (allS (Or.inl (List.mem_of_getElem? (i := 0) rfl)) (allS (Or.inl (List.mem_of_getElem? (i := 1) rfl)) (allS (Or.inl (List.mem_of_getElem? (i := 2) rfl)) (allS (Or.inl (List.mem_of_getElem? (i := 3) rfl)) all0)))) (pc' := 58) rfl ?_
        intro v2 T2 h2 L2 S2 K2 q2
        obtain ⟨rfl, P2⟩ := q2
        show Go _ _ _ _ T2 (mkF m 58 #[.val (.ref t), .val (.int sh), .val (.ref y), .val (.int fs.length.toInt32)] [(.int (fs ++ [fs.length]).length.toInt32)])
        replace Iy := Ins.keep_ Iy K2
        have S2y := own_sto P2 Ov Iy
        refine Go.pop S2 d_method_3_code_58 rfl (pc' := 59) rfl ?_
        refine Go.aloadN S2 d_method_3_code_59 rfl rfl (pc' := 60) rfl ?_
        refine Go.iconst S2 (v := 2) d_method_3_code_60 rfl (pc' := 61) rfl ?_
        refine Go.iloadN S2 d_method_3_code_61 rfl (pc' := 62) rfl ?_
        refine Go.invokevirtual S2 (y := ⟨"com/example/hypermedia_forms/hypermediaforms/PatternTree", "addParent", "(BI)I"⟩) (rm_parent hw t (2 : Int32) ak af ax kk kf kx ((fs ++ [fs.length]) ++ [(fs ++ [fs.length]).length]) fs.length S2.ext (by have := hn; simp; omega) D P2) (wd60 hw) (wd61 hw) (S2.nf (wd63 hw)) (wd63 hw) (wd62 hw) (wd3 hw) (wd64 hw) (by decide) P2.1 d_method_3_code_62 rfl pd3 (argsL := [(.int (2 : Int32)), (.int fs.length.toInt32)]) rfl rfl rfl (by decide) (W := 0) rfl (by decide) (by decide) (by decide) (allS (Or.inl (List.mem_of_getElem? (i := 0) rfl)) (allS (Or.inl (List.mem_of_getElem? (i := 1) rfl)) (allS (Or.inl (List.mem_of_getElem? (i := 2) rfl)) (allS (Or.inl (List.mem_of_getElem? (i := 3) rfl)) all0)))) (pc' := 65) rfl ?_
        intro v3 T3 h3 L3 S3 K3 q3
        obtain ⟨rfl, P3⟩ := q3
        show Go _ _ _ _ T3 (mkF m 65 #[.val (.ref t), .val (.int sh), .val (.ref y), .val (.int fs.length.toInt32)] [(.int ((fs ++ [fs.length]) ++ [(fs ++ [fs.length]).length]).length.toInt32)])
        replace Iy := Ins.keep_ Iy K3
        have S3y := own_sto P3 Ov Iy
        refine Go.pop S3 d_method_3_code_65 rfl (pc' := 66) rfl ?_
        exact Go.vreturn S3 rfl d_method_3_code_66 (by decide) (by decide) (⟨rfl, by unfold own_app; rw [if_neg c1, if_neg c15, if_neg c28]; exact P3, Iy⟩)
      · intro c28
        refine Go.aloadN S d_method_3_code_31 rfl rfl (pc' := 32) rfl ?_
        refine Go.aloadN S d_method_3_code_32 rfl rfl (pc' := 33) rfl ?_
        refine Go.invokevirtual S (y := ⟨"com/example/hypermedia_forms/hypermediaforms/PatternTree", "addLeaf", "([I)I"⟩) (rm_leaf hw t y ak af ax kk kf kx fs S.ext (by omega) D Pt (own_sto Pt Ov Iy)) (wd23 hw) (wd24 hw) (S.nf (wd26 hw)) (wd26 hw) (wd25 hw) (wd3 hw) (wd27 hw) (by decide) Pt.1 d_method_3_code_33 rfl pd2 (argsL := [(.ref y)]) rfl rfl rfl (by decide) (W := 0) rfl (by decide) (by decide) (by decide) (allS (Or.inl (List.mem_of_getElem? (i := 0) rfl)) (allS (Or.inl (List.mem_of_getElem? (i := 1) rfl)) (allS (Or.inl (List.mem_of_getElem? (i := 2) rfl)) (allS (Or.inl (List.mem_of_getElem? (i := 3) rfl)) all0)))) (pc' := 36) rfl ?_
        intro v4 T4 h4 L4 S4 K4 q4
        obtain ⟨rfl, P4⟩ := q4
        show Go _ _ _ _ T4 (mkF m 36 #[.val (.ref t), .val (.int sh), .val (.ref y), .unset] [(.int fs.length.toInt32)])
        replace Iy := Ins.keep_ Iy K4
        have S4y := own_sto P4 Ov Iy
        refine Go.istoreN S4 d_method_3_code_36 (Ls' := #[.val (.ref t), .val (.int sh), .val (.ref y), .val (.int fs.length.toInt32)]) rfl (pc' := 37) rfl ?_
        refine Go.aloadN S4 d_method_3_code_37 rfl rfl (pc' := 38) rfl ?_
        refine Go.iconst S4 (v := 4) d_method_3_code_38 rfl (pc' := 39) rfl ?_
        refine Go.iloadN S4 d_method_3_code_39 rfl (pc' := 40) rfl ?_
        refine Go.invokevirtual S4 (y := ⟨"com/example/hypermedia_forms/hypermediaforms/PatternTree", "addParent", "(BI)I"⟩) (rm_parent hw t (4 : Int32) ak af ax kk kf kx (fs ++ [fs.length]) fs.length S4.ext (by have := hn; simp; omega) D P4) (wd60 hw) (wd61 hw) (S4.nf (wd63 hw)) (wd63 hw) (wd62 hw) (wd3 hw) (wd64 hw) (by decide) P4.1 d_method_3_code_40 rfl pd3 (argsL := [(.int (4 : Int32)), (.int fs.length.toInt32)]) rfl rfl rfl (by decide) (W := 0) rfl (by decide) (by decide) (by decide) (allS (Or.inl (List.mem_of_getElem? (i := 0) rfl)) (allS (Or.inl (List.mem_of_getElem? (i := 1) rfl)) (allS (Or.inl (List.mem_of_getElem? (i := 2) rfl)) (allS (Or.inl (List.mem_of_getElem? (i := 3) rfl)) all0)))) (pc' := 43) rfl ?_
        intro v5 T5 h5 L5 S5 K5 q5
        obtain ⟨rfl, P5⟩ := q5
        show Go _ _ _ _ T5 (mkF m 43 #[.val (.ref t), .val (.int sh), .val (.ref y), .val (.int fs.length.toInt32)] [(.int (fs ++ [fs.length]).length.toInt32)])
        replace Iy := Ins.keep_ Iy K5
        have S5y := own_sto P5 Ov Iy
        refine Go.pop S5 d_method_3_code_43 rfl (pc' := 44) rfl ?_
        refine Go.goto S5 d_method_3_code_44 (pc' := 66) (by decide) ?_
        exact Go.vreturn S5 rfl d_method_3_code_66 (by decide) (by decide) (⟨rfl, by unfold own_app; rw [if_neg c1, if_neg c15, if_pos c28]; exact P5, Iy⟩)
    · intro c15
      refine Go.aloadN S d_method_3_code_18 rfl rfl (pc' := 19) rfl ?_
      refine Go.invokevirtual S (y := ⟨"com/example/hypermedia_forms/hypermediaforms/PatternTree", "addEmpty", "()I"⟩) (rm_empty hw t ak af ax kk kf kx fs S.ext (by omega) D Pt) (wd55 hw) (wd56 hw) (S.nf (wd58 hw)) (wd58 hw) (wd57 hw) (wd3 hw) (wd59 hw) (by decide) Pt.1 d_method_3_code_19 rfl pd4 (argsL := []) rfl rfl rfl (by decide) (W := 0) rfl (by decide) (by decide) (by decide) (allS (Or.inl (List.mem_of_getElem? (i := 0) rfl)) (allS (Or.inl (List.mem_of_getElem? (i := 1) rfl)) (allS (Or.inl (List.mem_of_getElem? (i := 2) rfl)) (allS (Or.inl (List.mem_of_getElem? (i := 3) rfl)) all0)))) (pc' := 22) rfl ?_
      intro v6 T6 h6 L6 S6 K6 q6
      obtain ⟨rfl, P6⟩ := q6
      show Go _ _ _ _ T6 (mkF m 22 #[.val (.ref t), .val (.int sh), .val (.ref y), .unset] [(.int fs.length.toInt32)])
      replace Iy := Ins.keep_ Iy K6
      have S6y := own_sto P6 Ov Iy
      refine Go.pop S6 d_method_3_code_22 rfl (pc' := 23) rfl ?_
      refine Go.goto S6 d_method_3_code_23 (pc' := 66) (by decide) ?_
      exact Go.vreturn S6 rfl d_method_3_code_66 (by decide) (by decide) (⟨rfl, by unfold own_app; rw [if_neg c1, if_pos c15]; exact P6, Iy⟩)
  · intro c1
    refine Go.aloadN S d_method_3_code_4 rfl rfl (pc' := 5) rfl ?_
    refine Go.aloadN S d_method_3_code_5 rfl rfl (pc' := 6) rfl ?_
    refine Go.invokevirtual S (y := ⟨"com/example/hypermedia_forms/hypermediaforms/PatternTree", "addLeaf", "([I)I"⟩) (rm_leaf hw t y ak af ax kk kf kx fs S.ext (by omega) D Pt (own_sto Pt Ov Iy)) (wd23 hw) (wd24 hw) (S.nf (wd26 hw)) (wd26 hw) (wd25 hw) (wd3 hw) (wd27 hw) (by decide) Pt.1 d_method_3_code_6 rfl pd2 (argsL := [(.ref y)]) rfl rfl rfl (by decide) (W := 0) rfl (by decide) (by decide) (by decide) (allS (Or.inl (List.mem_of_getElem? (i := 0) rfl)) (allS (Or.inl (List.mem_of_getElem? (i := 1) rfl)) (allS (Or.inl (List.mem_of_getElem? (i := 2) rfl)) (allS (Or.inl (List.mem_of_getElem? (i := 3) rfl)) all0)))) (pc' := 9) rfl ?_
    intro v7 T7 h7 L7 S7 K7 q7
    obtain ⟨rfl, P7⟩ := q7
    show Go _ _ _ _ T7 (mkF m 9 #[.val (.ref t), .val (.int sh), .val (.ref y), .unset] [(.int fs.length.toInt32)])
    replace Iy := Ins.keep_ Iy K7
    have S7y := own_sto P7 Ov Iy
    refine Go.pop S7 d_method_3_code_9 rfl (pc' := 10) rfl ?_
    refine Go.goto S7 d_method_3_code_10 (pc' := 66) (by decide) ?_
    exact Go.vreturn S7 rfl d_method_3_code_66 (by decide) (by decide) (⟨rfl, by unfold own_app; rw [if_pos c1]; exact P7, Iy⟩)
set_option maxRecDepth 65536 in
set_option maxHeartbeats 4000000 in
theorem rm_len {l : Launch} {Z : State} {a0 : Array Value} (hw : HW Z a0) (sh : Int32)  {h0 : Heap} (hE : Ext Z.heap h0) :
    OMeets l Z (⟨"com/example/hypermedia_forms/hypermediaforms/PatternTreeSubtreesPinLaw", "len", "(I)I"⟩ : MethodName) method_2_code 1 (some .int) ({ frames := 0, cells := 0, slots := 0, locals := 0 } : Room) #[(.int sh)] h0 [] (fun v h => v = some (.int (own_ln sh).toInt32) ∧ h0 = h) := by
  refine OMeets.body (plainFor_of_name pn1) hE #[.val (.int sh)] (fun m => by first | rfl | (simp [entryFrame, mkF, argsToLocals, Value.category, maxLocals]; done)) ?_
  intro p e s m below meth co T S
  refine Go.iloadN S d_method_2_code_0 rfl (pc' := 1) rfl ?_
  refine Go.if_ne S d_method_2_code_1 (pt := 6) (by decide) (pc' := 4) rfl ?_ ?_
  · intro c1
    refine Go.iloadN S d_method_2_code_6 rfl (pc' := 7) rfl ?_
    refine Go.iconst S (v := 1) d_method_2_code_7 rfl (pc' := 8) rfl ?_
    refine Go.icmp_ne S d_method_2_code_8 (pt := 13) (by decide) (pc' := 11) rfl ?_ ?_
    · intro c8
      refine Go.iloadN S d_method_2_code_13 rfl (pc' := 14) rfl ?_
      refine Go.iconst S (v := 2) d_method_2_code_14 rfl (pc' := 15) rfl ?_
      refine Go.icmp_ne S d_method_2_code_15 (pt := 20) (by decide) (pc' := 18) rfl ?_ ?_
      · intro c15
        refine Go.iconst S (v := 3) d_method_2_code_20 rfl (pc' := 21) rfl ?_
        exact Go.ireturn S rfl d_method_2_code_21 (by decide) (by decide) (⟨by unfold own_ln; rw [if_neg c1, if_neg c8, if_neg c15]; rfl, rfl⟩)
      · intro c15
        refine Go.iconst S (v := 2) d_method_2_code_18 rfl (pc' := 19) rfl ?_
        exact Go.ireturn S rfl d_method_2_code_19 (by decide) (by decide) (⟨by unfold own_ln; rw [if_neg c1, if_neg c8, if_pos c15]; rfl, rfl⟩)
    · intro c8
      refine Go.iconst S (v := 1) d_method_2_code_11 rfl (pc' := 12) rfl ?_
      exact Go.ireturn S rfl d_method_2_code_12 (by decide) (by decide) (⟨by unfold own_ln; rw [if_neg c1, if_pos c8]; rfl, rfl⟩)
  · intro c1
    refine Go.iconst S (v := 1) d_method_2_code_4 rfl (pc' := 5) rfl ?_
    exact Go.ireturn S rfl d_method_2_code_5 (by decide) (by decide) (⟨by unfold own_ln; rw [if_pos c1]; rfl, rfl⟩)
set_option maxRecDepth 65536 in
set_option maxHeartbeats 4000000 in
theorem rm_min {l : Launch} {Z : State} {a0 : Array Value} (hw : HW Z a0) (a : Int32) (b : Int32)  {h0 : Heap} (hE : Ext Z.heap h0) :
    OMeets l Z (⟨"java/lang/Math", "min", "(II)I"⟩ : MethodName) jdk_29_method_69_code 2 (some .int) ({ frames := 0, cells := 0, slots := 0, locals := 0 } : Room) #[(.int a), (.int b)] h0 [] (fun v h => v = some (.int (if b < a then b else a)) ∧ h0 = h) := by
  refine OMeets.body (Jvm.Free.JP.mathPlain rfl (by decide +kernel)) hE #[.val (.int a), .val (.int b)] (fun m => by first | rfl | (simp [entryFrame, mkF, argsToLocals, Value.category, maxLocals]; done)) ?_
  intro p e s m below meth co T S
  refine Go.iloadN S d_jdk_29_method_69_code_0 rfl (pc' := 1) rfl ?_
  refine Go.iloadN S d_jdk_29_method_69_code_1 rfl (pc' := 2) rfl ?_
  refine Go.icmp_gt S d_jdk_29_method_69_code_2 (pt := 9) (by decide) (pc' := 5) rfl ?_ ?_
  · intro c2
    refine Go.iloadN S d_jdk_29_method_69_code_9 rfl (pc' := 10) rfl ?_
    exact Go.ireturn S rfl d_jdk_29_method_69_code_10 (by decide) (by decide) (⟨by rw [if_pos c2], rfl⟩)
  · intro c2
    refine Go.iloadN S d_jdk_29_method_69_code_5 rfl (pc' := 6) rfl ?_
    refine Go.goto S d_jdk_29_method_69_code_6 (pc' := 10) (by decide) ?_
    exact Go.ireturn S rfl d_jdk_29_method_69_code_10 (by decide) (by decide) (⟨by rw [if_neg c2], rfl⟩)
set_option maxRecDepth 65536 in
set_option maxHeartbeats 4000000 in
theorem rm_max {l : Launch} {Z : State} {a0 : Array Value} (hw : HW Z a0) (a : Int32) (b : Int32)  {h0 : Heap} (hE : Ext Z.heap h0) :
    OMeets l Z (⟨"java/lang/Math", "max", "(II)I"⟩ : MethodName) jdk_29_method_65_code 2 (some .int) ({ frames := 0, cells := 0, slots := 0, locals := 0 } : Room) #[(.int a), (.int b)] h0 [] (fun v h => v = some (.int (if a < b then b else a)) ∧ h0 = h) := by
  refine OMeets.body (Jvm.Free.JP.mathPlain rfl (by decide +kernel)) hE #[.val (.int a), .val (.int b)] (fun m => by first | rfl | (simp [entryFrame, mkF, argsToLocals, Value.category, maxLocals]; done)) ?_
  intro p e s m below meth co T S
  refine Go.iloadN S d_jdk_29_method_65_code_0 rfl (pc' := 1) rfl ?_
  refine Go.iloadN S d_jdk_29_method_65_code_1 rfl (pc' := 2) rfl ?_
  refine Go.icmp_lt S d_jdk_29_method_65_code_2 (pt := 9) (by decide) (pc' := 5) rfl ?_ ?_
  · intro c2
    refine Go.iloadN S d_jdk_29_method_65_code_9 rfl (pc' := 10) rfl ?_
    exact Go.ireturn S rfl d_jdk_29_method_65_code_10 (by decide) (by decide) (⟨by rw [if_pos c2], rfl⟩)
  · intro c2
    refine Go.iloadN S d_jdk_29_method_65_code_5 rfl (pc' := 6) rfl ?_
    refine Go.goto S d_jdk_29_method_65_code_6 (pc' := 10) (by decide) ?_
    exact Go.ireturn S rfl d_jdk_29_method_65_code_10 (by decide) (by decide) (⟨by rw [if_neg c2], rfl⟩)
set_option maxRecDepth 65536 in
set_option maxHeartbeats 4000000 in
theorem own_subloop {p : Program} {l : Launch} {e : Env} {s : State} {m : MethodId} {args : Array Value} {below : List Frame} {meth : Method} {co : Code} {Z : State} {a0 : Array Value} (hw : HW Z a0) (t : Addr) (lo hi tot : Nat) (af : Addr) (kf : ClassId) (fs : List Nat) {h0 : Heap} {locs : List Loc} (hlo : lo ≤ 16) (hfs : ∀ k, k < 16 → fs.getD k 0 ≤ k) (Ff : Fld Z h0 t "com/example/hypermedia_forms/hypermediaforms/PatternTree" "firsts" "[I" (.ref af)) (Vf : Arv Z h0 af kf .int 16 (own_row fs) (.int 0)) (n : Nat) (hn16 : n ≤ 16) : ∀ (j : Nat), j ≤ n → ∀ (q : Nat), q + own_cnt fs lo n j = tot ∧ q + n ≤ 32 → ∀ T : State, St p l e ({ frames := 0, cells := 0, slots := 0, locals := 0 } : Room) s m args below meth co Z "com/example/hypermedia_forms/hypermediaforms/PatternTree" prog_45_method_9_code 5 (some .int) "subtrees" h0 [] T h0 locs 0 0 → Go p e below (PostOf Z s h0 [] ({ frames := 0, cells := 0, slots := 0, locals := 0 } : Room).cells ({ frames := 0, cells := 0, slots := 0, locals := 0 } : Room).slots (fun v h => v = some (.int tot.toInt32) ∧ h0 = h)) T (mkF m 7 #[.val (.ref t), .val (.int lo.toInt32), .val (.int hi.toInt32), .val (.int q.toInt32), .val (.int (j.toInt32 - 1))] []) := by
  induction n with
  | zero =>
    intro j hj q hq T S
    have hle : j ≤ lo := by omega
    have hq' : q = tot := by have := hq.1; simp only [own_cnt] at this; omega
    refine Go.iload S d_prog_45_method_9_code_7 rfl (pc' := 9) rfl ?_
    refine Go.iloadN S d_prog_45_method_9_code_9 rfl (pc' := 10) rfl ?_
    refine Go.icmp_lt S d_prog_45_method_9_code_10 (pt := 30) (by decide) (pc' := 13) rfl ?_ ?_
    · intro c10
      refine Go.iloadN S d_prog_45_method_9_code_30 rfl (pc' := 31) rfl ?_
      exact Go.ireturn S rfl d_prog_45_method_9_code_31 (by decide) (by decide) (⟨by rw [hq'], rfl⟩)
    · intro c10; exact absurd ((own_pred (by omega) (by omega)).mpr hle) c10
  | succ n ih =>
    intro j hj q hq T S
    have hq1 := hq.1
    rw [own_cnt] at hq1
    by_cases hle : j ≤ lo
    · rw [if_pos hle] at hq1
      refine Go.iload S d_prog_45_method_9_code_7 rfl (pc' := 9) rfl ?_
      refine Go.iloadN S d_prog_45_method_9_code_9 rfl (pc' := 10) rfl ?_
      refine Go.icmp_lt S d_prog_45_method_9_code_10 (pt := 30) (by decide) (pc' := 13) rfl ?_ ?_
      · intro c10
        refine Go.iloadN S d_prog_45_method_9_code_30 rfl (pc' := 31) rfl ?_
        exact Go.ireturn S rfl d_prog_45_method_9_code_31 (by decide) (by decide) (⟨by rw [show q = tot by omega], rfl⟩)
      · intro c10; exact absurd ((own_pred (by omega) (by omega)).mpr hle) c10
    · rw [if_neg hle] at hq1
      have hj0 : 0 < j := by omega
      have ih := ih (by omega)
      refine Go.iload S d_prog_45_method_9_code_7 rfl (pc' := 9) rfl ?_
      refine Go.iloadN S d_prog_45_method_9_code_9 rfl (pc' := 10) rfl ?_
      refine Go.icmp_lt S d_prog_45_method_9_code_10 (pt := 30) (by decide) (pc' := 13) rfl ?_ ?_
      · intro c10; exact absurd c10 (fun z => hle ((own_pred (by omega) (by omega)).mp z))
      · intro c10
        refine Go.iinc S d_prog_45_method_9_code_13 rfl (Ls' := #[.val (.ref t), .val (.int lo.toInt32), .val (.int hi.toInt32), .val (.int (q.toInt32 + (1 : Int32))), .val (.int (j.toInt32 - 1))]) rfl (pc' := 16) rfl ?_
        refine Go.aloadN S d_prog_45_method_9_code_16 rfl rfl (pc' := 17) rfl ?_
        refine Go.getfield S (host := "") (Or.inl (wd13 hw)) Via.refl Ff d_prog_45_method_9_code_17 (pc' := 20) rfl ?_
        intro T1 S1
        refine Go.iload S1 d_prog_45_method_9_code_20 rfl (pc' := 22) rfl ?_
        refine Go.iaload S1 Vf (own_predI hj0 (by omega)).1 (v := (.int (fs.getD (j - 1) 0).toInt32)) (by rw [(own_predI hj0 (by omega)).2]; exact own_row_at (by omega)) d_prog_45_method_9_code_22 (pc' := 23) rfl ?_
        refine Go.iconst S1 (v := 1) d_prog_45_method_9_code_23 rfl (pc' := 24) rfl ?_
        refine Go.isub S1 d_prog_45_method_9_code_24 (pc' := 25) rfl ?_
        refine Go.istore S1 d_prog_45_method_9_code_25 (Ls' := #[.val (.ref t), .val (.int lo.toInt32), .val (.int hi.toInt32), .val (.int (q.toInt32 + (1 : Int32))), .val (.int ((fs.getD (j - 1) 0).toInt32 - (1 : Int32)))]) rfl (pc' := 27) rfl ?_
        refine Go.goto S1 d_prog_45_method_9_code_27 (pc' := 7) (by decide) ?_
        rw [own_incN (by omega)]
        exact ih _ (by have := hfs (j - 1) (by omega); omega) _ (by omega) _ S1
set_option maxRecDepth 65536 in
set_option maxHeartbeats 4000000 in
theorem rm_subtrees {l : Launch} {Z : State} {a0 : Array Value} (hw : HW Z a0) (t : Addr) (lo hi tot : Nat) (af : Addr) (kf : ClassId) (fs : List Nat) {h0 : Heap} (hE : Ext Z.heap h0) (hlo : lo ≤ 16) (hhi : hi ≤ 16) (hfs : ∀ k, k < 16 → fs.getD k 0 ≤ k) (htot : own_cnt fs lo 16 hi = tot) (Ff : Fld Z h0 t "com/example/hypermedia_forms/hypermediaforms/PatternTree" "firsts" "[I" (.ref af)) (Vf : Arv Z h0 af kf .int 16 (own_row fs) (.int 0)) :
    OMeets l Z (⟨"com/example/hypermedia_forms/hypermediaforms/PatternTree", "subtrees", "(II)I"⟩ : MethodName) prog_45_method_9_code 5 (some .int) ({ frames := 0, cells := 0, slots := 0, locals := 0 } : Room) #[(.ref t), (.int lo.toInt32), (.int hi.toInt32)] h0 [] (fun v h => v = some (.int tot.toInt32) ∧ h0 = h) := by
  refine OMeets.body (plainFor_of_name pn0) hE #[.val (.ref t), .val (.int lo.toInt32), .val (.int hi.toInt32), .unset, .unset] (fun m => by first | rfl | (simp [entryFrame, mkF, argsToLocals, Value.category, maxLocals]; done)) ?_
  intro p e s m below meth co T S
  refine Go.iconst S (v := 0) d_prog_45_method_9_code_0 rfl (pc' := 1) rfl ?_
  refine Go.istoreN S d_prog_45_method_9_code_1 (Ls' := #[.val (.ref t), .val (.int lo.toInt32), .val (.int hi.toInt32), .val (.int (0 : Int32)), .unset]) rfl (pc' := 2) rfl ?_
  refine Go.iloadN S d_prog_45_method_9_code_2 rfl (pc' := 3) rfl ?_
  refine Go.iconst S (v := 1) d_prog_45_method_9_code_3 rfl (pc' := 4) rfl ?_
  refine Go.isub S d_prog_45_method_9_code_4 (pc' := 5) rfl ?_
  refine Go.istore S d_prog_45_method_9_code_5 (Ls' := #[.val (.ref t), .val (.int lo.toInt32), .val (.int hi.toInt32), .val (.int (0 : Int32)), .val (.int (hi.toInt32 - (1 : Int32)))]) rfl (pc' := 7) rfl ?_
  exact own_subloop hw t lo hi tot af kf fs hlo hfs Ff Vf 16 (by omega) hi hhi 0 (by constructor <;> omega) _ S
set_option maxRecDepth 65536 in
set_option maxHeartbeats 4000000 in
theorem rm_new {l : Launch} {Z : State} {a0 : Array Value} (hw : HW Z a0) (t : Addr)  {h0 : Heap} (hE : Ext Z.heap h0) (hz : Z.heap.size ≤ t) (E : Exa Z h0 t "com/example/hypermedia_forms/hypermediaforms/PatternTree") (F_kinds : Fld Z h0 t "com/example/hypermedia_forms/hypermediaforms/PatternTree" "kinds" "[B" .null) (F_firsts : Fld Z h0 t "com/example/hypermedia_forms/hypermediaforms/PatternTree" "firsts" "[I" .null) (F_sets : Fld Z h0 t "com/example/hypermedia_forms/hypermediaforms/PatternTree" "sets" "[[I" .null) (F_size : Fld Z h0 t "com/example/hypermedia_forms/hypermediaforms/PatternTree" "size" "I" (.int 0)) :
    OMeets l Z (⟨"com/example/hypermedia_forms/hypermediaforms/PatternTree", "<init>", "()V"⟩ : MethodName) prog_45_method_1_code 1 none ({ frames := 1, cells := 3, slots := 48, locals := 12 } : Room) #[(.ref t)] h0 [t] (fun v h => v = none ∧ ∃ ak af ax kk kf kx, PT Z h t ak af ax kk kf kx [] ∧ PD Z t ak af ax ∧ OvrA Z kx .int "[I" ∧ h0.size ≤ ak ∧ h0.size ≤ af ∧ h0.size ≤ ax) := by
  refine OMeets.body (plainFor_of_name pn0) hE #[.val (.ref t)] (fun m => by first | rfl | (simp [entryFrame, mkF, argsToLocals, Value.category, maxLocals]; done)) ?_
  intro p e s m below meth co T S
  refine Go.aloadN S d_prog_45_method_1_code_0 rfl rfl (pc' := 1) rfl ?_
  refine Go.initObject S (wd7 hw) (wd8 hw) (wd9 hw) d_prog_45_method_1_code_1 rfl (by decide) (W := 0) rfl (by decide) (pc' := 4) rfl ?_
  intro T1 S1
  refine Go.aloadN S1 d_prog_45_method_1_code_4 rfl rfl (pc' := 5) rfl ?_
  refine Go.bipush S1 (v := 16) d_prog_45_method_1_code_5 rfl (pc' := 7) rfl ?_
  refine Go.newarray S1 (ty := .byte) (dv := (.int (0 : Int32))) rfl rfl (wd10 hw) d_prog_45_method_1_code_7 (by decide) (cap := 16) (by decide) (by decide) (by decide) (by decide) (pc' := 9) rfl ?_
  intro T2 h2 a2 kA2 S2 E2 hg2 hz2 hk2 V2
  replace V2 : Arv Z h2 a2 kA2 .byte (16 : Int32) [(.int (0 : Int32)), (.int (0 : Int32)), (.int (0 : Int32)), (.int (0 : Int32)), (.int (0 : Int32)), (.int (0 : Int32)), (.int (0 : Int32)), (.int (0 : Int32)), (.int (0 : Int32)), (.int (0 : Int32)), (.int (0 : Int32)), (.int (0 : Int32)), (.int (0 : Int32)), (.int (0 : Int32)), (.int (0 : Int32)), (.int (0 : Int32))] (.int (0 : Int32)) := V2
  have n_t_a2 : t ≠ a2 := Nat.ne_of_lt (Nat.lt_of_lt_of_le E.lt (Nat.le_of_eq hg2))
  replace E := E.ext E2
  replace F_kinds := F_kinds.ext E2
  replace F_firsts := F_firsts.ext E2
  replace F_sets := F_sets.ext E2
  replace F_size := F_size.ext E2
  refine Go.putfield S2 (host := "") (Or.inl (wd11 hw)) Via.refl F_kinds E (Or.inl (wd12 hw)) (wd2 hw) (ty := (.array .byte)) (by decide) rfl rfl hz (Or.inl (List.mem_singleton.mpr rfl)) d_prog_45_method_1_code_9 (pc' := 12) rfl ?_
  intro T3 h3 L3 S3 W3
  have F3 := F_kinds.same W3
  replace F_firsts := F_firsts.other W3 (Or.inr (slot_ne (Or.inl (wd14 hw)) (Or.inl (wd12 hw)) (by decide) (t := (.array .int)) (t' := (.array .byte)) (by decide) (by decide)))
  replace F_sets := F_sets.other W3 (Or.inr (slot_ne (Or.inl (wd18 hw)) (Or.inl (wd12 hw)) (by decide) (t := (.array (.array .int))) (t' := (.array .byte)) (by decide) (by decide)))
  replace F_size := F_size.other W3 (Or.inr (slot_ne (Or.inl (wd29 hw)) (Or.inl (wd12 hw)) (by decide) (t := .int) (t' := (.array .byte)) (by decide) (by decide)))
  replace E := E.wr W3
  replace V2 := V2.other W3 ((Ne.symm n_t_a2))
  refine Go.aloadN S3 d_prog_45_method_1_code_12 rfl rfl (pc' := 13) rfl ?_
  refine Go.bipush S3 (v := 16) d_prog_45_method_1_code_13 rfl (pc' := 15) rfl ?_
  refine Go.newarray S3 (ty := .int) (dv := (.int (0 : Int32))) rfl rfl (wd0 hw) d_prog_45_method_1_code_15 (by decide) (cap := 16) (by decide) (by decide) (by decide) (by decide) (pc' := 17) rfl ?_
  intro T4 h4 a4 kA4 S4 E4 hg4 hz4 hk4 V4
  replace V4 : Arv Z h4 a4 kA4 .int (16 : Int32) [(.int (0 : Int32)), (.int (0 : Int32)), (.int (0 : Int32)), (.int (0 : Int32)), (.int (0 : Int32)), (.int (0 : Int32)), (.int (0 : Int32)), (.int (0 : Int32)), (.int (0 : Int32)), (.int (0 : Int32)), (.int (0 : Int32)), (.int (0 : Int32)), (.int (0 : Int32)), (.int (0 : Int32)), (.int (0 : Int32)), (.int (0 : Int32))] (.int (0 : Int32)) := V4
  have n_t_a4 : t ≠ a4 := Nat.ne_of_lt (Nat.lt_of_lt_of_le E.lt (Nat.le_of_eq hg4))
  have n_a2_a4 : a2 ≠ a4 := Nat.ne_of_lt (Nat.lt_of_lt_of_le V2.lt (Nat.le_of_eq hg4))
  replace E := E.ext E4
  replace V2 := V2.ext E4
  replace F_firsts := F_firsts.ext E4
  replace F_sets := F_sets.ext E4
  replace F_size := F_size.ext E4
  replace F3 := F3.ext E4
  refine Go.putfield S4 (host := "") (Or.inl (wd13 hw)) Via.refl F_firsts E (Or.inl (wd14 hw)) (wd2 hw) (ty := (.array .int)) (by decide) rfl rfl hz (Or.inl (List.mem_singleton.mpr rfl)) d_prog_45_method_1_code_17 (pc' := 20) rfl ?_
  intro T5 h5 L5 S5 W5
  have F5 := F_firsts.same W5
  replace F_sets := F_sets.other W5 (Or.inr (slot_ne (Or.inl (wd18 hw)) (Or.inl (wd14 hw)) (by decide) (t := (.array (.array .int))) (t' := (.array .int)) (by decide) (by decide)))
  replace F_size := F_size.other W5 (Or.inr (slot_ne (Or.inl (wd29 hw)) (Or.inl (wd14 hw)) (by decide) (t := .int) (t' := (.array .int)) (by decide) (by decide)))
  replace F3 := F3.other W5 (Or.inr (slot_ne (Or.inl (wd12 hw)) (Or.inl (wd14 hw)) (by decide) (t := (.array .byte)) (t' := (.array .int)) (by decide) (by decide)))
  replace E := E.wr W5
  replace V2 := V2.other W5 ((Ne.symm n_t_a2))
  replace V4 := V4.other W5 ((Ne.symm n_t_a4))
  refine Go.aloadN S5 d_prog_45_method_1_code_20 rfl rfl (pc' := 21) rfl ?_
  refine Go.bipush S5 (v := 16) d_prog_45_method_1_code_21 rfl (pc' := 23) rfl ?_
  refine Go.anewarrayA S5 (ty := .int) rfl (wd15 hw) (wd16 hw) rfl d_prog_45_method_1_code_23 (by decide) (cap := 16) (by decide) (by decide) (by decide) (by decide) (pc' := 26) rfl ?_
  intro T6 h6 a6 kA6 S6 E6 hg6 hz6 hk6 V6 Ov
  have n_t_a6 : t ≠ a6 := Nat.ne_of_lt (Nat.lt_of_lt_of_le E.lt (Nat.le_of_eq hg6))
  have n_a2_a6 : a2 ≠ a6 := Nat.ne_of_lt (Nat.lt_of_lt_of_le V2.lt (Nat.le_of_eq hg6))
  have n_a4_a6 : a4 ≠ a6 := Nat.ne_of_lt (Nat.lt_of_lt_of_le V4.lt (Nat.le_of_eq hg6))
  replace E := E.ext E6
  replace V2 := V2.ext E6
  replace V4 := V4.ext E6
  replace F_sets := F_sets.ext E6
  replace F_size := F_size.ext E6
  replace F3 := F3.ext E6
  replace F5 := F5.ext E6
  refine Go.putfield S6 (host := "") (Or.inl (wd17 hw)) Via.refl F_sets E (Or.inl (wd18 hw)) (wd2 hw) (ty := (.array (.array .int))) (by decide) rfl rfl hz (Or.inl (List.mem_singleton.mpr rfl)) d_prog_45_method_1_code_26 (pc' := 29) rfl ?_
  intro T7 h7 L7 S7 W7
  have F7 := F_sets.same W7
  replace F_size := F_size.other W7 (Or.inr (slot_ne (Or.inl (wd29 hw)) (Or.inl (wd18 hw)) (by decide) (t := .int) (t' := (.array (.array .int))) (by decide) (by decide)))
  replace F3 := F3.other W7 (Or.inr (slot_ne (Or.inl (wd12 hw)) (Or.inl (wd18 hw)) (by decide) (t := (.array .byte)) (t' := (.array (.array .int))) (by decide) (by decide)))
  replace F5 := F5.other W7 (Or.inr (slot_ne (Or.inl (wd14 hw)) (Or.inl (wd18 hw)) (by decide) (t := (.array .int)) (t' := (.array (.array .int))) (by decide) (by decide)))
  replace E := E.wr W7
  replace V2 := V2.other W7 ((Ne.symm n_t_a2))
  replace V4 := V4.other W7 ((Ne.symm n_t_a4))
  replace V6 := V6.other W7 ((Ne.symm n_t_a6))
  exact Go.vreturn S7 rfl d_prog_45_method_1_code_29 (by decide) (by decide) (⟨rfl, a2, a4, a6, kA2, kA4, kA6, ⟨E, F3, F5, F7, F_size, ⟨_, List.length_replicate .., V2⟩, V4, ⟨_, List.length_replicate .., V6⟩⟩, ⟨⟨hz, hz2, hz4, hz6⟩, (n_t_a2), (n_t_a4), (n_t_a6), (n_a2_a4), (n_a2_a6), (n_a4_a6)⟩, Ov, hk2, hk4, hk6⟩)
def own_pick (a b d : Nat) (k : Int32) : Nat := if k = 0 then 0 else if k = 1 then a else if k = 2 then b else d
theorem own_four {x : Int32} (h : 0 ≤ x.toInt ∧ x.toInt ≤ 3) : x = (0 : Nat).toInt32 ∨ x = (1 : Nat).toInt32 ∨ x = (2 : Nat).toInt32 ∨ x = (3 : Nat).toInt32 := by
  simp only [← Int32.toInt_inj, own_toInt (i := 0) (by omega), own_toInt (i := 1) (by omega), own_toInt (i := 2) (by omega), own_toInt (i := 3) (by omega)]
  omega
theorem own_fin4 {x : Int32} (h : 0 ≤ x.toInt ∧ x.toInt ≤ 3) : ∃ a : Fin 4, x = a.val.toInt32 := by
  rcases own_four h with rfl | rfl | rfl | rfl
  · exact ⟨0, rfl⟩
  · exact ⟨1, rfl⟩
  · exact ⟨2, rfl⟩
  · exact ⟨3, rfl⟩
def own_ok (s0 s1 s2 i j : Int32) : Prop :=
  own_cnt (own_app (own_app (own_app [] s0) s1) s2) (own_pick (own_ln s0) (own_ln s0 + own_ln s1) (own_ln s0 + own_ln s1 + own_ln s2) (if j < i then j else i)) 16 (own_pick (own_ln s0) (own_ln s0 + own_ln s1) (own_ln s0 + own_ln s1 + own_ln s2) (if i < j then j else i)) = ((if i < j then j else i) - (if j < i then j else i)).toInt.toNat ∧
  ((if i < j then j else i) - (if j < i then j else i)).toInt.toNat.toInt32 = (if i < j then j else i) - (if j < i then j else i) ∧
  ∀ k : Fin 16, (own_app (own_app (own_app [] s0) s1) s2).getD k.val 0 ≤ k.val
instance (s0 s1 s2 i j : Int32) : Decidable (own_ok s0 s1 s2 i j) := by unfold own_ok; infer_instance
set_option maxRecDepth 65536 in
theorem own_all : ∀ a b d i j : Fin 4, own_ok a.val.toInt32 b.val.toInt32 d.val.toInt32 i.val.toInt32 j.val.toInt32 := by decide +kernel
theorem own_ok_of {s0 s1 s2 i j : Int32} (h0 : 0 ≤ s0.toInt ∧ s0.toInt ≤ 3) (h1 : 0 ≤ s1.toInt ∧ s1.toInt ≤ 3) (h2 : 0 ≤ s2.toInt ∧ s2.toInt ≤ 3) (hi : 0 ≤ i.toInt ∧ i.toInt ≤ 3) (hj : 0 ≤ j.toInt ∧ j.toInt ≤ 3) : own_ok s0 s1 s2 i j := by
  obtain ⟨a, rfl⟩ := own_fin4 h0
  obtain ⟨b, rfl⟩ := own_fin4 h1
  obtain ⟨d, rfl⟩ := own_fin4 h2
  obtain ⟨i, rfl⟩ := own_fin4 hi
  obtain ⟨j, rfl⟩ := own_fin4 hj
  exact own_all a b d i j
theorem own_m3 (x : Int32) : 0 ≤ (x &&& 3).toInt ∧ (x &&& 3).toInt ≤ 3 := by
  have a := c_mask x 3 2 (by decide) (by decide)
  omega
theorem own_r4 (x : Int32) : 0 ≤ ((x &&& 2147483647) % 4).toInt ∧ ((x &&& 2147483647) % 4).toInt ≤ 3 := by
  have a := c_mask x 2147483647 31 (by decide) (by decide)
  have b := c_irem (x &&& 2147483647) 4 4 rfl
  omega
theorem own_mm {i j : Int32} (hi : 0 ≤ i.toInt ∧ i.toInt ≤ 3) (hj : 0 ≤ j.toInt ∧ j.toInt ≤ 3) : (0 ≤ (if j < i then j else i).toInt ∧ (if j < i then j else i).toInt ≤ 3) ∧ 0 ≤ (if i < j then j else i).toInt ∧ (if i < j then j else i).toInt ≤ 3 := by
  constructor <;> split <;> assumption
theorem own_k4 {k : Int32} (h : 0 ≤ k.toInt ∧ k.toInt ≤ 3) : ¬ k < 0 ∧ k < 4 := by
  have e0 : (0 : Int32).toInt = 0 := rfl
  have e4 : (4 : Int32).toInt = 4 := rfl
  rw [Int32.lt_iff_toInt_lt, Int32.lt_iff_toInt_lt]
  omega
theorem own_pickV {k : Int32} (h : 0 ≤ k.toInt ∧ k.toInt ≤ 3) (a b d : Nat) : ([.int 0, .int a.toInt32, .int b.toInt32, .int d.toInt32] : List Value).getD k.toNatClampNeg (.int 0) = .int (own_pick a b d k).toInt32 := by
  rcases own_four h with rfl | rfl | rfl | rfl <;> rfl
theorem own_ln3 (s : Int32) : own_ln s ≤ 3 := by
  unfold own_ln
  split
  · omega
  · split
    · omega
    · split <;> omega
theorem own_pick9 (a b d : Nat) (k : Int32) (ha : a ≤ 9) (hb : b ≤ 9) (hd : d ≤ 9) : own_pick a b d k ≤ 16 := by
  unfold own_pick
  split
  · omega
  · split
    · omega
    · split <;> omega
theorem PT.keep_ {Z : State} {h h' : Heap} {t ak af ax : Addr} {kk kf kx : ClassId} {fs : List Nat} {ws : List Addr} (P : PT Z h t ak af ax kk kf kx fs) (K : Keep h h' ws) (n : t ∉ ws ∧ ak ∉ ws ∧ af ∉ ws ∧ ax ∉ ws) : PT Z h' t ak af ax kk kf kx fs := by
  obtain ⟨E, Fk, Ff, Fs, Fz, ⟨kv, hkv, Vk⟩, Vf, ⟨xv, hxv, Vx⟩⟩ := P
  exact ⟨E.keep K, Fk.keep K n.1, Ff.keep K n.1, Fs.keep K n.1, Fz.keep K n.1, ⟨kv, hkv, Vk.keep K n.2.1⟩, Vf.keep K n.2.2.1, ⟨xv, hxv, Vx.keep K n.2.2.2⟩⟩
theorem PT.lt {Z : State} {h : Heap} {t ak af ax : Addr} {kk kf kx : ClassId} {fs : List Nat} (P : PT Z h t ak af ax kk kf kx fs) : t < h.size ∧ ak < h.size ∧ af < h.size ∧ ax < h.size := by
  obtain ⟨E, Fk, Ff, Fs, Fz, ⟨kv, hkv, Vk⟩, Vf, ⟨xv, hxv, Vx⟩⟩ := P
  exact ⟨E.lt, Vk.lt, Vf.lt, Vx.lt⟩
set_option maxRecDepth 65536 in
set_option maxHeartbeats 4000000 in
theorem rm_code {l : Launch} {Z : State} {a0 : Array Value} (hw : HW Z a0) (sx : Int32) (px : Int32) (qx : Int32)  {h0 : Heap} (hE : Ext Z.heap h0) :
    OMeets l Z x code maxLocals ret room_1 #[(.int sx), (.int px), (.int qx)] h0 [] (fun v h => v = some (.int 1)) := by
  refine OMeets.body (plainFor_of_name pn1) hE #[.val (.int sx), .val (.int px), .val (.int qx), .unset, .unset, .unset, .unset, .unset, .unset, .unset, .unset, .unset, .unset, .unset] (fun m => by first | (simp [entryFrame, mkF, argsToLocals, Value.category, maxLocals]; done) | rfl) ?_
  intro p e s m below meth co T S
  refine Go.iloadN S at_0 rfl (pc' := 1) rfl ?_
  refine Go.iconst S (v := 3) at_1 rfl (pc' := 2) rfl ?_
  refine Go.iand S at_2 (pc' := 3) rfl ?_
  refine Go.istoreN S at_3 (Ls' := #[.val (.int sx), .val (.int px), .val (.int qx), .val (.int (sx &&& (3 : Int32))), .unset, .unset, .unset, .unset, .unset, .unset, .unset, .unset, .unset, .unset]) rfl (pc' := 4) rfl ?_
  generalize h_s0 : (sx &&& (3 : Int32)) = s0
  refine Go.iloadN S at_4 rfl (pc' := 5) rfl ?_
  refine Go.iconst S (v := 2) at_5 rfl (pc' := 6) rfl ?_
  refine Go.ishr S at_6 (pc' := 7) rfl ?_
  refine Go.iconst S (v := 3) at_7 rfl (pc' := 8) rfl ?_
  refine Go.iand S at_8 (pc' := 9) rfl ?_
  refine Go.istore S at_9 (Ls' := #[.val (.int sx), .val (.int px), .val (.int qx), .val (.int s0), .val (.int ((sx >>> ((2 : Int32) &&& 31)) &&& (3 : Int32))), .unset, .unset, .unset, .unset, .unset, .unset, .unset, .unset, .unset]) rfl (pc' := 11) rfl ?_
  generalize h_s1 : ((sx >>> ((2 : Int32) &&& 31)) &&& (3 : Int32)) = s1
  refine Go.iloadN S at_11 rfl (pc' := 12) rfl ?_
  refine Go.iconst S (v := 4) at_12 rfl (pc' := 13) rfl ?_
  refine Go.ishr S at_13 (pc' := 14) rfl ?_
  refine Go.iconst S (v := 3) at_14 rfl (pc' := 15) rfl ?_
  refine Go.iand S at_15 (pc' := 16) rfl ?_
  refine Go.istore S at_16 (Ls' := #[.val (.int sx), .val (.int px), .val (.int qx), .val (.int s0), .val (.int s1), .val (.int ((sx >>> ((4 : Int32) &&& 31)) &&& (3 : Int32))), .unset, .unset, .unset, .unset, .unset, .unset, .unset, .unset]) rfl (pc' := 18) rfl ?_
  generalize h_s2 : ((sx >>> ((4 : Int32) &&& 31)) &&& (3 : Int32)) = s2
  have h0s := own_m3 sx
  rw [h_s0] at h0s
  have h1s := own_m3 (sx >>> ((2 : Int32) &&& 31))
  rw [h_s1] at h1s
  have h2s := own_m3 (sx >>> ((4 : Int32) &&& 31))
  rw [h_s2] at h2s
  refine Go.iconst S (v := 2) at_18 rfl (pc' := 19) rfl ?_
  refine Go.newarrayE S (ty := .int) (dv := (.int (0 : Int32))) rfl rfl rfl (wd0 hw) at_19 (by decide) (cap := 2) (by decide) (by decide) (by decide) (by decide) (pc' := 21) rfl ?_
  intro T1 h1 a1 kA1 S1 E1 hg1 hz1 hk1 V1 X1
  replace V1 : Arv Z h1 a1 kA1 .int (2 : Int32) [(.int (0 : Int32)), (.int (0 : Int32))] (.int (0 : Int32)) := V1
  refine Go.dup S1 at_21 rfl (pc' := 22) rfl ?_
  refine Go.iconst S1 (v := 0) at_22 rfl (pc' := 23) rfl ?_
  refine Go.bipush S1 (v := 97) at_23 rfl (pc' := 25) rfl ?_
  refine Go.iastore S1 V1 (by decide) (i := 0) (by decide) (Nat.le_of_ble_eq_true rfl) hz1 (Or.inr hk1) at_25 (pc' := 26) rfl ?_
  intro T2 h2 L2 S2 W2 V2
  replace V2 : Arv Z h2 a1 kA1 .int (2 : Int32) [(.int (97 : Int32)), (.int (0 : Int32))] (.int (0 : Int32)) := V2
  replace X1 := X1.wr W2
  refine Go.dup S2 at_26 rfl (pc' := 27) rfl ?_
  refine Go.iconst S2 (v := 1) at_27 rfl (pc' := 28) rfl ?_
  refine Go.bipush S2 (v := 97) at_28 rfl (pc' := 30) rfl ?_
  refine Go.iastore S2 V2 (by decide) (i := 1) (by decide) (Nat.le_of_ble_eq_true rfl) hz1 (Or.inr hk1) at_30 (pc' := 31) rfl ?_
  intro T3 h3 L3 S3 W3 V3
  replace V3 : Arv Z h3 a1 kA1 .int (2 : Int32) [(.int (97 : Int32)), (.int (97 : Int32))] (.int (0 : Int32)) := V3
  replace X1 := X1.wr W3
  refine Go.astore S3 at_31 rfl (Ls' := #[.val (.int sx), .val (.int px), .val (.int qx), .val (.int s0), .val (.int s1), .val (.int s2), .val (.ref a1), .unset, .unset, .unset, .unset, .unset, .unset, .unset]) rfl (pc' := 33) rfl ?_
  refine Go.new S3 (wd1 hw) (wd2 hw) (wd3 hw) at_33 (by decide) (by decide) (pc' := 36) rfl ?_
  intro T4 h4 a4 S4 E4 hg4 hz4 hk4 X4 D4
  have n_a1_a4 : a1 ≠ a4 := Nat.ne_of_lt (Nat.lt_of_lt_of_le X1.lt (Nat.le_of_eq hg4))
  replace X1 := X1.ext E4
  replace V3 := V3.ext E4
  have F4_kinds : Fld Z h4 a4 "com/example/hypermedia_forms/hypermediaforms/PatternTree" "kinds" "[B" .null := D4 (Or.inl (wd12 hw)) (ty := (.array .byte)) (by decide)
  have F4_firsts : Fld Z h4 a4 "com/example/hypermedia_forms/hypermediaforms/PatternTree" "firsts" "[I" .null := D4 (Or.inl (wd14 hw)) (ty := (.array .int)) (by decide)
  have F4_sets : Fld Z h4 a4 "com/example/hypermedia_forms/hypermediaforms/PatternTree" "sets" "[[I" .null := D4 (Or.inl (wd18 hw)) (ty := (.array (.array .int))) (by decide)
  have F4_size : Fld Z h4 a4 "com/example/hypermedia_forms/hypermediaforms/PatternTree" "size" "I" (.int (0 : Int32)) := D4 (Or.inl (wd29 hw)) (ty := .int) (by decide)
  refine Go.dup S4 at_36 rfl (pc' := 37) rfl ?_
  refine Go.invokespecial S4 (y := ⟨"com/example/hypermedia_forms/hypermediaforms/PatternTree", "<init>", "()V"⟩) (rm_new hw a4 S4.ext hz4 X4 F4_kinds F4_firsts F4_sets F4_size) rfl rfl (wd4 hw) (wd5 hw) (wd3 hw) (wd6 hw) (by decide) at_37 rfl pd5 (argsL := []) rfl rfl rfl (by decide) (W := 1) rfl (by decide) (by decide) (by decide) (allS (Or.inr hk4) all0) (pc' := 40) rfl ?_
  intro v5 T5 h5 L5 S5 K5 q5
  obtain ⟨rfl, ak, af, ax, kk, kf, kx, P0, D, Ov, oa, ob, oc⟩ := q5
  replace X1 := X1.keep K5
  replace X4 := X4.keep K5
  show Go _ _ _ _ T5 (mkF m 40 #[.val (.int sx), .val (.int px), .val (.int qx), .val (.int s0), .val (.int s1), .val (.int s2), .val (.ref a1), .unset, .unset, .unset, .unset, .unset, .unset, .unset] [(.ref a4)])
  have Iy0 := Ins.self X1
  have hk_t := hk4
  have hq1 := Nat.le_trans S4.keep.1 oa
  have hq2 := Nat.le_trans S4.keep.1 ob
  have hq3 := Nat.le_trans S4.keep.1 oc
  refine Go.astore S5 at_40 rfl (Ls' := #[.val (.int sx), .val (.int px), .val (.int qx), .val (.int s0), .val (.int s1), .val (.int s2), .val (.ref a1), .val (.ref a4), .unset, .unset, .unset, .unset, .unset, .unset]) rfl (pc' := 42) rfl ?_
  refine Go.aload S5 at_42 rfl rfl (pc' := 44) rfl ?_
  refine Go.iloadN S5 at_44 rfl (pc' := 45) rfl ?_
  refine Go.aload S5 at_45 rfl rfl (pc' := 47) rfl ?_
  refine Go.invokestatic S5 (y := ⟨"com/example/hypermedia_forms/hypermediaforms/PatternTreeSubtreesPinLaw", "addShape", "(Lcom/example/hypermedia_forms/hypermediaforms/PatternTree;I[I)V"⟩) (rm_shape hw a4 s0 a1 ak af ax kk kf kx [] S5.ext (by simp) D P0 Ov Iy0) (wd19 hw) (wd20 hw) (wd21 hw) (wd22 hw) (by decide) at_47 rfl pd6 (argsL := [(.ref a4), (.int s0), (.ref a1)]) rfl rfl rfl (by decide) (W := 0) rfl (by decide) (by decide) (by decide) (allS (Or.inr hk_t) (allS (Or.inr hq1) (allS (Or.inr hq2) (allS (Or.inr hq3) all0)))) (pc' := 50) rfl ?_
  intro v6 T6 h6 L6 S6 K6 q6
  obtain ⟨rfl, P1, Iy1⟩ := q6
  replace X1 := X1.keep K6
  replace X4 := X4.keep K6
  show Go _ _ _ _ T6 (mkF m 50 #[.val (.int sx), .val (.int px), .val (.int qx), .val (.int s0), .val (.int s1), .val (.int s2), .val (.ref a1), .val (.ref a4), .unset, .unset, .unset, .unset, .unset, .unset] [])
  refine Go.aload S6 at_50 rfl rfl (pc' := 52) rfl ?_
  refine Go.iload S6 at_52 rfl (pc' := 54) rfl ?_
  refine Go.aload S6 at_54 rfl rfl (pc' := 56) rfl ?_
  refine Go.invokestatic S6 (y := ⟨"com/example/hypermedia_forms/hypermediaforms/PatternTreeSubtreesPinLaw", "addShape", "(Lcom/example/hypermedia_forms/hypermediaforms/PatternTree;I[I)V"⟩) (rm_shape hw a4 s1 a1 ak af ax kk kf kx (own_app [] s0) S6.ext (Nat.le_trans (own_app_len _ _) (by simp)) D P1 Ov Iy1) (wd19 hw) (wd20 hw) (wd21 hw) (wd22 hw) (by decide) at_56 rfl pd6 (argsL := [(.ref a4), (.int s1), (.ref a1)]) rfl rfl rfl (by decide) (W := 0) rfl (by decide) (by decide) (by decide) (allS (Or.inr hk_t) (allS (Or.inr hq1) (allS (Or.inr hq2) (allS (Or.inr hq3) all0)))) (pc' := 59) rfl ?_
  intro v7 T7 h7 L7 S7 K7 q7
  obtain ⟨rfl, P2, Iy2⟩ := q7
  replace X1 := X1.keep K7
  replace X4 := X4.keep K7
  show Go _ _ _ _ T7 (mkF m 59 #[.val (.int sx), .val (.int px), .val (.int qx), .val (.int s0), .val (.int s1), .val (.int s2), .val (.ref a1), .val (.ref a4), .unset, .unset, .unset, .unset, .unset, .unset] [])
  refine Go.aload S7 at_59 rfl rfl (pc' := 61) rfl ?_
  refine Go.iload S7 at_61 rfl (pc' := 63) rfl ?_
  refine Go.aload S7 at_63 rfl rfl (pc' := 65) rfl ?_
  refine Go.invokestatic S7 (y := ⟨"com/example/hypermedia_forms/hypermediaforms/PatternTreeSubtreesPinLaw", "addShape", "(Lcom/example/hypermedia_forms/hypermediaforms/PatternTree;I[I)V"⟩) (rm_shape hw a4 s2 a1 ak af ax kk kf kx (own_app (own_app [] s0) s1) S7.ext (Nat.le_trans (own_app_len _ _) (Nat.le_trans (Nat.add_le_add_right (own_app_len _ _) 3) (by simp))) D P2 Ov Iy2) (wd19 hw) (wd20 hw) (wd21 hw) (wd22 hw) (by decide) at_65 rfl pd6 (argsL := [(.ref a4), (.int s2), (.ref a1)]) rfl rfl rfl (by decide) (W := 0) rfl (by decide) (by decide) (by decide) (allS (Or.inr hk_t) (allS (Or.inr hq1) (allS (Or.inr hq2) (allS (Or.inr hq3) all0)))) (pc' := 68) rfl ?_
  intro v8 T8 h8 L8 S8 K8 q8
  obtain ⟨rfl, P3, Iy3⟩ := q8
  replace X1 := X1.keep K8
  replace X4 := X4.keep K8
  show Go _ _ _ _ T8 (mkF m 68 #[.val (.int sx), .val (.int px), .val (.int qx), .val (.int s0), .val (.int s1), .val (.int s2), .val (.ref a1), .val (.ref a4), .unset, .unset, .unset, .unset, .unset, .unset] [])
  refine Go.iconst S8 (v := 4) at_68 rfl (pc' := 69) rfl ?_
  refine Go.newarray S8 (ty := .int) (dv := (.int (0 : Int32))) rfl rfl (wd0 hw) at_69 (by decide) (cap := 4) (by decide) (by decide) (by decide) (by decide) (pc' := 71) rfl ?_
  intro T9 h9 a9 kA9 S9 E9 hg9 hz9 hk9 V9
  replace V9 : Arv Z h9 a9 kA9 .int (4 : Int32) [(.int (0 : Int32)), (.int (0 : Int32)), (.int (0 : Int32)), (.int (0 : Int32))] (.int (0 : Int32)) := V9
  have Kb0 : Keep h8 h9 [a9] := (Keep.refl _ _).ext E9
  have lts := P3.lt
  have nb : _ ∉ [a9] ∧ _ ∉ [a9] ∧ _ ∉ [a9] ∧ _ ∉ [a9] := ⟨ninS (Nat.ne_of_lt (Nat.lt_of_lt_of_le lts.1 (Nat.le_of_eq hg9))) nin0, ninS (Nat.ne_of_lt (Nat.lt_of_lt_of_le lts.2.1 (Nat.le_of_eq hg9))) nin0, ninS (Nat.ne_of_lt (Nat.lt_of_lt_of_le lts.2.2.1 (Nat.le_of_eq hg9))) nin0, ninS (Nat.ne_of_lt (Nat.lt_of_lt_of_le lts.2.2.2 (Nat.le_of_eq hg9))) nin0⟩
  refine Go.astore S9 at_71 rfl (Ls' := #[.val (.int sx), .val (.int px), .val (.int qx), .val (.int s0), .val (.int s1), .val (.int s2), .val (.ref a1), .val (.ref a4), .val (.ref a9), .unset, .unset, .unset, .unset, .unset]) rfl (pc' := 73) rfl ?_
  refine Go.aload S9 at_73 rfl rfl (pc' := 75) rfl ?_
  refine Go.iconst S9 (v := 0) at_75 rfl (pc' := 76) rfl ?_
  refine Go.iconst S9 (v := 0) at_76 rfl (pc' := 77) rfl ?_
  refine Go.iastore S9 V9 (by decide) (i := 0) (by decide) (Nat.le_of_ble_eq_true rfl) hz9 (Or.inr hk9) at_77 (pc' := 78) rfl ?_
  intro T10 h10 L10 S10 W10 V10
  replace V10 : Arv Z h10 a9 kA9 .int (4 : Int32) [(.int (0 : Int32)), (.int (0 : Int32)), (.int (0 : Int32)), (.int (0 : Int32))] (.int (0 : Int32)) := V10
  have Kb1 := Kb0.wr W10 (Or.inl (List.mem_singleton.mpr rfl))
  refine Go.aload S10 at_78 rfl rfl (pc' := 80) rfl ?_
  refine Go.iconst S10 (v := 1) at_80 rfl (pc' := 81) rfl ?_
  refine Go.iloadN S10 at_81 rfl (pc' := 82) rfl ?_
  refine Go.invokestatic S10 (y := ⟨"com/example/hypermedia_forms/hypermediaforms/PatternTreeSubtreesPinLaw", "len", "(I)I"⟩) (rm_len hw s0 S10.ext) (wd39 hw) (wd40 hw) (wd21 hw) (wd41 hw) (by decide) at_82 rfl pd7 (argsL := [(.int s0)]) rfl rfl rfl (by decide) (W := 2) rfl (by decide) (by decide) (by decide) all0 (pc' := 85) rfl ?_
  intro v11 T11 h11 L11 S11 K11 q11
  obtain ⟨rfl, rfl⟩ := q11
  show Go _ _ _ _ T11 (mkF m 85 #[.val (.int sx), .val (.int px), .val (.int qx), .val (.int s0), .val (.int s1), .val (.int s2), .val (.ref a1), .val (.ref a4), .val (.ref a9), .unset, .unset, .unset, .unset, .unset] [(.int (own_ln s0).toInt32), (.int (1 : Int32)), (.ref a9)])
  refine Go.iastore S11 V10 (by decide) (i := 1) (by decide) (Nat.le_of_ble_eq_true rfl) hz9 (Or.inr hk9) at_85 (pc' := 86) rfl ?_
  intro T12 h12 L12 S12 W12 V12
  replace V12 : Arv Z h12 a9 kA9 .int (4 : Int32) [(.int (0 : Int32)), (.int (own_ln s0).toInt32), (.int (0 : Int32)), (.int (0 : Int32))] (.int (0 : Int32)) := V12
  have Kb2 := Kb1.wr W12 (Or.inl (List.mem_singleton.mpr rfl))
  refine Go.aload S12 at_86 rfl rfl (pc' := 88) rfl ?_
  refine Go.iconst S12 (v := 2) at_88 rfl (pc' := 89) rfl ?_
  refine Go.aload S12 at_89 rfl rfl (pc' := 91) rfl ?_
  refine Go.iconst S12 (v := 1) at_91 rfl (pc' := 92) rfl ?_
  refine Go.iaload S12 V12 (by decide) (v := (.int (own_ln s0).toInt32)) rfl at_92 (pc' := 93) rfl ?_
  refine Go.iload S12 at_93 rfl (pc' := 95) rfl ?_
  refine Go.invokestatic S12 (y := ⟨"com/example/hypermedia_forms/hypermediaforms/PatternTreeSubtreesPinLaw", "len", "(I)I"⟩) (rm_len hw s1 S12.ext) (wd39 hw) (wd40 hw) (wd21 hw) (wd41 hw) (by decide) at_95 rfl pd7 (argsL := [(.int s1)]) rfl rfl rfl (by decide) (W := 3) rfl (by decide) (by decide) (by decide) all0 (pc' := 98) rfl ?_
  intro v13 T13 h13 L13 S13 K13 q13
  obtain ⟨rfl, rfl⟩ := q13
  show Go _ _ _ _ T13 (mkF m 98 #[.val (.int sx), .val (.int px), .val (.int qx), .val (.int s0), .val (.int s1), .val (.int s2), .val (.ref a1), .val (.ref a4), .val (.ref a9), .unset, .unset, .unset, .unset, .unset] [(.int (own_ln s1).toInt32), (.int (own_ln s0).toInt32), (.int (2 : Int32)), (.ref a9)])
  refine Go.iadd S13 at_98 (pc' := 99) rfl ?_
  rw [own_addN (by have := own_ln3 s0; have := own_ln3 s1; have := own_ln3 s2; omega)]
  refine Go.iastore S13 V12 (by decide) (i := 2) (by decide) (Nat.le_of_ble_eq_true rfl) hz9 (Or.inr hk9) at_99 (pc' := 100) rfl ?_
  intro T14 h14 L14 S14 W14 V14
  replace V14 : Arv Z h14 a9 kA9 .int (4 : Int32) [(.int (0 : Int32)), (.int (own_ln s0).toInt32), (.int (own_ln s0 + own_ln s1).toInt32), (.int (0 : Int32))] (.int (0 : Int32)) := V14
  have Kb3 := Kb2.wr W14 (Or.inl (List.mem_singleton.mpr rfl))
  refine Go.aload S14 at_100 rfl rfl (pc' := 102) rfl ?_
  refine Go.iconst S14 (v := 3) at_102 rfl (pc' := 103) rfl ?_
  refine Go.aload S14 at_103 rfl rfl (pc' := 105) rfl ?_
  refine Go.iconst S14 (v := 2) at_105 rfl (pc' := 106) rfl ?_
  refine Go.iaload S14 V14 (by decide) (v := (.int (own_ln s0 + own_ln s1).toInt32)) rfl at_106 (pc' := 107) rfl ?_
  refine Go.iload S14 at_107 rfl (pc' := 109) rfl ?_
  refine Go.invokestatic S14 (y := ⟨"com/example/hypermedia_forms/hypermediaforms/PatternTreeSubtreesPinLaw", "len", "(I)I"⟩) (rm_len hw s2 S14.ext) (wd39 hw) (wd40 hw) (wd21 hw) (wd41 hw) (by decide) at_109 rfl pd7 (argsL := [(.int s2)]) rfl rfl rfl (by decide) (W := 3) rfl (by decide) (by decide) (by decide) all0 (pc' := 112) rfl ?_
  intro v15 T15 h15 L15 S15 K15 q15
  obtain ⟨rfl, rfl⟩ := q15
  show Go _ _ _ _ T15 (mkF m 112 #[.val (.int sx), .val (.int px), .val (.int qx), .val (.int s0), .val (.int s1), .val (.int s2), .val (.ref a1), .val (.ref a4), .val (.ref a9), .unset, .unset, .unset, .unset, .unset] [(.int (own_ln s2).toInt32), (.int (own_ln s0 + own_ln s1).toInt32), (.int (3 : Int32)), (.ref a9)])
  refine Go.iadd S15 at_112 (pc' := 113) rfl ?_
  rw [own_addN (by have := own_ln3 s0; have := own_ln3 s1; have := own_ln3 s2; omega)]
  refine Go.iastore S15 V14 (by decide) (i := 3) (by decide) (Nat.le_of_ble_eq_true rfl) hz9 (Or.inr hk9) at_113 (pc' := 114) rfl ?_
  intro T16 h16 L16 S16 W16 V16
  replace V16 : Arv Z h16 a9 kA9 .int (4 : Int32) [(.int (0 : Int32)), (.int (own_ln s0).toInt32), (.int (own_ln s0 + own_ln s1).toInt32), (.int (own_ln s0 + own_ln s1 + own_ln s2).toInt32)] (.int (0 : Int32)) := V16
  have Kb := Kb3.wr W16 (Or.inl (List.mem_singleton.mpr rfl))
  refine Go.iloadN S16 at_114 rfl (pc' := 115) rfl ?_
  refine Go.ldc S16 (wd42 hw) at_115 (pc' := 117) rfl ?_
  refine Go.iand S16 at_117 (pc' := 118) rfl ?_
  refine Go.iconst S16 (v := 4) at_118 rfl (pc' := 119) rfl ?_
  refine Go.irem S16 at_119 (by decide) (pc' := 120) rfl ?_
  refine Go.istore S16 at_120 (Ls' := #[.val (.int sx), .val (.int px), .val (.int qx), .val (.int s0), .val (.int s1), .val (.int s2), .val (.ref a1), .val (.ref a4), .val (.ref a9), .val (.int ((px &&& (2147483647 : Int32)) % (4 : Int32))), .unset, .unset, .unset, .unset]) rfl (pc' := 122) rfl ?_
  generalize h_i : ((px &&& (2147483647 : Int32)) % (4 : Int32)) = i
  refine Go.iloadN S16 at_122 rfl (pc' := 123) rfl ?_
  refine Go.ldc S16 (wd42 hw) at_123 (pc' := 125) rfl ?_
  refine Go.iand S16 at_125 (pc' := 126) rfl ?_
  refine Go.iconst S16 (v := 4) at_126 rfl (pc' := 127) rfl ?_
  refine Go.irem S16 at_127 (by decide) (pc' := 128) rfl ?_
  refine Go.istore S16 at_128 (Ls' := #[.val (.int sx), .val (.int px), .val (.int qx), .val (.int s0), .val (.int s1), .val (.int s2), .val (.ref a1), .val (.ref a4), .val (.ref a9), .val (.int i), .val (.int ((qx &&& (2147483647 : Int32)) % (4 : Int32))), .unset, .unset, .unset]) rfl (pc' := 130) rfl ?_
  generalize h_j : ((qx &&& (2147483647 : Int32)) % (4 : Int32)) = j
  have hi4 := own_r4 px
  rw [h_i] at hi4
  have hj4 := own_r4 qx
  rw [h_j] at hj4
  have hok := own_ok_of h0s h1s h2s hi4 hj4
  have hmm := own_mm hi4 hj4
  unfold own_ok at hok
  refine Go.iload S16 at_130 rfl (pc' := 132) rfl ?_
  refine Go.iload S16 at_132 rfl (pc' := 134) rfl ?_
  refine Go.invokestatic S16 (y := ⟨"java/lang/Math", "min", "(II)I"⟩) (rm_min hw i j S16.ext) (wd43 hw) (wd44 hw) (wd45 hw) (wd46 hw) (by decide) at_134 rfl pd8 (argsL := [(.int i), (.int j)]) rfl rfl rfl (by decide) (W := 0) rfl (by decide) (by decide) (by decide) all0 (pc' := 137) rfl ?_
  intro v17 T17 h17 L17 S17 K17 q17
  obtain ⟨rfl, rfl⟩ := q17
  show Go _ _ _ _ T17 (mkF m 137 #[.val (.int sx), .val (.int px), .val (.int qx), .val (.int s0), .val (.int s1), .val (.int s2), .val (.ref a1), .val (.ref a4), .val (.ref a9), .val (.int i), .val (.int j), .unset, .unset, .unset] [(.int (if j < i then j else i))])
  refine Go.istore S17 at_137 (Ls' := #[.val (.int sx), .val (.int px), .val (.int qx), .val (.int s0), .val (.int s1), .val (.int s2), .val (.ref a1), .val (.ref a4), .val (.ref a9), .val (.int i), .val (.int j), .val (.int (if j < i then j else i)), .unset, .unset]) rfl (pc' := 139) rfl ?_
  generalize h_lo : (if j < i then j else i) = lo
  refine Go.iload S17 at_139 rfl (pc' := 141) rfl ?_
  refine Go.iload S17 at_141 rfl (pc' := 143) rfl ?_
  refine Go.invokestatic S17 (y := ⟨"java/lang/Math", "max", "(II)I"⟩) (rm_max hw i j S17.ext) (wd47 hw) (wd48 hw) (wd45 hw) (wd49 hw) (by decide) at_143 rfl pd8 (argsL := [(.int i), (.int j)]) rfl rfl rfl (by decide) (W := 0) rfl (by decide) (by decide) (by decide) all0 (pc' := 146) rfl ?_
  intro v18 T18 h18 L18 S18 K18 q18
  obtain ⟨rfl, rfl⟩ := q18
  show Go _ _ _ _ T18 (mkF m 146 #[.val (.int sx), .val (.int px), .val (.int qx), .val (.int s0), .val (.int s1), .val (.int s2), .val (.ref a1), .val (.ref a4), .val (.ref a9), .val (.int i), .val (.int j), .val (.int lo), .unset, .unset] [(.int (if i < j then j else i))])
  refine Go.istore S18 at_146 (Ls' := #[.val (.int sx), .val (.int px), .val (.int qx), .val (.int s0), .val (.int s1), .val (.int s2), .val (.ref a1), .val (.ref a4), .val (.ref a9), .val (.int i), .val (.int j), .val (.int lo), .val (.int (if i < j then j else i)), .unset]) rfl (pc' := 148) rfl ?_
  generalize h_hi : (if i < j then j else i) = hi
  rw [h_lo, h_hi] at hok hmm
  obtain ⟨hlo, hhi⟩ := hmm
  have P3' := PT.keep_ P3 Kb nb
  refine Go.aload S18 at_148 rfl rfl (pc' := 150) rfl ?_
  refine Go.aload S18 at_150 rfl rfl (pc' := 152) rfl ?_
  refine Go.iload S18 at_152 rfl (pc' := 154) rfl ?_
  refine Go.iaload S18 V16 (own_k4 hlo) (v := (.int (own_pick (own_ln s0) (own_ln s0 + own_ln s1) (own_ln s0 + own_ln s1 + own_ln s2) lo).toInt32)) (own_pickV hlo _ _ _) at_154 (pc' := 155) rfl ?_
  refine Go.aload S18 at_155 rfl rfl (pc' := 157) rfl ?_
  refine Go.iload S18 at_157 rfl (pc' := 159) rfl ?_
  refine Go.iaload S18 V16 (own_k4 hhi) (v := (.int (own_pick (own_ln s0) (own_ln s0 + own_ln s1) (own_ln s0 + own_ln s1 + own_ln s2) hi).toInt32)) (own_pickV hhi _ _ _) at_159 (pc' := 160) rfl ?_
  have := own_ln3 s0
  have := own_ln3 s1
  have := own_ln3 s2
  refine Go.invokevirtual S18 (y := ⟨"com/example/hypermedia_forms/hypermediaforms/PatternTree", "subtrees", "(II)I"⟩) (rm_subtrees hw a4 (own_pick (own_ln s0) (own_ln s0 + own_ln s1) (own_ln s0 + own_ln s1 + own_ln s2) lo) (own_pick (own_ln s0) (own_ln s0 + own_ln s1) (own_ln s0 + own_ln s1 + own_ln s2) hi) (hi - lo).toInt.toNat af kf (own_app (own_app (own_app [] s0) s1) s2) S18.ext (own_pick9 _ _ _ _ (by omega) (by omega) (by omega)) (own_pick9 _ _ _ _ (by omega) (by omega) (by omega)) (fun k hk => hok.2.2 ⟨k, hk⟩) hok.1 P3'.2.2.1 P3'.2.2.2.2.2.2.1) (wd50 hw) (wd51 hw) (S18.nf (wd53 hw)) (wd53 hw) (wd52 hw) (wd3 hw) (wd54 hw) (by decide) P3'.1 at_160 rfl pd8 (argsL := [(.int (own_pick (own_ln s0) (own_ln s0 + own_ln s1) (own_ln s0 + own_ln s1 + own_ln s2) lo).toInt32), (.int (own_pick (own_ln s0) (own_ln s0 + own_ln s1) (own_ln s0 + own_ln s1 + own_ln s2) hi).toInt32)]) rfl rfl rfl (by decide) (W := 0) rfl (by decide) (by decide) (by decide) all0 (pc' := 163) rfl ?_
  intro v19 T19 h19 L19 S19 K19 q19
  rw [hok.2.1] at q19
  obtain ⟨rfl, rfl⟩ := q19
  show Go _ _ _ _ T19 (mkF m 163 #[.val (.int sx), .val (.int px), .val (.int qx), .val (.int s0), .val (.int s1), .val (.int s2), .val (.ref a1), .val (.ref a4), .val (.ref a9), .val (.int i), .val (.int j), .val (.int lo), .val (.int hi), .unset] [(.int (hi - lo))])
  refine Go.istore S19 at_163 (Ls' := #[.val (.int sx), .val (.int px), .val (.int qx), .val (.int s0), .val (.int s1), .val (.int s2), .val (.ref a1), .val (.ref a4), .val (.ref a9), .val (.int i), .val (.int j), .val (.int lo), .val (.int hi), .val (.int (hi - lo))]) rfl (pc' := 165) rfl ?_
  refine Go.iload S19 at_165 rfl (pc' := 167) rfl ?_
  refine Go.iload S19 at_167 rfl (pc' := 169) rfl ?_
  refine Go.iload S19 at_169 rfl (pc' := 171) rfl ?_
  refine Go.isub S19 at_171 (pc' := 172) rfl ?_
  refine Go.icmp_ne S19 at_172 (pt := 179) (by decide) (pc' := 175) rfl ?_ ?_
  · intro c172; exact absurd rfl c172
  · intro c172
    refine Go.iconst S19 (v := 1) at_175 rfl (pc' := 176) rfl ?_
    refine Go.goto S19 at_176 (pc' := 180) (by decide) ?_
    exact Go.zreturn S19 rfl (by decide) at_180 (z' := (1 : Int32)) rfl (by decide) (by decide) (rfl)
set_option maxRecDepth 65536 in
set_option maxHeartbeats 4000000 in
theorem comes_1 {Post : Tables → Env → Array Value → State → Outcome → State → Prop} (hpost : ∀ tb e args s v u, (limb_1_1.after args s (.returned v) u = true ∧ limb_1_2.after args s (.returned v) u = true ∧ True) → FrameEnd s (.returned v) u (Jvm.fieldLocs frame_1_writes args s ++ Jvm.arrayLocs frame_1_arrays args s ++ Jvm.staticLocs frame_1_statics s) 24 192 → Post tb e args s (.returned v) u) :
    ArmFor flags0 classFile x code maxLocals ret World_1 tables_1 room_1 Calls_1 rest_1 Pre_1 Post := by
  intro l hfl _ _ p e ha hc hk s m args below hf hA hF happ hP
  obtain ⟨hcalls, hrest, hpre⟩ := hP
  obtain ⟨-, -, -, hnamed, -, -, -, hat⟩ := (Spec.applies_iff hf).mp happ
  obtain ⟨hg, hn⟩ := and_e (Cond.before_iff.mp (show (Jvm.Cond.and given_1 narrow_1).before args s = true from hpre))
  obtain ⟨g1a, g1b⟩ := and_e hg
  obtain ⟨g2a, g2b⟩ := and_e g1b
  obtain ⟨g3a, g3b⟩ := and_e g2b
  obtain ⟨w0, w1, w2, rfl⟩ : ∃ w0 w1 w2 : Value, args = #[w0, w1, w2] := by
    have hs : args.size = 3 := by simpa [Cond.value, given_1] using g1a
    obtain ⟨L⟩ := args
    match L, hs with
    | [w0, w1, w2], _ => exact ⟨w0, w1, w2, rfl⟩
  have hw : HW s _ := fun d (hd : d ∈ tables_1) => atoms_spec (ws := Jvm.Cond.code x code maxLocals ret :: tables_1) hat d (List.mem_cons_of_mem _ hd)
  have hfit : Fit s := fun {y c} hc i hi => by
    obtain ⟨ha, rfl⟩ := Array.getElem?_eq_some_iff.mp hc
    have q := List.all_eq_true.mp ((Array.all_eq_true_iff_forall_mem.mp hF) _ (Array.getElem_mem ha)) i (List.mem_range.mpr hi)
    simpa [Array.getElem?_eq_getElem hi] using q
  obtain ⟨i0, ei0⟩ := is_v g2a
  obtain rfl : w0 = (.int i0) := Option.some.inj ei0
  obtain ⟨i1, ei1⟩ := is_v g3a
  obtain rfl : w1 = (.int i1) := Option.some.inj ei1
  obtain ⟨i2, ei2⟩ := is_v g3b
  obtain rfl : w2 = (.int i2) := Option.some.inj ei2
  obtain ⟨n, o, h1, h2, h3, _, L, rfl, ⟨N, -, -, rfl⟩, hq⟩ := rm_code (l := l) hw i0 i1 i2  (h0 := s.heap) ⟨Nat.le_refl _, fun _ _ q => q⟩  tables_1 p e ha hc hk s m _ below hf ((Spec.applies_iff_loose hf).mp happ).1 ⟨rfl, State.Warmed39.refl s, rfl⟩ trivial
  refine ⟨n, _, h1, h2, h3, hpost _ _ _ _ _ _ ⟨Cond.after_iff.mpr rfl, Cond.after_iff.mpr (eq_i res_at (Term.int_eval (1)) rfl), trivial⟩ ⟨hq.1, hq.2.1, (hq.2.2.sift fun y hy => Or.inr (N y hy)).mono (by decide) (by decide)⟩⟩
theorem main_1_1 : Claimed_1_1 := comes_1 fun _ _ _ _ _ _ h hF => ⟨h.1, hF⟩
theorem main_1_2 : Claimed_1_2 := comes_1 fun _ _ _ _ _ _ h hF => ⟨h.2.1, hF⟩
end Jvm.Pilot.@@N@@
namespace Jvm.Pilot.@@N@@
open Jvm Jvm.ClassFile Sem Op Lib Jvm.Free Jvm.Stand Jvm.Pilot.@@N@@.Jvm.D
/-! MADE BY PROGRAM (witnessworld.py) out of the Statement's table words and the real class files: 10 classes; the members and pool entries that the words name. The judged class is class 1, her method 3. -/
namespace start1
open Jvm.ClassFile
def u (s : String) : CpInfo := .utf8 (stringToUtf16 s)
/-- a pool by its gaps: so many unusable entries, then the entry; so many at the end -/
def gap : Nat → List CpInfo → List CpInfo
  | 0, r => r
  | n + 1, r => .unusable :: gap n r
def poolList (es : List (Nat × CpInfo)) (last : Nat) : List CpInfo := es.foldr (fun e r => gap e.1 (e.2 :: r)) (gap last [])
def pool (es : List (Nat × CpInfo)) (last : Nat) : Array CpInfo := ⟨poolList es last⟩
def fileOf (pool : Array CpInfo) (this : Nat) (attrs : Array Attribute := #[]) (ms : Array MethodInfo := #[]) (fl : Nat := 33) (sup : Nat := 0) (ifs : Array Nat := #[]) (fds : Array FieldInfo := #[]) : ClassFile where
  minorVersion := 0
  majorVersion := 65
  constantPool := pool
  accessFlags := fl
  thisClass := this
  superClass := sup
  interfaces := ifs
  fields := fds
  methods := ms
  attributes := attrs
def plain (name : String) (sup : Option ClassId) : Class where
  name := name
  kind := .ordinary
  loader := none
  accessFlags := 33
  super := sup
  interfaces := #[]
  cf := none
  fields := #[]
  methods := #[]
  instanceTypes := #[]
  staticTypes := #[]
  resolved := #[]
  callSites := []
  init := .initialized
  statics := none
  mirror := none

def pool0 : Array CpInfo := pool [(5, u "<init>"), (0, u "()V"), (1, .class_ 10), (1, u "java/lang/Object")] 113

def k0c0 : Code := { maxStack := 0, maxLocals := 1, code := object_method_1_code, exceptionTable := #[], attributes := #[] }
def k0m0 : Method := { name := "<init>", desc := "()V", sig := { parameters := [], returnType := none }, accessFlags := 1, code := some k0c0 }
/-- java/lang/Object -/
def k0 : Class := { plain "java/lang/Object" none with
  accessFlags := 33
  interfaces := #[]
  cf := some (fileOf pool0 8 #[] #[{ accessFlags := 1, nameIndex := 5, descriptorIndex := 6, attributes := #[] }] 33 0 #[] #[])
  fields := #[]
  methods := #[k0m0]
  instanceTypes := #[]
  staticTypes := #[]
  resolved := Array.replicate 124 none
  statics := none }

def pool1 : Array CpInfo := pool [(2, .class_ 4), (0, .nameAndType 5 6), (0, u "java/lang/Object"), (0, u "<init>"), (0, u "()V"), (0, .methodref 8 9), (0, .class_ 10), (0, .nameAndType 11 12), (0, u "com/example/hypermedia_forms/hypermediaforms/PatternTree"), (0, u "addLeaf"), (0, u "([I)I"), (0, .methodref 8 14), (0, .nameAndType 15 16), (0, u "addEmpty"), (0, u "()I"), (0, .methodref 8 18), (0, .nameAndType 19 20), (0, u "addParent"), (0, u "(BI)I"), (0, .methodref 8 3), (0, .methodref 23 24), (0, .class_ 25), (0, .nameAndType 26 27), (0, u "com/example/hypermedia_forms/hypermediaforms/PatternTreeSubtreesPinLaw"), (0, u "addShape"), (0, u "(Lcom/example/hypermedia_forms/hypermediaforms/PatternTree;I[I)V"), (0, .methodref 23 29), (0, .nameAndType 30 31), (0, u "len"), (0, u "(I)I"), (0, .integer 2147483647), (0, .methodref 34 35), (0, .class_ 36), (0, .nameAndType 37 38), (0, u "java/lang/Math"), (0, u "min"), (0, u "(II)I"), (0, .methodref 34 40), (0, .nameAndType 41 38), (0, u "max"), (0, .methodref 8 43), (0, .nameAndType 44 38), (0, u "subtrees"), (3, u "law"), (0, u "(III)Z")] 4

def k1m0 : Method := { name := "<init>", desc := "()V", sig := { parameters := [], returnType := none }, accessFlags := 1, code := none }
def k1c1 : Code := { maxStack := 2, maxLocals := 1, code := method_2_code, exceptionTable := #[], attributes := #[] }
def k1m1 : Method := { name := "len", desc := "(I)I", sig := { parameters := [.int], returnType := some .int }, accessFlags := 10, code := some k1c1 }
def k1c2 : Code := { maxStack := 3, maxLocals := 4, code := method_3_code, exceptionTable := #[], attributes := #[] }
def k1m2 : Method := { name := "addShape", desc := "(Lcom/example/hypermedia_forms/hypermediaforms/PatternTree;I[I)V", sig := { parameters := [(.object "com/example/hypermedia_forms/hypermediaforms/PatternTree"), .int, (.array .int)], returnType := none }, accessFlags := 10, code := some k1c2 }
def k1c3 : Code := { maxStack := 4, maxLocals := 14, code := code, exceptionTable := #[], attributes := #[] }
def k1m3 : Method := { name := "law", desc := "(III)Z", sig := { parameters := [.int, .int, .int], returnType := some .boolean }, accessFlags := 9, code := some k1c3 }
/-- com/example/hypermedia_forms/hypermediaforms/PatternTreeSubtreesPinLaw -/
def k1 : Class := { plain "com/example/hypermedia_forms/hypermediaforms/PatternTreeSubtreesPinLaw" (some 0) with
  accessFlags := 49
  interfaces := #[]
  cf := some (fileOf pool1 23 #[] #[{ accessFlags := 1, nameIndex := 5, descriptorIndex := 6, attributes := #[] }, { accessFlags := 10, nameIndex := 30, descriptorIndex := 31, attributes := #[] }, { accessFlags := 10, nameIndex := 26, descriptorIndex := 27, attributes := #[] }, { accessFlags := 9, nameIndex := 48, descriptorIndex := 49, attributes := #[] }] 49 2 #[] #[])
  fields := #[]
  methods := #[k1m0, k1m1, k1m2, k1m3]
  instanceTypes := #[]
  staticTypes := #[]
  resolved := Array.replicate 54 none
  statics := none }

def pool2 : Array CpInfo := pool [(1, .methodref 2 3), (0, .class_ 4), (0, .nameAndType 5 6), (0, u "java/lang/Object"), (0, u "<init>"), (0, u "()V"), (0, .fieldref 8 9), (0, .class_ 10), (0, .nameAndType 11 12), (0, u "com/example/hypermedia_forms/hypermediaforms/PatternTree"), (0, u "kinds"), (0, u "[B"), (0, .fieldref 8 14), (0, .nameAndType 15 16), (0, u "firsts"), (0, u "[I"), (0, .class_ 16), (0, .fieldref 8 19), (0, .nameAndType 20 21), (0, u "sets"), (0, u "[[I"), (0, .fieldref 8 23), (0, .nameAndType 24 25), (0, u "size"), (0, u "I"), (0, .methodref 8 27), (0, .nameAndType 28 29), (0, u "add"), (0, u "(BI[I)I"), (0, .class_ 31), (0, u "com/example/hypermedia_forms/hypermediaforms/PatternTree$Fragment"), (2, u "(I)V"), (6, .methodref 8 42), (0, .nameAndType 43 34), (0, u "reserve"), (0, .methodref 45 46), (0, .class_ 47), (0, .nameAndType 48 49), (0, u "java/lang/Math"), (0, u "max"), (0, u "(II)I"), (13, u "LEAF"), (0, u "B"), (2, u "EMPTY"), (1, u "SEQUENCE"), (1, u "CHOICE"), (1, u "LOOP"), (1, u "OPTION"), (3, u "()I"), (6, u "addLeaf"), (0, u "([I)I"), (0, u "addEmpty"), (0, u "addParent"), (0, u "(BI)I"), (0, u "subtrees")] 10

def k2c0 : Code := { maxStack := 2, maxLocals := 1, code := prog_45_method_1_code, exceptionTable := #[], attributes := #[] }
def k2m0 : Method := { name := "<init>", desc := "()V", sig := { parameters := [], returnType := none }, accessFlags := 0, code := some k2c0 }
def k2c1 : Code := { maxStack := 4, maxLocals := 2, code := prog_45_method_6_code, exceptionTable := #[], attributes := #[] }
def k2m1 : Method := { name := "addLeaf", desc := "([I)I", sig := { parameters := [(.array .int)], returnType := some .int }, accessFlags := 0, code := some k2c1 }
def k2c2 : Code := { maxStack := 4, maxLocals := 1, code := prog_45_method_7_code, exceptionTable := #[], attributes := #[] }
def k2m2 : Method := { name := "addEmpty", desc := "()I", sig := { parameters := [], returnType := some .int }, accessFlags := 0, code := some k2c2 }
def k2c3 : Code := { maxStack := 4, maxLocals := 3, code := prog_45_method_8_code, exceptionTable := #[], attributes := #[] }
def k2m3 : Method := { name := "addParent", desc := "(BI)I", sig := { parameters := [.byte, .int], returnType := some .int }, accessFlags := 0, code := some k2c3 }
def k2c4 : Code := { maxStack := 2, maxLocals := 5, code := prog_45_method_9_code, exceptionTable := #[], attributes := #[] }
def k2m4 : Method := { name := "subtrees", desc := "(II)I", sig := { parameters := [.int, .int], returnType := some .int }, accessFlags := 0, code := some k2c4 }
def k2c5 : Code := { maxStack := 4, maxLocals := 4, code := prog_45_method_12_code, exceptionTable := #[], attributes := #[] }
def k2m5 : Method := { name := "add", desc := "(BI[I)I", sig := { parameters := [.byte, .int, (.array .int)], returnType := some .int }, accessFlags := 2, code := some k2c5 }
def k2c6 : Code := { maxStack := 3, maxLocals := 3, code := prog_45_method_13_code, exceptionTable := #[], attributes := #[] }
def k2m6 : Method := { name := "reserve", desc := "(I)V", sig := { parameters := [.int], returnType := none }, accessFlags := 2, code := some k2c6 }
/-- com/example/hypermedia_forms/hypermediaforms/PatternTree -/
def k2 : Class := { plain "com/example/hypermedia_forms/hypermediaforms/PatternTree" (some 0) with
  accessFlags := 48
  interfaces := #[]
  cf := some (fileOf pool2 8 #[.nestMembers #[30]] #[{ accessFlags := 0, nameIndex := 5, descriptorIndex := 6, attributes := #[] }, { accessFlags := 0, nameIndex := 86, descriptorIndex := 87, attributes := #[] }, { accessFlags := 0, nameIndex := 88, descriptorIndex := 79, attributes := #[] }, { accessFlags := 0, nameIndex := 89, descriptorIndex := 90, attributes := #[] }, { accessFlags := 0, nameIndex := 91, descriptorIndex := 49, attributes := #[] }, { accessFlags := 2, nameIndex := 28, descriptorIndex := 29, attributes := #[] }, { accessFlags := 2, nameIndex := 43, descriptorIndex := 34, attributes := #[] }] 48 2 #[] #[{ accessFlags := 24, nameIndex := 63, descriptorIndex := 64, attributes := #[] }, { accessFlags := 24, nameIndex := 67, descriptorIndex := 64, attributes := #[] }, { accessFlags := 24, nameIndex := 69, descriptorIndex := 64, attributes := #[] }, { accessFlags := 24, nameIndex := 71, descriptorIndex := 64, attributes := #[] }, { accessFlags := 24, nameIndex := 73, descriptorIndex := 64, attributes := #[] }, { accessFlags := 24, nameIndex := 75, descriptorIndex := 64, attributes := #[] }, { accessFlags := 2, nameIndex := 11, descriptorIndex := 12, attributes := #[] }, { accessFlags := 2, nameIndex := 15, descriptorIndex := 16, attributes := #[] }, { accessFlags := 2, nameIndex := 20, descriptorIndex := 21, attributes := #[] }, { accessFlags := 2, nameIndex := 24, descriptorIndex := 25, attributes := #[] }])
  fields := #[{ name := "LEAF", type := .byte, accessFlags := 24, slot := 0, constantValue := 0 }, { name := "EMPTY", type := .byte, accessFlags := 24, slot := 1, constantValue := 0 }, { name := "SEQUENCE", type := .byte, accessFlags := 24, slot := 2, constantValue := 0 }, { name := "CHOICE", type := .byte, accessFlags := 24, slot := 3, constantValue := 0 }, { name := "LOOP", type := .byte, accessFlags := 24, slot := 4, constantValue := 0 }, { name := "OPTION", type := .byte, accessFlags := 24, slot := 5, constantValue := 0 }, { name := "kinds", type := (.array .byte), accessFlags := 2, slot := 0, constantValue := 0 }, { name := "firsts", type := (.array .int), accessFlags := 2, slot := 1, constantValue := 0 }, { name := "sets", type := (.array (.array .int)), accessFlags := 2, slot := 2, constantValue := 0 }, { name := "size", type := .int, accessFlags := 2, slot := 3, constantValue := 0 }]
  methods := #[k2m0, k2m1, k2m2, k2m3, k2m4, k2m5, k2m6]
  instanceTypes := #[(.array .byte), (.array .int), (.array (.array .int)), .int]
  staticTypes := #[.byte, .byte, .byte, .byte, .byte, .byte]
  resolved := Array.replicate 102 none
  statics := none }

def pool3 : Array CpInfo := pool [(1, .class_ 2), (0, u "java/lang/Math"), (1, .class_ 6), (1, u "java/lang/Object"), (0, u "<init>"), (0, u "()V"), (89, .class_ 100), (1, u "java/lang/Math$RandomNumberGeneratorHolder"), (71, u "negativeZeroFloatBits"), (0, u "J"), (2, u "negativeZeroDoubleBits"), (21, u "max"), (2, u "min"), (43, u "$assertionsDisabled"), (0, u "Z"), (88, u "(II)I"), (2, u "twoToTheDoubleScaleDown"), (0, u "D"), (4, u "twoToTheDoubleScaleUp"), (9, u "E"), (3, u "PI"), (2, u "TAU"), (2, u "DEGREES_TO_RADIANS"), (0, u "RADIANS_TO_DEGREES")] 94

def k3m0 : Method := { name := "<init>", desc := "()V", sig := { parameters := [], returnType := none }, accessFlags := 2, code := none }
def k3c1 : Code := { maxStack := 2, maxLocals := 2, code := jdk_29_method_65_code, exceptionTable := #[], attributes := #[] }
def k3m1 : Method := { name := "max", desc := "(II)I", sig := { parameters := [.int, .int], returnType := some .int }, accessFlags := 9, code := some k3c1 }
def k3c2 : Code := { maxStack := 2, maxLocals := 2, code := jdk_29_method_69_code, exceptionTable := #[], attributes := #[] }
def k3m2 : Method := { name := "min", desc := "(II)I", sig := { parameters := [.int, .int], returnType := some .int }, accessFlags := 9, code := some k3c2 }
/-- java/lang/Math -/
def k3 : Class := { plain "java/lang/Math" (some 0) with
  accessFlags := 49
  interfaces := #[]
  cf := some (fileOf pool3 1 #[.nestMembers #[98]] #[{ accessFlags := 2, nameIndex := 7, descriptorIndex := 8, attributes := #[] }, { accessFlags := 9, nameIndex := 198, descriptorIndex := 335, attributes := #[] }, { accessFlags := 9, nameIndex := 201, descriptorIndex := 335, attributes := #[] }] 49 4 #[] #[{ accessFlags := 25, nameIndex := 354, descriptorIndex := 339, attributes := #[] }, { accessFlags := 25, nameIndex := 358, descriptorIndex := 339, attributes := #[] }, { accessFlags := 25, nameIndex := 361, descriptorIndex := 339, attributes := #[] }, { accessFlags := 26, nameIndex := 364, descriptorIndex := 339, attributes := #[] }, { accessFlags := 26, nameIndex := 365, descriptorIndex := 339, attributes := #[] }, { accessFlags := 26, nameIndex := 172, descriptorIndex := 173, attributes := #[] }, { accessFlags := 26, nameIndex := 176, descriptorIndex := 173, attributes := #[] }, { accessFlags := 8, nameIndex := 344, descriptorIndex := 339, attributes := #[] }, { accessFlags := 8, nameIndex := 338, descriptorIndex := 339, attributes := #[] }, { accessFlags := 4120, nameIndex := 245, descriptorIndex := 246, attributes := #[] }])
  fields := #[{ name := "E", type := .double, accessFlags := 25, slot := 0, constantValue := 0 }, { name := "PI", type := .double, accessFlags := 25, slot := 1, constantValue := 0 }, { name := "TAU", type := .double, accessFlags := 25, slot := 2, constantValue := 0 }, { name := "DEGREES_TO_RADIANS", type := .double, accessFlags := 26, slot := 3, constantValue := 0 }, { name := "RADIANS_TO_DEGREES", type := .double, accessFlags := 26, slot := 4, constantValue := 0 }, { name := "negativeZeroFloatBits", type := .long, accessFlags := 26, slot := 5, constantValue := 0 }, { name := "negativeZeroDoubleBits", type := .long, accessFlags := 26, slot := 6, constantValue := 0 }, { name := "twoToTheDoubleScaleUp", type := .double, accessFlags := 8, slot := 7, constantValue := 0 }, { name := "twoToTheDoubleScaleDown", type := .double, accessFlags := 8, slot := 8, constantValue := 0 }, { name := "$assertionsDisabled", type := .boolean, accessFlags := 4120, slot := 9, constantValue := 0 }]
  methods := #[k3m0, k3m1, k3m2]
  instanceTypes := #[]
  staticTypes := #[.double, .double, .double, .double, .double, .long, .long, .double, .double, .boolean]
  resolved := Array.replicate 460 none
  statics := none }

def pool4 : Array CpInfo := pool [(1, u "java/lang/Cloneable"), (0, .class_ 1), (0, u "java/lang/Object"), (0, .class_ 3)] 3

/-- java/lang/Cloneable -/
def k4 : Class := { plain "java/lang/Cloneable" (some 0) with
  accessFlags := 1537
  interfaces := #[]
  cf := some (fileOf pool4 2 #[] #[] 1537 4 #[] #[])
  fields := #[]
  methods := #[]
  instanceTypes := #[]
  staticTypes := #[]
  resolved := Array.replicate 8 none
  statics := none }

def pool5 : Array CpInfo := pool [(1, u "java/io/Serializable"), (0, .class_ 1), (0, u "java/lang/Object"), (0, .class_ 3)] 3

/-- java/io/Serializable -/
def k5 : Class := { plain "java/io/Serializable" (some 0) with
  accessFlags := 1537
  interfaces := #[]
  cf := some (fileOf pool5 2 #[] #[] 1537 4 #[] #[])
  fields := #[]
  methods := #[]
  instanceTypes := #[]
  staticTypes := #[]
  resolved := Array.replicate 8 none
  statics := none }

/-- the primitive byte -/
def k6 : Class := { plain "byte" none with kind := .primitive 'B', accessFlags := 0x411 }
/-- [B -/
def k7 : Class := { plain "[B" (some 0) with kind := .array 6 .byte, interfaces := #[4, 5], accessFlags := 1041 }

/-- the primitive int -/
def k8 : Class := { plain "int" none with kind := .primitive 'I', accessFlags := 0x411 }
/-- [I -/
def k9 : Class := { plain "[I" (some 0) with kind := .array 8 .int, interfaces := #[4, 5], accessFlags := 1041 }
/-- [[I -/
def k10 : Class := { plain "[[I" (some 0) with kind := .array 9 (.array .int), interfaces := #[4, 5], accessFlags := 1041 }

def heap : Heap := #[]
def classes : Array Class := #[k0, k1, k2, k3, k4, k5, k6, k7, k8, k9, k10]
def interned : List (Array UInt16 × Addr) := []
def slotsUsed : Nat := 0
def theMethod : MethodId := ⟨1, 3⟩
def args0 : Array Value := #[.int 27, .int 1, .int 3]
def aboutOver (below : List Frame) : State where
  vm := { classes := classes, interned := interned.toArray }
  heap := heap
  slotsUsed := slotsUsed
  threads := #[{ frames := .invoking theMethod args0 :: below }]
def below0 : List Frame := [.native { method := ⟨0, 0⟩, args := #[] }]
def about1 : State := aboutOver below0
def p0 : Program := .bare "" "" ""
def e0 : Env := launch0.env 0 0 0
theorem w_frames : about1.frames = Frame.invoking theMethod args0 :: below0 := rfl
set_option maxRecDepth 65536 in
theorem w_args : argsFit about1.vm theMethod args0 = true := by decide +kernel
set_option maxRecDepth 65536 in
theorem w_heap : heapFits about1 = true := by decide +kernel
set_option maxRecDepth 65536 in
theorem w_runnable : about1.curStatus? = some .runnable := by decide +kernel
set_option maxRecDepth 65536 in
theorem w_alone : about1.alone = true := by decide +kernel
set_option maxRecDepth 65536 in
theorem w_named : about1.methodNamed? x = some theMethod := by decide +kernel
set_option maxRecDepth 65536 in
theorem w_hears : about1.hears theMethod below0 = true := by decide +kernel
set_option maxRecDepth 65536 in
theorem w_ripe : about1.ripe theMethod args0 below0 = true := by decide +kernel
theorem w_running : about1.status = .running := rfl
set_option maxRecDepth 65536 in
theorem w_room : about1.hasRoom e0.platform room_1 = true :=
  launch0.hasRoom_least _ room_1 (by decide +kernel) (by decide +kernel) (by decide +kernel) (by decide +kernel) (by decide +kernel) (by decide +kernel)
theorem allAtoms_all (ts : List Jvm.Cond) (a : Array Jvm.Value) (st : Jvm.State) : (allAtoms ts).before a st = ts.all (fun c => c.before a st) := by
  induction ts with
  | nil => rfl
  | cons c t ih =>
    show (Jvm.Cond.and c (allAtoms t)).before a st = _
    rw [Jvm.Cond.before_and, ih, List.all_cons]
def words1 : List Jvm.Cond := Jvm.Cond.code x code maxLocals ret :: tables_1
/-- a 'code' word, met by the world's own term for the bytes: nothing is compared byte by byte -/
theorem code_word {y : MethodName} {bytes : ByteArray} {mx : Nat} {rt : Option FieldType} {a : Array Value} {s : State} {m : MethodId} {meth : Method} {c : Code} (h1 : s.methodNamed? y = some m) (h2 : s.vm.method? m = some meth) (h3 : meth.code = some c) (h4 : c.code = bytes)
    (h5 : (c.maxLocals == mx && c.exceptionTable.isEmpty && decide (c.maxStack ≤ mostOperands) && decide (meth.sig.returnType = rt) && !meth.locks && decide (parseMethodDescriptor y.desc = some meth.sig)) = true) : (Jvm.Cond.code y bytes mx rt).before a s = true := by
  simp only [Bool.and_eq_true, beq_iff_eq, Bool.not_eq_true', decide_eq_true_eq] at h5
  obtain ⟨⟨⟨⟨⟨g1, g2⟩, g3⟩, g4⟩, g5⟩, g6⟩ := h5
  simp [Cond.before, Cond.holds, Cond.value, h1, h2, h3, h4, g1, g2, g3, g4, g5, g6]
def isCode : Jvm.Cond → Bool
  | .code _ _ _ _ => true
  | _ => false
theorem all_split {L : List Jvm.Cond} {P : Jvm.Cond → Bool} (h1 : L.all (fun c => isCode c || P c) = true) (h2 : ∀ c ∈ L.filter isCode, P c = true) : L.all P = true := by
  refine List.all_eq_true.mpr fun c hc => ?_
  have h := List.all_eq_true.mp h1 c hc
  rcases Bool.eq_false_or_eq_true (isCode c) with hi | hi
  · exact h2 c (List.mem_filter.mpr ⟨hc, hi⟩)
  · simpa [hi] using h
set_option maxRecDepth 65536 in
theorem w_c0 : (Jvm.Cond.code x code maxLocals ret).before args0 about1 = true := code_word (m := ⟨1, 3⟩) (meth := k1m3) (c := k1c3) (by decide +kernel) rfl rfl rfl (by decide +kernel)
set_option maxRecDepth 65536 in
theorem w_c1 : (Jvm.Cond.code ({ cls := "com/example/hypermedia_forms/hypermediaforms/PatternTree", name := "<init>", desc := "()V" } : Jvm.MethodName) prog_45_method_1_code (1 : Nat) (Option.none : Option Jvm.ClassFile.FieldType)).before args0 about1 = true := code_word (m := ⟨2, 0⟩) (meth := k2m0) (c := k2c0) (by decide +kernel) rfl rfl rfl (by decide +kernel)
set_option maxRecDepth 65536 in
theorem w_c2 : (Jvm.Cond.code ({ cls := "java/lang/Object", name := "<init>", desc := "()V" } : Jvm.MethodName) object_method_1_code (1 : Nat) (Option.none : Option Jvm.ClassFile.FieldType)).before args0 about1 = true := code_word (m := ⟨0, 0⟩) (meth := k0m0) (c := k0c0) (by decide +kernel) rfl rfl rfl (by decide +kernel)
set_option maxRecDepth 65536 in
theorem w_c3 : (Jvm.Cond.code ({ cls := "com/example/hypermedia_forms/hypermediaforms/PatternTreeSubtreesPinLaw", name := "addShape", desc := "(Lcom/example/hypermedia_forms/hypermediaforms/PatternTree;I[I)V" } : Jvm.MethodName) method_3_code (4 : Nat) (Option.none : Option Jvm.ClassFile.FieldType)).before args0 about1 = true := code_word (m := ⟨1, 2⟩) (meth := k1m2) (c := k1c2) (by decide +kernel) rfl rfl rfl (by decide +kernel)
set_option maxRecDepth 65536 in
theorem w_c4 : (Jvm.Cond.code ({ cls := "com/example/hypermedia_forms/hypermediaforms/PatternTree", name := "addLeaf", desc := "([I)I" } : Jvm.MethodName) prog_45_method_6_code (2 : Nat) (Option.some Jvm.ClassFile.FieldType.int)).before args0 about1 = true := code_word (m := ⟨2, 1⟩) (meth := k2m1) (c := k2c1) (by decide +kernel) rfl rfl rfl (by decide +kernel)
set_option maxRecDepth 65536 in
theorem w_c5 : (Jvm.Cond.code ({ cls := "com/example/hypermedia_forms/hypermediaforms/PatternTree", name := "add", desc := "(BI[I)I" } : Jvm.MethodName) prog_45_method_12_code (4 : Nat) (Option.some Jvm.ClassFile.FieldType.int)).before args0 about1 = true := code_word (m := ⟨2, 5⟩) (meth := k2m5) (c := k2c5) (by decide +kernel) rfl rfl rfl (by decide +kernel)
set_option maxRecDepth 65536 in
theorem w_c6 : (Jvm.Cond.code ({ cls := "com/example/hypermedia_forms/hypermediaforms/PatternTree", name := "reserve", desc := "(I)V" } : Jvm.MethodName) prog_45_method_13_code (3 : Nat) (Option.none : Option Jvm.ClassFile.FieldType)).before args0 about1 = true := code_word (m := ⟨2, 6⟩) (meth := k2m6) (c := k2c6) (by decide +kernel) rfl rfl rfl (by decide +kernel)
set_option maxRecDepth 65536 in
theorem w_c7 : (Jvm.Cond.code ({ cls := "com/example/hypermedia_forms/hypermediaforms/PatternTreeSubtreesPinLaw", name := "len", desc := "(I)I" } : Jvm.MethodName) method_2_code (1 : Nat) (Option.some Jvm.ClassFile.FieldType.int)).before args0 about1 = true := code_word (m := ⟨1, 1⟩) (meth := k1m1) (c := k1c1) (by decide +kernel) rfl rfl rfl (by decide +kernel)
set_option maxRecDepth 65536 in
theorem w_c8 : (Jvm.Cond.code ({ cls := "java/lang/Math", name := "min", desc := "(II)I" } : Jvm.MethodName) jdk_29_method_69_code (2 : Nat) (Option.some Jvm.ClassFile.FieldType.int)).before args0 about1 = true := code_word (m := ⟨3, 2⟩) (meth := k3m2) (c := k3c2) (by decide +kernel) rfl rfl rfl (by decide +kernel)
set_option maxRecDepth 65536 in
theorem w_c9 : (Jvm.Cond.code ({ cls := "java/lang/Math", name := "max", desc := "(II)I" } : Jvm.MethodName) jdk_29_method_65_code (2 : Nat) (Option.some Jvm.ClassFile.FieldType.int)).before args0 about1 = true := code_word (m := ⟨3, 1⟩) (meth := k3m1) (c := k3c1) (by decide +kernel) rfl rfl rfl (by decide +kernel)
set_option maxRecDepth 65536 in
theorem w_c10 : (Jvm.Cond.code ({ cls := "com/example/hypermedia_forms/hypermediaforms/PatternTree", name := "subtrees", desc := "(II)I" } : Jvm.MethodName) prog_45_method_9_code (5 : Nat) (Option.some Jvm.ClassFile.FieldType.int)).before args0 about1 = true := code_word (m := ⟨2, 4⟩) (meth := k2m4) (c := k2c4) (by decide +kernel) rfl rfl rfl (by decide +kernel)
set_option maxRecDepth 65536 in
theorem w_c11 : (Jvm.Cond.code ({ cls := "com/example/hypermedia_forms/hypermediaforms/PatternTree", name := "addEmpty", desc := "()I" } : Jvm.MethodName) prog_45_method_7_code (1 : Nat) (Option.some Jvm.ClassFile.FieldType.int)).before args0 about1 = true := code_word (m := ⟨2, 2⟩) (meth := k2m2) (c := k2c2) (by decide +kernel) rfl rfl rfl (by decide +kernel)
set_option maxRecDepth 65536 in
theorem w_c12 : (Jvm.Cond.code ({ cls := "com/example/hypermedia_forms/hypermediaforms/PatternTree", name := "addParent", desc := "(BI)I" } : Jvm.MethodName) prog_45_method_8_code (3 : Nat) (Option.some Jvm.ClassFile.FieldType.int)).before args0 about1 = true := code_word (m := ⟨2, 3⟩) (meth := k2m3) (c := k2c3) (by decide +kernel) rfl rfl rfl (by decide +kernel)
def codes1 : List Jvm.Cond := [Jvm.Cond.code x code maxLocals ret, Jvm.Cond.code ({ cls := "com/example/hypermedia_forms/hypermediaforms/PatternTree", name := "<init>", desc := "()V" } : Jvm.MethodName) prog_45_method_1_code (1 : Nat) (Option.none : Option Jvm.ClassFile.FieldType), Jvm.Cond.code ({ cls := "java/lang/Object", name := "<init>", desc := "()V" } : Jvm.MethodName) object_method_1_code (1 : Nat) (Option.none : Option Jvm.ClassFile.FieldType), Jvm.Cond.code ({ cls := "com/example/hypermedia_forms/hypermediaforms/PatternTreeSubtreesPinLaw", name := "addShape", desc := "(Lcom/example/hypermedia_forms/hypermediaforms/PatternTree;I[I)V" } : Jvm.MethodName) method_3_code (4 : Nat) (Option.none : Option Jvm.ClassFile.FieldType), Jvm.Cond.code ({ cls := "com/example/hypermedia_forms/hypermediaforms/PatternTree", name := "addLeaf", desc := "([I)I" } : Jvm.MethodName) prog_45_method_6_code (2 : Nat) (Option.some Jvm.ClassFile.FieldType.int), Jvm.Cond.code ({ cls := "com/example/hypermedia_forms/hypermediaforms/PatternTree", name := "add", desc := "(BI[I)I" } : Jvm.MethodName) prog_45_method_12_code (4 : Nat) (Option.some Jvm.ClassFile.FieldType.int), Jvm.Cond.code ({ cls := "com/example/hypermedia_forms/hypermediaforms/PatternTree", name := "reserve", desc := "(I)V" } : Jvm.MethodName) prog_45_method_13_code (3 : Nat) (Option.none : Option Jvm.ClassFile.FieldType), Jvm.Cond.code ({ cls := "com/example/hypermedia_forms/hypermediaforms/PatternTreeSubtreesPinLaw", name := "len", desc := "(I)I" } : Jvm.MethodName) method_2_code (1 : Nat) (Option.some Jvm.ClassFile.FieldType.int), Jvm.Cond.code ({ cls := "java/lang/Math", name := "min", desc := "(II)I" } : Jvm.MethodName) jdk_29_method_69_code (2 : Nat) (Option.some Jvm.ClassFile.FieldType.int), Jvm.Cond.code ({ cls := "java/lang/Math", name := "max", desc := "(II)I" } : Jvm.MethodName) jdk_29_method_65_code (2 : Nat) (Option.some Jvm.ClassFile.FieldType.int), Jvm.Cond.code ({ cls := "com/example/hypermedia_forms/hypermediaforms/PatternTree", name := "subtrees", desc := "(II)I" } : Jvm.MethodName) prog_45_method_9_code (5 : Nat) (Option.some Jvm.ClassFile.FieldType.int), Jvm.Cond.code ({ cls := "com/example/hypermedia_forms/hypermediaforms/PatternTree", name := "addEmpty", desc := "()I" } : Jvm.MethodName) prog_45_method_7_code (1 : Nat) (Option.some Jvm.ClassFile.FieldType.int), Jvm.Cond.code ({ cls := "com/example/hypermedia_forms/hypermediaforms/PatternTree", name := "addParent", desc := "(BI)I" } : Jvm.MethodName) prog_45_method_8_code (3 : Nat) (Option.some Jvm.ClassFile.FieldType.int)]
set_option maxRecDepth 65536 in
theorem codes_eq : words1.filter isCode = codes1 := rfl
theorem w_codes : ∀ c ∈ words1.filter isCode, c.before args0 about1 = true := by
  rw [codes_eq]
  intro c hc
  simp only [codes1, List.mem_cons, List.not_mem_nil, or_false] at hc
  rcases hc with rfl | rfl | rfl | rfl | rfl | rfl | rfl | rfl | rfl | rfl | rfl | rfl | rfl
  · exact w_c0
  · exact w_c1
  · exact w_c2
  · exact w_c3
  · exact w_c4
  · exact w_c5
  · exact w_c6
  · exact w_c7
  · exact w_c8
  · exact w_c9
  · exact w_c10
  · exact w_c11
  · exact w_c12
set_option maxRecDepth 65536 in
theorem w_t1 : (words1.take 24).all (fun c => isCode c || c.before args0 about1) = true := by decide +kernel
set_option maxRecDepth 65536 in
theorem w_t2 : ((words1.drop 24).take 24).all (fun c => isCode c || c.before args0 about1) = true := by decide +kernel
set_option maxRecDepth 65536 in
theorem w_t3 : ((words1.drop 24).drop 24).all (fun c => isCode c || c.before args0 about1) = true := by decide +kernel
theorem w_tables : (allAtoms (Jvm.Cond.code x code maxLocals ret :: tables_1)).before args0 about1 = true := by
  rw [allAtoms_all]
  show words1.all (fun c => c.before args0 about1) = true
  refine all_split ?_ w_codes
  rw [← List.take_append_drop 24 words1, List.all_append, w_t1, ← List.take_append_drop 24 (words1.drop 24), List.all_append, w_t2, w_t3]
  rfl
set_option maxRecDepth 65536 in
theorem w_case : (Jvm.Cond.and given_1 narrow_1).before args0 about1 = true := by decide +kernel
theorem w_applies : (headSpec (Jvm.Cond.code x code maxLocals ret :: tables_1) room_1).applies x e0.platform about1 = true :=
  (Spec.applies_iff w_frames).mpr ⟨w_running, w_runnable, w_alone, w_named, w_hears, w_ripe, w_room, w_tables⟩
theorem atStart : AtStart classFile x code maxLocals ret World_1 tables_1 room_1 Calls_1 rest_1 Pre_1 launch0 p0 e0 about1 theMethod args0 below0 :=
  ⟨lists_1, trivial, launch0.admits_env _ _ _, launch0.least_env, fairChoices_fair.cas, fairChoices_fair.clock, w_frames, w_args, w_heap, w_applies, trivial, trivial, w_case⟩
end start1
theorem witness_1 : WitnessClaimed_1 := ⟨start1.p0, start1.e0, start1.about1, start1.theMethod, start1.args0, start1.below0, start1.atStart⟩
end Jvm.Pilot.@@N@@
