import JvmDerived
import JvmDerived.Pilot.@@N@@Statement
import JvmDerived.Pilot.@@N@@Code
set_option linter.unusedVariables false
set_option linter.unusedSimpArgs false
namespace Jvm.Own
open Sem ClassFile Op Lib Jvm.Stand Jvm.Free Jvm.LawKit Jvm.RoadKit
/-- the run goes on from the frame g over T and comes to an end of which P holds -/
def Go (p : Program) (e : Env) (below : List Frame) (P : Outcome → State → Prop) (T : State) (g : JFrame) : Prop :=
  ∃ U o, Steps p.tables e below (T.setTop g) U ∧ U.status = .running ∧ Ended U below o ∧ P o U
/-- what a body's end says: it returned v; it wrote in new cells alone, kept the heap h0 but for ws and the start's heap whole; Q of what it returned and of the heap -/
def PostOf (Z s : State) (h0 : Heap) (ws : List Addr) (kc ks : Nat) (Q : Option Value → Heap → Prop) (o : Outcome) (U : State) : Prop :=
  ∃ v L, o = .returned v ∧ (Fr Z.heap.size L ∧ Keep h0 U.heap ws ∧ Ext Z.heap U.heap ∧ Q v U.heap) ∧ FrameEnd s o U L kc ks
/-- a body's contract for the arguments as at the heap h0 -/
def OMeets (l : Launch) (Z : State) (y : MethodName) (bytes : ByteArray) (nl : Nat) (ret : Option FieldType) (R : Room) (as : Array Value) (h0 : Heap) (ws : List Addr) (Q : Option Value → Heap → Prop) : Prop :=
  ∀ wd : List Jvm.Cond, MetFree l y (head1 (Jvm.Cond.code y bytes nl ret :: wd) R) (fun a U => a = as ∧ Z.Warmed39 U.vm ∧ U.heap = h0) (fun _ _ _ _ _ => True)
    (fun _ U o U' => PostOf Z U h0 ws R.cells R.slots Q o U')
/-- where the run of one body stands: what is fixed, the library's Stand, the heap, what was written, what is kept -/
def St (p : Program) (l : Launch) (e : Env) (R : Room) (s : State) (m : MethodId) (args : Array Value) (below : List Frame) (meth : Method) (c : Code) (Z : State) (own : String) (bytes : ByteArray) (nl : Nat) (ret : Option FieldType) (nm : String)
    (h0 : Heap) (ws : List Addr) (T : State) (h : Heap) (locs : List Loc) (cells slots : Nat) : Prop :=
  (p.tables.exec = Jvm.exec ∧ c.code = bytes ∧ c.maxLocals = nl ∧ Z.Warmed39 s.vm ∧ s.vm.findClass own = some m.cls ∧ meth.sig.returnType = ret ∧ meth.locks = false ∧ meth.name = nm) ∧
  Stand p l e R s m args below meth c T locs cells slots ∧ T.heap = h ∧ Fr Z.heap.size locs ∧ Keep h0 h ws ∧ Ext Z.heap h
section Steps
variable {p : Program} {l : Launch} {e : Env} {R : Room} {s : State} {m : MethodId} {args : Array Value} {below : List Frame} {meth : Method} {c : Code} {Z : State} {own : String} {bytes : ByteArray} {nl : Nat} {ret : Option FieldType} {nm : String}
  {h0 : Heap} {ws : List Addr} {T : State} {h : Heap} {locs : List Loc} {cells slots : Nat} {P : Outcome → State → Prop} {pc pc' : Nat} {Ls Ls' : Array Slot} {st : List Value} {a0 : Array Value}
theorem off0 {a b : Nat} {o : Int} (h : (a : Int) + o = (b : Int)) : 0 ≤ (a : Int) + o := by omega
theorem off1 {a b : Nat} {o : Int} (h : (a : Int) + o = (b : Int)) : ((a : Int) + o).toNat = b := by omega
theorem Go.of {T' : State} {g g' : JFrame} (k : Go p e below P T' g') (f : ∀ t, Steps p.tables e below (T'.setTop g') t → Steps p.tables e below (T.setTop g) t) : Go p e below P T g := by
  obtain ⟨U, o, h1, h2⟩ := k
  exact ⟨U, o, f _ h1, h2⟩
theorem Go.imp {g : JFrame} {P' : Outcome → State → Prop} (k : Go p e below P T g) (f : ∀ o U, P o U → P' o U) : Go p e below P' T g := by
  obtain ⟨U, o, h1, h2, h3, h4⟩ := k
  exact ⟨U, o, h1, h2, h3, f _ _ h4⟩
theorem St.ex (S : St p l e R s m args below meth c Z own bytes nl ret nm h0 ws T h locs cells slots) : p.tables.exec = Jvm.exec := S.1.1
theorem St.hd (S : St p l e R s m args below meth c Z own bytes nl ret nm h0 ws T h locs cells slots) {r : Except DecodeError (Instr × Nat)} (h2 : decode bytes pc = r) : decode c.code pc = r := S.1.2.1 ▸ h2
theorem St.hnl (S : St p l e R s m args below meth c Z own bytes nl ret nm h0 ws T h locs cells slots) : c.maxLocals = nl := S.1.2.2.1
theorem St.hZ (S : St p l e R s m args below meth c Z own bytes nl ret nm h0 ws T h locs cells slots) : Z.Warmed39 s.vm := S.1.2.2.2.1
theorem St.hown (S : St p l e R s m args below meth c Z own bytes nl ret nm h0 ws T h locs cells slots) : s.vm.findClass own = some m.cls := S.1.2.2.2.2.1
theorem St.hret (S : St p l e R s m args below meth c Z own bytes nl ret nm h0 ws T h locs cells slots) : meth.sig.returnType = ret := S.1.2.2.2.2.2.1
theorem St.locks (S : St p l e R s m args below meth c Z own bytes nl ret nm h0 ws T h locs cells slots) : meth.locks = false := S.1.2.2.2.2.2.2.1
theorem St.hnm (S : St p l e R s m args below meth c Z own bytes nl ret nm h0 ws T h locs cells slots) : meth.name = nm := S.1.2.2.2.2.2.2.2
theorem St.X (S : St p l e R s m args below meth c Z own bytes nl ret nm h0 ws T h locs cells slots) : Stand p l e R s m args below meth c T locs cells slots := S.2.1
theorem St.eT (S : St p l e R s m args below meth c Z own bytes nl ret nm h0 ws T h locs cells slots) : T.heap = h := S.2.2.1
theorem St.fr (S : St p l e R s m args below meth c Z own bytes nl ret nm h0 ws T h locs cells slots) : Fr Z.heap.size locs := S.2.2.2.1
theorem St.keep (S : St p l e R s m args below meth c Z own bytes nl ret nm h0 ws T h locs cells slots) : Keep h0 h ws := S.2.2.2.2.1
theorem St.ext (S : St p l e R s m args below meth c Z own bytes nl ret nm h0 ws T h locs cells slots) : Ext Z.heap h := S.2.2.2.2.2
theorem St.more (S : St p l e R s m args below meth c Z own bytes nl ret nm h0 ws T h locs cells slots) {cells' slots' : Nat} (hc : cells ≤ cells') (hs : slots ≤ slots') : St p l e R s m args below meth c Z own bytes nl ret nm h0 ws T h locs cells' slots' := ⟨S.1, S.X.more hc hs, S.2.2⟩
theorem St.next (S : St p l e R s m args below meth c Z own bytes nl ret nm h0 ws T h locs cells slots) {T' : State} {h' : Heap} {locs' : List Loc} {cells' slots' : Nat} (X : Stand p l e R s m args below meth c T' locs' cells' slots') (e1 : T'.heap = h') (N : Fr Z.heap.size locs') (K : Keep h0 h' ws) (E : Ext Z.heap h') : St p l e R s m args below meth c Z own bytes nl ret nm h0 ws T' h' locs' cells' slots' := ⟨S.1, X, e1, N, K, E⟩
theorem Go.iloadN (S : St p l e R s m args below meth c Z own bytes nl ret nm h0 ws T h locs cells slots) {k : Fin 4} {v : Int32} (hd : decode bytes pc = .ok (.iload_n k, 1)) (hl : Ls[k.val]? = some (.val (.int v))) (hp : pc + 1 = pc') (k : Go p e below P T (mkF m pc' Ls (.int v :: st))) : Go p e below P T (mkF m pc Ls st) := by
  subst hp
  exact k.of fun t q => XS.iloadN S.X.here S.ex rfl (S.hd hd) hl q
theorem Go.iload (S : St p l e R s m args below meth c Z own bytes nl ret nm h0 ws T h locs cells slots) {k : Nat} {v : Int32} (hd : decode bytes pc = .ok (.iload k, 2)) (hl : Ls[k]? = some (.val (.int v))) (hp : pc + 2 = pc') (k : Go p e below P T (mkF m pc' Ls (.int v :: st))) : Go p e below P T (mkF m pc Ls st) := by
  subst hp
  exact k.of fun t q => XS.iload S.X.here S.ex rfl (S.hd hd) hl q
theorem Go.istoreN (S : St p l e R s m args below meth c Z own bytes nl ret nm h0 ws T h locs cells slots) {k : Fin 4} {v : Int32} (hd : decode bytes pc = .ok (.istore_n k, 1)) (hl : storeLocals Ls k.val (.int v) = some Ls') (hp : pc + 1 = pc') (k : Go p e below P T (mkF m pc' Ls' st)) : Go p e below P T (mkF m pc Ls (.int v :: st)) := by
  subst hp
  exact k.of fun t q => XS.istoreN S.X.here S.ex rfl (S.hd hd) rfl hl q
theorem Go.istore (S : St p l e R s m args below meth c Z own bytes nl ret nm h0 ws T h locs cells slots) {k : Nat} {v : Int32} (hd : decode bytes pc = .ok (.istore k, 2)) (hl : storeLocals Ls k (.int v) = some Ls') (hp : pc + 2 = pc') (k : Go p e below P T (mkF m pc' Ls' st)) : Go p e below P T (mkF m pc Ls (.int v :: st)) := by
  subst hp
  exact k.of fun t q => XS.istore S.X.here S.ex rfl (S.hd hd) rfl hl q
theorem Go.lloadN (S : St p l e R s m args below meth c Z own bytes nl ret nm h0 ws T h locs cells slots) {k : Fin 4} {v : Int64} (hd : decode bytes pc = .ok (.lload_n k, 1)) (hl : Ls[k.val]? = some (.val (.long v))) (hp : pc + 1 = pc') (k : Go p e below P T (mkF m pc' Ls (.long v :: st))) : Go p e below P T (mkF m pc Ls st) := by
  subst hp
  exact k.of fun t q => XS.lloadN S.X.here S.ex rfl (S.hd hd) hl q
theorem Go.lload (S : St p l e R s m args below meth c Z own bytes nl ret nm h0 ws T h locs cells slots) {k : Nat} {v : Int64} (hd : decode bytes pc = .ok (.lload k, 2)) (hl : Ls[k]? = some (.val (.long v))) (hp : pc + 2 = pc') (k : Go p e below P T (mkF m pc' Ls (.long v :: st))) : Go p e below P T (mkF m pc Ls st) := by
  subst hp
  exact k.of fun t q => XS.lload S.X.here S.ex rfl (S.hd hd) hl q
theorem Go.lstoreN (S : St p l e R s m args below meth c Z own bytes nl ret nm h0 ws T h locs cells slots) {k : Fin 4} {v : Int64} (hd : decode bytes pc = .ok (.lstore_n k, 1)) (hl : storeLocals Ls k.val (.long v) = some Ls') (hp : pc + 1 = pc') (k : Go p e below P T (mkF m pc' Ls' st)) : Go p e below P T (mkF m pc Ls (.long v :: st)) := by
  subst hp
  exact k.of fun t q => XS.lstoreN S.X.here S.ex rfl (S.hd hd) rfl hl q
theorem Go.lstore (S : St p l e R s m args below meth c Z own bytes nl ret nm h0 ws T h locs cells slots) {k : Nat} {v : Int64} (hd : decode bytes pc = .ok (.lstore k, 2)) (hl : storeLocals Ls k (.long v) = some Ls') (hp : pc + 2 = pc') (k : Go p e below P T (mkF m pc' Ls' st)) : Go p e below P T (mkF m pc Ls (.long v :: st)) := by
  subst hp
  exact k.of fun t q => XS.lstore S.X.here S.ex rfl (S.hd hd) rfl hl q
theorem Go.aloadN (S : St p l e R s m args below meth c Z own bytes nl ret nm h0 ws T h locs cells slots) {k : Fin 4} {v : Value} (hd : decode bytes pc = .ok (.aload_n k, 1)) (hl : Ls[k.val]? = some (.val v)) (hr : v.isRef = true) (hp : pc + 1 = pc') (k : Go p e below P T (mkF m pc' Ls (v :: st))) : Go p e below P T (mkF m pc Ls st) := by
  subst hp
  exact k.of fun t q => XS.aloadN S.X.here S.ex rfl (S.hd hd) hl hr q
theorem Go.aload (S : St p l e R s m args below meth c Z own bytes nl ret nm h0 ws T h locs cells slots) {k : Nat} {v : Value} (hd : decode bytes pc = .ok (.aload k, 2)) (hl : Ls[k]? = some (.val v)) (hr : v.isRef = true) (hp : pc + 2 = pc') (k : Go p e below P T (mkF m pc' Ls (v :: st))) : Go p e below P T (mkF m pc Ls st) := by
  subst hp
  exact k.of fun t q => XS.aload S.X.here S.ex rfl (S.hd hd) hl hr q
theorem Go.astoreN (S : St p l e R s m args below meth c Z own bytes nl ret nm h0 ws T h locs cells slots) {k : Fin 4} {v : Value} (hd : decode bytes pc = .ok (.astore_n k, 1)) (hr : v.isRef = true) (hl : storeLocals Ls k.val v = some Ls') (hp : pc + 1 = pc') (k : Go p e below P T (mkF m pc' Ls' st)) : Go p e below P T (mkF m pc Ls (v :: st)) := by
  subst hp
  exact k.of fun t q => XS.astoreN S.X.here S.ex rfl (S.hd hd) rfl hr hl q
theorem Go.astore (S : St p l e R s m args below meth c Z own bytes nl ret nm h0 ws T h locs cells slots) {k : Nat} {v : Value} (hd : decode bytes pc = .ok (.astore k, 2)) (hr : v.isRef = true) (hl : storeLocals Ls k v = some Ls') (hp : pc + 2 = pc') (k : Go p e below P T (mkF m pc' Ls' st)) : Go p e below P T (mkF m pc Ls (v :: st)) := by
  subst hp
  exact k.of fun t q => XS.astore S.X.here S.ex rfl (S.hd hd) rfl hr hl q
theorem Go.iconst (S : St p l e R s m args below meth c Z own bytes nl ret nm h0 ws T h locs cells slots) {i : Int} {v : Int32} (hd : decode bytes pc = .ok (.iconst i, 1)) (hv : Int32.ofInt i = v) (hp : pc + 1 = pc') (k : Go p e below P T (mkF m pc' Ls (.int v :: st))) : Go p e below P T (mkF m pc Ls st) := by
  subst hp hv
  exact k.of fun t q => XS.iconst S.X.here S.ex rfl (S.hd hd) q
theorem Go.bipush (S : St p l e R s m args below meth c Z own bytes nl ret nm h0 ws T h locs cells slots) {i : Int} {v : Int32} (hd : decode bytes pc = .ok (.bipush i, 2)) (hv : (Int8.ofInt i).toInt32 = v) (hp : pc + 2 = pc') (k : Go p e below P T (mkF m pc' Ls (.int v :: st))) : Go p e below P T (mkF m pc Ls st) := by
  subst hp hv
  exact k.of fun t q => XS.bipush S.X.here S.ex rfl (S.hd hd) q
theorem Go.sipush (S : St p l e R s m args below meth c Z own bytes nl ret nm h0 ws T h locs cells slots) {i : Int} {v : Int32} (hd : decode bytes pc = .ok (.sipush i, 3)) (hv : (Int16.ofInt i).toInt32 = v) (hp : pc + 3 = pc') (k : Go p e below P T (mkF m pc' Ls (.int v :: st))) : Go p e below P T (mkF m pc Ls st) := by
  subst hp hv
  exact k.of fun t q => XS.sipush S.X.here S.ex rfl (S.hd hd) q
theorem Go.lconst (S : St p l e R s m args below meth c Z own bytes nl ret nm h0 ws T h locs cells slots) {i : Fin 2} {v : Int64} (hd : decode bytes pc = .ok (.lconst i, 1)) (hv : Int64.ofNat i = v) (hp : pc + 1 = pc') (k : Go p e below P T (mkF m pc' Ls (.long v :: st))) : Go p e below P T (mkF m pc Ls st) := by
  subst hp hv
  exact k.of fun t q => XS.lconst S.X.here S.ex rfl (S.hd hd) q
theorem Go.aconst_null (S : St p l e R s m args below meth c Z own bytes nl ret nm h0 ws T h locs cells slots)  (hd : decode bytes pc = .ok (.aconst_null, 1)) (hp : pc + 1 = pc') (k : Go p e below P T (mkF m pc' Ls (.null :: st))) : Go p e below P T (mkF m pc Ls st) := by
  subst hp
  exact k.of fun t q => XS.aconstNull S.X.here S.ex rfl (S.hd hd) q
theorem Go.iadd (S : St p l e R s m args below meth c Z own bytes nl ret nm h0 ws T h locs cells slots) {x y : Int32} (hd : decode bytes pc = .ok (.iadd, 1)) (hp : pc + 1 = pc') (k : Go p e below P T (mkF m pc' Ls (.int (x + y) :: st))) : Go p e below P T (mkF m pc Ls (.int y :: .int x :: st)) := by
  subst hp
  exact k.of fun t q => XS.iadd S.X.here S.ex rfl (S.hd hd) rfl q
theorem Go.ladd (S : St p l e R s m args below meth c Z own bytes nl ret nm h0 ws T h locs cells slots) {x y : Int64} (hd : decode bytes pc = .ok (.ladd, 1)) (hp : pc + 1 = pc') (k : Go p e below P T (mkF m pc' Ls (.long (x + y) :: st))) : Go p e below P T (mkF m pc Ls (.long y :: .long x :: st)) := by
  subst hp
  exact k.of fun t q => XS.ladd S.X.here S.ex rfl (S.hd hd) rfl q
theorem Go.isub (S : St p l e R s m args below meth c Z own bytes nl ret nm h0 ws T h locs cells slots) {x y : Int32} (hd : decode bytes pc = .ok (.isub, 1)) (hp : pc + 1 = pc') (k : Go p e below P T (mkF m pc' Ls (.int (x - y) :: st))) : Go p e below P T (mkF m pc Ls (.int y :: .int x :: st)) := by
  subst hp
  exact k.of fun t q => XS.isub S.X.here S.ex rfl (S.hd hd) rfl q
theorem Go.lsub (S : St p l e R s m args below meth c Z own bytes nl ret nm h0 ws T h locs cells slots) {x y : Int64} (hd : decode bytes pc = .ok (.lsub, 1)) (hp : pc + 1 = pc') (k : Go p e below P T (mkF m pc' Ls (.long (x - y) :: st))) : Go p e below P T (mkF m pc Ls (.long y :: .long x :: st)) := by
  subst hp
  exact k.of fun t q => XS.lsub S.X.here S.ex rfl (S.hd hd) rfl q
theorem Go.imul (S : St p l e R s m args below meth c Z own bytes nl ret nm h0 ws T h locs cells slots) {x y : Int32} (hd : decode bytes pc = .ok (.imul, 1)) (hp : pc + 1 = pc') (k : Go p e below P T (mkF m pc' Ls (.int (x * y) :: st))) : Go p e below P T (mkF m pc Ls (.int y :: .int x :: st)) := by
  subst hp
  exact k.of fun t q => XS.imul S.X.here S.ex rfl (S.hd hd) rfl q
theorem Go.lmul (S : St p l e R s m args below meth c Z own bytes nl ret nm h0 ws T h locs cells slots) {x y : Int64} (hd : decode bytes pc = .ok (.lmul, 1)) (hp : pc + 1 = pc') (k : Go p e below P T (mkF m pc' Ls (.long (x * y) :: st))) : Go p e below P T (mkF m pc Ls (.long y :: .long x :: st)) := by
  subst hp
  exact k.of fun t q => XS.lmul S.X.here S.ex rfl (S.hd hd) rfl q
theorem Go.iand (S : St p l e R s m args below meth c Z own bytes nl ret nm h0 ws T h locs cells slots) {x y : Int32} (hd : decode bytes pc = .ok (.iand, 1)) (hp : pc + 1 = pc') (k : Go p e below P T (mkF m pc' Ls (.int (x &&& y) :: st))) : Go p e below P T (mkF m pc Ls (.int y :: .int x :: st)) := by
  subst hp
  exact k.of fun t q => XS.iand S.X.here S.ex rfl (S.hd hd) rfl q
theorem Go.land (S : St p l e R s m args below meth c Z own bytes nl ret nm h0 ws T h locs cells slots) {x y : Int64} (hd : decode bytes pc = .ok (.land, 1)) (hp : pc + 1 = pc') (k : Go p e below P T (mkF m pc' Ls (.long (x &&& y) :: st))) : Go p e below P T (mkF m pc Ls (.long y :: .long x :: st)) := by
  subst hp
  exact k.of fun t q => XS.land S.X.here S.ex rfl (S.hd hd) rfl q
theorem Go.ior (S : St p l e R s m args below meth c Z own bytes nl ret nm h0 ws T h locs cells slots) {x y : Int32} (hd : decode bytes pc = .ok (.ior, 1)) (hp : pc + 1 = pc') (k : Go p e below P T (mkF m pc' Ls (.int (x ||| y) :: st))) : Go p e below P T (mkF m pc Ls (.int y :: .int x :: st)) := by
  subst hp
  exact k.of fun t q => XS.ior S.X.here S.ex rfl (S.hd hd) rfl q
theorem Go.lor (S : St p l e R s m args below meth c Z own bytes nl ret nm h0 ws T h locs cells slots) {x y : Int64} (hd : decode bytes pc = .ok (.lor, 1)) (hp : pc + 1 = pc') (k : Go p e below P T (mkF m pc' Ls (.long (x ||| y) :: st))) : Go p e below P T (mkF m pc Ls (.long y :: .long x :: st)) := by
  subst hp
  exact k.of fun t q => XS.lor S.X.here S.ex rfl (S.hd hd) rfl q
theorem Go.ixor (S : St p l e R s m args below meth c Z own bytes nl ret nm h0 ws T h locs cells slots) {x y : Int32} (hd : decode bytes pc = .ok (.ixor, 1)) (hp : pc + 1 = pc') (k : Go p e below P T (mkF m pc' Ls (.int (x ^^^ y) :: st))) : Go p e below P T (mkF m pc Ls (.int y :: .int x :: st)) := by
  subst hp
  exact k.of fun t q => XS.ixor S.X.here S.ex rfl (S.hd hd) rfl q
theorem Go.lxor (S : St p l e R s m args below meth c Z own bytes nl ret nm h0 ws T h locs cells slots) {x y : Int64} (hd : decode bytes pc = .ok (.lxor, 1)) (hp : pc + 1 = pc') (k : Go p e below P T (mkF m pc' Ls (.long (x ^^^ y) :: st))) : Go p e below P T (mkF m pc Ls (.long y :: .long x :: st)) := by
  subst hp
  exact k.of fun t q => XS.lxor S.X.here S.ex rfl (S.hd hd) rfl q
theorem Go.ishl (S : St p l e R s m args below meth c Z own bytes nl ret nm h0 ws T h locs cells slots) {x : Int32} {y : Int32} (hd : decode bytes pc = .ok (.ishl, 1)) (hp : pc + 1 = pc') (k : Go p e below P T (mkF m pc' Ls (.int (x <<< (y &&& 31)) :: st))) : Go p e below P T (mkF m pc Ls (.int y :: .int x :: st)) := by
  subst hp
  exact k.of fun t q => XS.ishl S.X.here S.ex rfl (S.hd hd) rfl q
theorem Go.ishr (S : St p l e R s m args below meth c Z own bytes nl ret nm h0 ws T h locs cells slots) {x : Int32} {y : Int32} (hd : decode bytes pc = .ok (.ishr, 1)) (hp : pc + 1 = pc') (k : Go p e below P T (mkF m pc' Ls (.int (x >>> (y &&& 31)) :: st))) : Go p e below P T (mkF m pc Ls (.int y :: .int x :: st)) := by
  subst hp
  exact k.of fun t q => XS.ishr S.X.here S.ex rfl (S.hd hd) rfl q
theorem Go.iushr (S : St p l e R s m args below meth c Z own bytes nl ret nm h0 ws T h locs cells slots) {x : Int32} {y : Int32} (hd : decode bytes pc = .ok (.iushr, 1)) (hp : pc + 1 = pc') (k : Go p e below P T (mkF m pc' Ls (.int ((x.toUInt32 >>> (y &&& 31).toUInt32).toInt32) :: st))) : Go p e below P T (mkF m pc Ls (.int y :: .int x :: st)) := by
  subst hp
  exact k.of fun t q => XS.iushr S.X.here S.ex rfl (S.hd hd) rfl q
theorem Go.lshl (S : St p l e R s m args below meth c Z own bytes nl ret nm h0 ws T h locs cells slots) {x : Int64} {y : Int32} (hd : decode bytes pc = .ok (.lshl, 1)) (hp : pc + 1 = pc') (k : Go p e below P T (mkF m pc' Ls (.long (x <<< (y &&& 0x3f).toInt64) :: st))) : Go p e below P T (mkF m pc Ls (.int y :: .long x :: st)) := by
  subst hp
  exact k.of fun t q => XS.lshl S.X.here S.ex rfl (S.hd hd) rfl q
theorem Go.lshr (S : St p l e R s m args below meth c Z own bytes nl ret nm h0 ws T h locs cells slots) {x : Int64} {y : Int32} (hd : decode bytes pc = .ok (.lshr, 1)) (hp : pc + 1 = pc') (k : Go p e below P T (mkF m pc' Ls (.long (x >>> (y &&& 0x3f).toInt64) :: st))) : Go p e below P T (mkF m pc Ls (.int y :: .long x :: st)) := by
  subst hp
  exact k.of fun t q => XS.lshr S.X.here S.ex rfl (S.hd hd) rfl q
theorem Go.lushr (S : St p l e R s m args below meth c Z own bytes nl ret nm h0 ws T h locs cells slots) {x : Int64} {y : Int32} (hd : decode bytes pc = .ok (.lushr, 1)) (hp : pc + 1 = pc') (k : Go p e below P T (mkF m pc' Ls (.long ((x.toUInt64 >>> (y &&& 0x3f).toInt64.toUInt64).toInt64) :: st))) : Go p e below P T (mkF m pc Ls (.int y :: .long x :: st)) := by
  subst hp
  exact k.of fun t q => XS.lushr S.X.here S.ex rfl (S.hd hd) rfl q
theorem Go.i2l (S : St p l e R s m args below meth c Z own bytes nl ret nm h0 ws T h locs cells slots) {x : Int32} (hd : decode bytes pc = .ok (.i2l, 1)) (hp : pc + 1 = pc') (k : Go p e below P T (mkF m pc' Ls (.long (x.toInt64) :: st))) : Go p e below P T (mkF m pc Ls (.int x :: st)) := by
  subst hp
  exact k.of fun t q => XS.i2l S.X.here S.ex rfl (S.hd hd) rfl q
theorem Go.l2i (S : St p l e R s m args below meth c Z own bytes nl ret nm h0 ws T h locs cells slots) {x : Int64} (hd : decode bytes pc = .ok (.l2i, 1)) (hp : pc + 1 = pc') (k : Go p e below P T (mkF m pc' Ls (.int (x.toInt32) :: st))) : Go p e below P T (mkF m pc Ls (.long x :: st)) := by
  subst hp
  exact k.of fun t q => XS.l2i S.X.here S.ex rfl (S.hd hd) rfl q
theorem Go.i2b (S : St p l e R s m args below meth c Z own bytes nl ret nm h0 ws T h locs cells slots) {x : Int32} (hd : decode bytes pc = .ok (.i2b, 1)) (hp : pc + 1 = pc') (k : Go p e below P T (mkF m pc' Ls (.int (x.toInt8.toInt32) :: st))) : Go p e below P T (mkF m pc Ls (.int x :: st)) := by
  subst hp
  exact k.of fun t q => XS.i2b S.X.here S.ex rfl (S.hd hd) rfl q
theorem Go.i2s (S : St p l e R s m args below meth c Z own bytes nl ret nm h0 ws T h locs cells slots) {x : Int32} (hd : decode bytes pc = .ok (.i2s, 1)) (hp : pc + 1 = pc') (k : Go p e below P T (mkF m pc' Ls (.int (x.toInt16.toInt32) :: st))) : Go p e below P T (mkF m pc Ls (.int x :: st)) := by
  subst hp
  exact k.of fun t q => XS.i2s S.X.here S.ex rfl (S.hd hd) rfl q
theorem Go.i2c (S : St p l e R s m args below meth c Z own bytes nl ret nm h0 ws T h locs cells slots) {x : Int32} (hd : decode bytes pc = .ok (.i2c, 1)) (hp : pc + 1 = pc') (k : Go p e below P T (mkF m pc' Ls (.int (x.toUInt32.toUInt16.toUInt32.toInt32) :: st))) : Go p e below P T (mkF m pc Ls (.int x :: st)) := by
  subst hp
  exact k.of fun t q => XS.i2c S.X.here S.ex rfl (S.hd hd) rfl q
theorem Go.ineg (S : St p l e R s m args below meth c Z own bytes nl ret nm h0 ws T h locs cells slots) {x : Int32} (hd : decode bytes pc = .ok (.ineg, 1)) (hp : pc + 1 = pc') (k : Go p e below P T (mkF m pc' Ls (.int (-x) :: st))) : Go p e below P T (mkF m pc Ls (.int x :: st)) := by
  subst hp
  exact k.of fun t q => XS.ineg S.X.here S.ex rfl (S.hd hd) rfl q
theorem Go.lneg (S : St p l e R s m args below meth c Z own bytes nl ret nm h0 ws T h locs cells slots) {x : Int64} (hd : decode bytes pc = .ok (.lneg, 1)) (hp : pc + 1 = pc') (k : Go p e below P T (mkF m pc' Ls (.long (-x) :: st))) : Go p e below P T (mkF m pc Ls (.long x :: st)) := by
  subst hp
  exact k.of fun t q => XS.lneg S.X.here S.ex rfl (S.hd hd) rfl q
theorem Go.idiv (S : St p l e R s m args below meth c Z own bytes nl ret nm h0 ws T h locs cells slots) {x y : Int32} (hd : decode bytes pc = .ok (.idiv, 1)) (hy : y ≠ 0) (hp : pc + 1 = pc') (k : Go p e below P T (mkF m pc' Ls (.int (x / y) :: st))) : Go p e below P T (mkF m pc Ls (.int y :: .int x :: st)) := by
  subst hp
  exact k.of fun t q => XS.idiv S.X.here S.ex rfl (S.hd hd) rfl hy q
theorem Go.ldiv (S : St p l e R s m args below meth c Z own bytes nl ret nm h0 ws T h locs cells slots) {x y : Int64} (hd : decode bytes pc = .ok (.ldiv, 1)) (hy : y ≠ 0) (hp : pc + 1 = pc') (k : Go p e below P T (mkF m pc' Ls (.long (x / y) :: st))) : Go p e below P T (mkF m pc Ls (.long y :: .long x :: st)) := by
  subst hp
  exact k.of fun t q => XS.ldiv S.X.here S.ex rfl (S.hd hd) rfl hy q
theorem Go.irem (S : St p l e R s m args below meth c Z own bytes nl ret nm h0 ws T h locs cells slots) {x y : Int32} (hd : decode bytes pc = .ok (.irem, 1)) (hy : y ≠ 0) (hp : pc + 1 = pc') (k : Go p e below P T (mkF m pc' Ls (.int (x % y) :: st))) : Go p e below P T (mkF m pc Ls (.int y :: .int x :: st)) := by
  subst hp
  exact k.of fun t q => Jvm.RoadKit.iremM S.X S.ex rfl (S.hd hd) rfl hy q
theorem Go.lrem (S : St p l e R s m args below meth c Z own bytes nl ret nm h0 ws T h locs cells slots) {x y : Int64} (hd : decode bytes pc = .ok (.lrem, 1)) (hy : y ≠ 0) (hp : pc + 1 = pc') (k : Go p e below P T (mkF m pc' Ls (.long (x % y) :: st))) : Go p e below P T (mkF m pc Ls (.long y :: .long x :: st)) := by
  subst hp
  rw [← lrem_mod] at k
  exact k.of fun t q => XS.lrem S.X.here S.ex rfl (S.hd hd) rfl hy q
theorem Go.iinc (S : St p l e R s m args below meth c Z own bytes nl ret nm h0 ws T h locs cells slots) {k : Nat} {cst : Int} {x : Int32} (hd : decode bytes pc = .ok (.iinc k cst, 3)) (hl : Ls[k]? = some (.val (.int x))) (hl' : storeLocals Ls k (.int (x + Int32.ofInt cst)) = some Ls') (hp : pc + 3 = pc') (k : Go p e below P T (mkF m pc' Ls' st)) : Go p e below P T (mkF m pc Ls st) := by
  subst hp
  exact k.of fun t q => XS.iinc S.X.here S.ex rfl (S.hd hd) hl hl' q
theorem Go.dup (S : St p l e R s m args below meth c Z own bytes nl ret nm h0 ws T h locs cells slots) {x : Value} (hd : decode bytes pc = .ok (.dup, 1)) (hc : x.category = 1) (hp : pc + 1 = pc') (k : Go p e below P T (mkF m pc' Ls (x :: x :: st))) : Go p e below P T (mkF m pc Ls (x :: st)) := by
  subst hp
  exact k.of fun t q => XS.dup S.X.here S.ex rfl (S.hd hd) rfl hc q
theorem Go.pop (S : St p l e R s m args below meth c Z own bytes nl ret nm h0 ws T h locs cells slots) {x : Value} (hd : decode bytes pc = .ok (.pop, 1)) (hc : x.category = 1) (hp : pc + 1 = pc') (k : Go p e below P T (mkF m pc' Ls st)) : Go p e below P T (mkF m pc Ls (x :: st)) := by
  subst hp
  exact k.of fun t q => XS.pop S.X.here S.ex rfl (S.hd hd) rfl hc q
theorem Go.dup_x1 (S : St p l e R s m args below meth c Z own bytes nl ret nm h0 ws T h locs cells slots) {x y : Value} (hd : decode bytes pc = .ok (.dup_x1, 1)) (hc : x.category = 1) (hc' : y.category = 1) (hp : pc + 1 = pc') (k : Go p e below P T (mkF m pc' Ls (x :: y :: x :: st))) : Go p e below P T (mkF m pc Ls (x :: y :: st)) := by
  subst hp
  exact k.of fun t q => XS.dupX1 S.X.here S.ex rfl (S.hd hd) rfl hc hc' q
theorem Go.goto (S : St p l e R s m args below meth c Z own bytes nl ret nm h0 ws T h locs cells slots) {o : Int} (hd : decode bytes pc = .ok (.goto o, 3)) (hp : (pc : Int) + o = (pc' : Int)) (k : Go p e below P T (mkF m pc' Ls st)) : Go p e below P T (mkF m pc Ls st) :=
  k.of fun t q => XS.goto S.X.here S.ex rfl (pc0 := pc) rfl (S.hd hd) (off0 hp) (off1 hp) q
theorem Go.if_eq (S : St p l e R s m args below meth c Z own bytes nl ret nm h0 ws T h locs cells slots) {x : Int32} {o : Int} {pt : Nat} (hd : decode bytes pc = .ok (.ifCond .eq o, 3)) (ht : (pc : Int) + o = (pt : Int)) (hf : pc + 3 = pc') (ky : x = 0 → Go p e below P T (mkF m pt Ls st)) (kn : ¬ x = 0 → Go p e below P T (mkF m pc' Ls st)) : Go p e below P T (mkF m pc Ls (.int x :: st)) := by
  subst hf
  by_cases q : x = 0
  · exact (ky q).of fun t q' => XS.ifYes S.X.here S.ex rfl (pc0 := pc) rfl (S.hd hd) rfl (Jvm.Free.XT.i0_eq_t q) (off0 ht) (off1 ht) q'
  · exact (kn q).of fun t q' => XS.ifNo S.X.here S.ex rfl (S.hd hd) rfl (Jvm.Free.XT.i0_eq_f q) q'
theorem Go.icmp_eq (S : St p l e R s m args below meth c Z own bytes nl ret nm h0 ws T h locs cells slots) {x y : Int32} {o : Int} {pt : Nat} (hd : decode bytes pc = .ok (.if_icmp .eq o, 3)) (ht : (pc : Int) + o = (pt : Int)) (hf : pc + 3 = pc') (ky : x = y → Go p e below P T (mkF m pt Ls st)) (kn : ¬ x = y → Go p e below P T (mkF m pc' Ls st)) : Go p e below P T (mkF m pc Ls (.int y :: .int x :: st)) := by
  subst hf
  by_cases q : x = y
  · exact (ky q).of fun t q' => XS.icmpYes S.X.here S.ex rfl (pc0 := pc) rfl (S.hd hd) rfl (Jvm.Free.XT.ii_eq_t q) (off0 ht) (off1 ht) q'
  · exact (kn q).of fun t q' => XS.icmpNo S.X.here S.ex rfl (S.hd hd) rfl (Jvm.Free.XT.ii_eq_f q) q'
theorem Go.lcmp_eq (S : St p l e R s m args below meth c Z own bytes nl ret nm h0 ws T h locs cells slots) {x y : Int64} {o : Int} {pt : Nat} {pc1 : Nat} (hd1 : decode bytes pc = .ok (.lcmp, 1)) (h1 : pc + 1 = pc1) (hd : decode bytes pc1 = .ok (.ifCond .eq o, 3)) (ht : (pc1 : Int) + o = (pt : Int)) (hf : pc1 + 3 = pc') (ky : x = y → Go p e below P T (mkF m pt Ls st)) (kn : ¬ x = y → Go p e below P T (mkF m pc' Ls st)) : Go p e below P T (mkF m pc Ls (.long y :: .long x :: st)) := by
  subst hf h1
  by_cases q : x = y
  · exact (ky q).of fun t q' => Jvm.Free.XT.lcmp S.X.here S.ex rfl (S.hd hd1) rfl (XS.ifYes S.X.here S.ex rfl (pc0 := pc + 1) rfl (S.hd hd) rfl (Jvm.Free.XT.ll_eq_t q) (off0 ht) (off1 ht) q')
  · exact (kn q).of fun t q' => Jvm.Free.XT.lcmp S.X.here S.ex rfl (S.hd hd1) rfl (XS.ifNo S.X.here S.ex rfl (S.hd hd) rfl (Jvm.Free.XT.ll_eq_f q) q')
theorem Go.if_ne (S : St p l e R s m args below meth c Z own bytes nl ret nm h0 ws T h locs cells slots) {x : Int32} {o : Int} {pt : Nat} (hd : decode bytes pc = .ok (.ifCond .ne o, 3)) (ht : (pc : Int) + o = (pt : Int)) (hf : pc + 3 = pc') (ky : ¬ x = 0 → Go p e below P T (mkF m pt Ls st)) (kn : x = 0 → Go p e below P T (mkF m pc' Ls st)) : Go p e below P T (mkF m pc Ls (.int x :: st)) := by
  subst hf
  by_cases q : x = 0
  · exact (kn q).of fun t q' => XS.ifNo S.X.here S.ex rfl (S.hd hd) rfl (Jvm.Free.XT.i0_ne_f q) q'
  · exact (ky q).of fun t q' => XS.ifYes S.X.here S.ex rfl (pc0 := pc) rfl (S.hd hd) rfl (Jvm.Free.XT.i0_ne_t q) (off0 ht) (off1 ht) q'
theorem Go.icmp_ne (S : St p l e R s m args below meth c Z own bytes nl ret nm h0 ws T h locs cells slots) {x y : Int32} {o : Int} {pt : Nat} (hd : decode bytes pc = .ok (.if_icmp .ne o, 3)) (ht : (pc : Int) + o = (pt : Int)) (hf : pc + 3 = pc') (ky : ¬ x = y → Go p e below P T (mkF m pt Ls st)) (kn : x = y → Go p e below P T (mkF m pc' Ls st)) : Go p e below P T (mkF m pc Ls (.int y :: .int x :: st)) := by
  subst hf
  by_cases q : x = y
  · exact (kn q).of fun t q' => XS.icmpNo S.X.here S.ex rfl (S.hd hd) rfl (Jvm.Free.XT.ii_ne_f q) q'
  · exact (ky q).of fun t q' => XS.icmpYes S.X.here S.ex rfl (pc0 := pc) rfl (S.hd hd) rfl (Jvm.Free.XT.ii_ne_t q) (off0 ht) (off1 ht) q'
theorem Go.lcmp_ne (S : St p l e R s m args below meth c Z own bytes nl ret nm h0 ws T h locs cells slots) {x y : Int64} {o : Int} {pt : Nat} {pc1 : Nat} (hd1 : decode bytes pc = .ok (.lcmp, 1)) (h1 : pc + 1 = pc1) (hd : decode bytes pc1 = .ok (.ifCond .ne o, 3)) (ht : (pc1 : Int) + o = (pt : Int)) (hf : pc1 + 3 = pc') (ky : ¬ x = y → Go p e below P T (mkF m pt Ls st)) (kn : x = y → Go p e below P T (mkF m pc' Ls st)) : Go p e below P T (mkF m pc Ls (.long y :: .long x :: st)) := by
  subst hf h1
  by_cases q : x = y
  · exact (kn q).of fun t q' => Jvm.Free.XT.lcmp S.X.here S.ex rfl (S.hd hd1) rfl (XS.ifNo S.X.here S.ex rfl (S.hd hd) rfl (Jvm.Free.XT.ll_ne_f q) q')
  · exact (ky q).of fun t q' => Jvm.Free.XT.lcmp S.X.here S.ex rfl (S.hd hd1) rfl (XS.ifYes S.X.here S.ex rfl (pc0 := pc + 1) rfl (S.hd hd) rfl (Jvm.Free.XT.ll_ne_t q) (off0 ht) (off1 ht) q')
theorem Go.if_lt (S : St p l e R s m args below meth c Z own bytes nl ret nm h0 ws T h locs cells slots) {x : Int32} {o : Int} {pt : Nat} (hd : decode bytes pc = .ok (.ifCond .lt o, 3)) (ht : (pc : Int) + o = (pt : Int)) (hf : pc + 3 = pc') (ky : x < 0 → Go p e below P T (mkF m pt Ls st)) (kn : ¬ x < 0 → Go p e below P T (mkF m pc' Ls st)) : Go p e below P T (mkF m pc Ls (.int x :: st)) := by
  subst hf
  by_cases q : x < 0
  · exact (ky q).of fun t q' => XS.ifYes S.X.here S.ex rfl (pc0 := pc) rfl (S.hd hd) rfl (Jvm.Free.XT.i0_lt_t q) (off0 ht) (off1 ht) q'
  · exact (kn q).of fun t q' => XS.ifNo S.X.here S.ex rfl (S.hd hd) rfl (Jvm.Free.XT.i0_lt_f q) q'
theorem Go.icmp_lt (S : St p l e R s m args below meth c Z own bytes nl ret nm h0 ws T h locs cells slots) {x y : Int32} {o : Int} {pt : Nat} (hd : decode bytes pc = .ok (.if_icmp .lt o, 3)) (ht : (pc : Int) + o = (pt : Int)) (hf : pc + 3 = pc') (ky : x < y → Go p e below P T (mkF m pt Ls st)) (kn : ¬ x < y → Go p e below P T (mkF m pc' Ls st)) : Go p e below P T (mkF m pc Ls (.int y :: .int x :: st)) := by
  subst hf
  by_cases q : x < y
  · exact (ky q).of fun t q' => XS.icmpYes S.X.here S.ex rfl (pc0 := pc) rfl (S.hd hd) rfl (Jvm.Free.XT.ii_lt_t q) (off0 ht) (off1 ht) q'
  · exact (kn q).of fun t q' => XS.icmpNo S.X.here S.ex rfl (S.hd hd) rfl (Jvm.Free.XT.ii_lt_f q) q'
theorem Go.lcmp_lt (S : St p l e R s m args below meth c Z own bytes nl ret nm h0 ws T h locs cells slots) {x y : Int64} {o : Int} {pt : Nat} {pc1 : Nat} (hd1 : decode bytes pc = .ok (.lcmp, 1)) (h1 : pc + 1 = pc1) (hd : decode bytes pc1 = .ok (.ifCond .lt o, 3)) (ht : (pc1 : Int) + o = (pt : Int)) (hf : pc1 + 3 = pc') (ky : x < y → Go p e below P T (mkF m pt Ls st)) (kn : ¬ x < y → Go p e below P T (mkF m pc' Ls st)) : Go p e below P T (mkF m pc Ls (.long y :: .long x :: st)) := by
  subst hf h1
  by_cases q : x < y
  · exact (ky q).of fun t q' => Jvm.Free.XT.lcmp S.X.here S.ex rfl (S.hd hd1) rfl (XS.ifYes S.X.here S.ex rfl (pc0 := pc + 1) rfl (S.hd hd) rfl (Jvm.Free.XT.ll_lt_t q) (off0 ht) (off1 ht) q')
  · exact (kn q).of fun t q' => Jvm.Free.XT.lcmp S.X.here S.ex rfl (S.hd hd1) rfl (XS.ifNo S.X.here S.ex rfl (S.hd hd) rfl (Jvm.Free.XT.ll_lt_f q) q')
theorem Go.if_ge (S : St p l e R s m args below meth c Z own bytes nl ret nm h0 ws T h locs cells slots) {x : Int32} {o : Int} {pt : Nat} (hd : decode bytes pc = .ok (.ifCond .ge o, 3)) (ht : (pc : Int) + o = (pt : Int)) (hf : pc + 3 = pc') (ky : ¬ x < 0 → Go p e below P T (mkF m pt Ls st)) (kn : x < 0 → Go p e below P T (mkF m pc' Ls st)) : Go p e below P T (mkF m pc Ls (.int x :: st)) := by
  subst hf
  by_cases q : x < 0
  · exact (kn q).of fun t q' => XS.ifNo S.X.here S.ex rfl (S.hd hd) rfl (Jvm.Free.XT.i0_ge_f q) q'
  · exact (ky q).of fun t q' => XS.ifYes S.X.here S.ex rfl (pc0 := pc) rfl (S.hd hd) rfl (Jvm.Free.XT.i0_ge_t q) (off0 ht) (off1 ht) q'
theorem Go.icmp_ge (S : St p l e R s m args below meth c Z own bytes nl ret nm h0 ws T h locs cells slots) {x y : Int32} {o : Int} {pt : Nat} (hd : decode bytes pc = .ok (.if_icmp .ge o, 3)) (ht : (pc : Int) + o = (pt : Int)) (hf : pc + 3 = pc') (ky : ¬ x < y → Go p e below P T (mkF m pt Ls st)) (kn : x < y → Go p e below P T (mkF m pc' Ls st)) : Go p e below P T (mkF m pc Ls (.int y :: .int x :: st)) := by
  subst hf
  by_cases q : x < y
  · exact (kn q).of fun t q' => XS.icmpNo S.X.here S.ex rfl (S.hd hd) rfl (Jvm.Free.XT.ii_ge_f q) q'
  · exact (ky q).of fun t q' => XS.icmpYes S.X.here S.ex rfl (pc0 := pc) rfl (S.hd hd) rfl (Jvm.Free.XT.ii_ge_t q) (off0 ht) (off1 ht) q'
theorem Go.lcmp_ge (S : St p l e R s m args below meth c Z own bytes nl ret nm h0 ws T h locs cells slots) {x y : Int64} {o : Int} {pt : Nat} {pc1 : Nat} (hd1 : decode bytes pc = .ok (.lcmp, 1)) (h1 : pc + 1 = pc1) (hd : decode bytes pc1 = .ok (.ifCond .ge o, 3)) (ht : (pc1 : Int) + o = (pt : Int)) (hf : pc1 + 3 = pc') (ky : ¬ x < y → Go p e below P T (mkF m pt Ls st)) (kn : x < y → Go p e below P T (mkF m pc' Ls st)) : Go p e below P T (mkF m pc Ls (.long y :: .long x :: st)) := by
  subst hf h1
  by_cases q : x < y
  · exact (kn q).of fun t q' => Jvm.Free.XT.lcmp S.X.here S.ex rfl (S.hd hd1) rfl (XS.ifNo S.X.here S.ex rfl (S.hd hd) rfl (Jvm.Free.XT.ll_ge_f q) q')
  · exact (ky q).of fun t q' => Jvm.Free.XT.lcmp S.X.here S.ex rfl (S.hd hd1) rfl (XS.ifYes S.X.here S.ex rfl (pc0 := pc + 1) rfl (S.hd hd) rfl (Jvm.Free.XT.ll_ge_t q) (off0 ht) (off1 ht) q')
theorem Go.if_gt (S : St p l e R s m args below meth c Z own bytes nl ret nm h0 ws T h locs cells slots) {x : Int32} {o : Int} {pt : Nat} (hd : decode bytes pc = .ok (.ifCond .gt o, 3)) (ht : (pc : Int) + o = (pt : Int)) (hf : pc + 3 = pc') (ky : 0 < x → Go p e below P T (mkF m pt Ls st)) (kn : ¬ 0 < x → Go p e below P T (mkF m pc' Ls st)) : Go p e below P T (mkF m pc Ls (.int x :: st)) := by
  subst hf
  by_cases q : 0 < x
  · exact (ky q).of fun t q' => XS.ifYes S.X.here S.ex rfl (pc0 := pc) rfl (S.hd hd) rfl (Jvm.Free.XT.i0_gt_t q) (off0 ht) (off1 ht) q'
  · exact (kn q).of fun t q' => XS.ifNo S.X.here S.ex rfl (S.hd hd) rfl (Jvm.Free.XT.i0_gt_f q) q'
theorem Go.icmp_gt (S : St p l e R s m args below meth c Z own bytes nl ret nm h0 ws T h locs cells slots) {x y : Int32} {o : Int} {pt : Nat} (hd : decode bytes pc = .ok (.if_icmp .gt o, 3)) (ht : (pc : Int) + o = (pt : Int)) (hf : pc + 3 = pc') (ky : y < x → Go p e below P T (mkF m pt Ls st)) (kn : ¬ y < x → Go p e below P T (mkF m pc' Ls st)) : Go p e below P T (mkF m pc Ls (.int y :: .int x :: st)) := by
  subst hf
  by_cases q : y < x
  · exact (ky q).of fun t q' => XS.icmpYes S.X.here S.ex rfl (pc0 := pc) rfl (S.hd hd) rfl (Jvm.Free.XT.ii_gt_t q) (off0 ht) (off1 ht) q'
  · exact (kn q).of fun t q' => XS.icmpNo S.X.here S.ex rfl (S.hd hd) rfl (Jvm.Free.XT.ii_gt_f q) q'
theorem Go.lcmp_gt (S : St p l e R s m args below meth c Z own bytes nl ret nm h0 ws T h locs cells slots) {x y : Int64} {o : Int} {pt : Nat} {pc1 : Nat} (hd1 : decode bytes pc = .ok (.lcmp, 1)) (h1 : pc + 1 = pc1) (hd : decode bytes pc1 = .ok (.ifCond .gt o, 3)) (ht : (pc1 : Int) + o = (pt : Int)) (hf : pc1 + 3 = pc') (ky : y < x → Go p e below P T (mkF m pt Ls st)) (kn : ¬ y < x → Go p e below P T (mkF m pc' Ls st)) : Go p e below P T (mkF m pc Ls (.long y :: .long x :: st)) := by
  subst hf h1
  by_cases q : y < x
  · exact (ky q).of fun t q' => Jvm.Free.XT.lcmp S.X.here S.ex rfl (S.hd hd1) rfl (XS.ifYes S.X.here S.ex rfl (pc0 := pc + 1) rfl (S.hd hd) rfl (Jvm.Free.XT.ll_gt_t q) (off0 ht) (off1 ht) q')
  · exact (kn q).of fun t q' => Jvm.Free.XT.lcmp S.X.here S.ex rfl (S.hd hd1) rfl (XS.ifNo S.X.here S.ex rfl (S.hd hd) rfl (Jvm.Free.XT.ll_gt_f q) q')
theorem Go.if_le (S : St p l e R s m args below meth c Z own bytes nl ret nm h0 ws T h locs cells slots) {x : Int32} {o : Int} {pt : Nat} (hd : decode bytes pc = .ok (.ifCond .le o, 3)) (ht : (pc : Int) + o = (pt : Int)) (hf : pc + 3 = pc') (ky : ¬ 0 < x → Go p e below P T (mkF m pt Ls st)) (kn : 0 < x → Go p e below P T (mkF m pc' Ls st)) : Go p e below P T (mkF m pc Ls (.int x :: st)) := by
  subst hf
  by_cases q : 0 < x
  · exact (kn q).of fun t q' => XS.ifNo S.X.here S.ex rfl (S.hd hd) rfl (Jvm.Free.XT.i0_le_f q) q'
  · exact (ky q).of fun t q' => XS.ifYes S.X.here S.ex rfl (pc0 := pc) rfl (S.hd hd) rfl (Jvm.Free.XT.i0_le_t q) (off0 ht) (off1 ht) q'
theorem Go.icmp_le (S : St p l e R s m args below meth c Z own bytes nl ret nm h0 ws T h locs cells slots) {x y : Int32} {o : Int} {pt : Nat} (hd : decode bytes pc = .ok (.if_icmp .le o, 3)) (ht : (pc : Int) + o = (pt : Int)) (hf : pc + 3 = pc') (ky : ¬ y < x → Go p e below P T (mkF m pt Ls st)) (kn : y < x → Go p e below P T (mkF m pc' Ls st)) : Go p e below P T (mkF m pc Ls (.int y :: .int x :: st)) := by
  subst hf
  by_cases q : y < x
  · exact (kn q).of fun t q' => XS.icmpNo S.X.here S.ex rfl (S.hd hd) rfl (Jvm.Free.XT.ii_le_f q) q'
  · exact (ky q).of fun t q' => XS.icmpYes S.X.here S.ex rfl (pc0 := pc) rfl (S.hd hd) rfl (Jvm.Free.XT.ii_le_t q) (off0 ht) (off1 ht) q'
theorem Go.lcmp_le (S : St p l e R s m args below meth c Z own bytes nl ret nm h0 ws T h locs cells slots) {x y : Int64} {o : Int} {pt : Nat} {pc1 : Nat} (hd1 : decode bytes pc = .ok (.lcmp, 1)) (h1 : pc + 1 = pc1) (hd : decode bytes pc1 = .ok (.ifCond .le o, 3)) (ht : (pc1 : Int) + o = (pt : Int)) (hf : pc1 + 3 = pc') (ky : ¬ y < x → Go p e below P T (mkF m pt Ls st)) (kn : y < x → Go p e below P T (mkF m pc' Ls st)) : Go p e below P T (mkF m pc Ls (.long y :: .long x :: st)) := by
  subst hf h1
  by_cases q : y < x
  · exact (kn q).of fun t q' => Jvm.Free.XT.lcmp S.X.here S.ex rfl (S.hd hd1) rfl (XS.ifNo S.X.here S.ex rfl (S.hd hd) rfl (Jvm.Free.XT.ll_le_f q) q')
  · exact (ky q).of fun t q' => Jvm.Free.XT.lcmp S.X.here S.ex rfl (S.hd hd1) rfl (XS.ifYes S.X.here S.ex rfl (pc0 := pc + 1) rfl (S.hd hd) rfl (Jvm.Free.XT.ll_le_t q) (off0 ht) (off1 ht) q')
theorem Go.acmp_eq (S : St p l e R s m args below meth c Z own bytes nl ret nm h0 ws T h locs cells slots) {x y : Value} {o : Int} {pt : Nat} (hd : decode bytes pc = .ok (.if_acmp .eq o, 3)) (ht : (pc : Int) + o = (pt : Int)) (hf : pc + 3 = pc') (rx : x.isRef = true) (ry : y.isRef = true) (ky : x = y → Go p e below P T (mkF m pt Ls st)) (kn : ¬ x = y → Go p e below P T (mkF m pc' Ls st)) : Go p e below P T (mkF m pc Ls (y :: x :: st)) := by
  subst hf
  by_cases q : x = y
  · exact (ky q).of fun t q' => Jvm.RoadKit.acmp (g := mkF m pc Ls (y :: x :: st)) S.X S.ex rfl rx ry (pc0 := pc) (same := true) rfl (S.hd hd) rfl (decide_eq_true q) (off0 ht) ((off1 ht).symm.trans (if_pos rfl).symm) q'
  · exact (kn q).of fun t q' => Jvm.RoadKit.acmp (g := mkF m pc Ls (y :: x :: st)) S.X S.ex rfl rx ry (pc0 := pc) (same := false) rfl (S.hd hd) rfl (decide_eq_false q) (off0 ht) ((if_neg (fun z => nomatch z)).symm) q'
theorem Go.acmp_ne (S : St p l e R s m args below meth c Z own bytes nl ret nm h0 ws T h locs cells slots) {x y : Value} {o : Int} {pt : Nat} (hd : decode bytes pc = .ok (.if_acmp .ne o, 3)) (ht : (pc : Int) + o = (pt : Int)) (hf : pc + 3 = pc') (rx : x.isRef = true) (ry : y.isRef = true) (ky : ¬ x = y → Go p e below P T (mkF m pt Ls st)) (kn : x = y → Go p e below P T (mkF m pc' Ls st)) : Go p e below P T (mkF m pc Ls (y :: x :: st)) := by
  subst hf
  by_cases q : x = y
  · exact (kn q).of fun t q' => Jvm.RoadKit.acmp (g := mkF m pc Ls (y :: x :: st)) S.X S.ex rfl rx ry (pc0 := pc) (same := true) rfl (S.hd hd) rfl (decide_eq_true q) (off0 ht) ((if_neg (fun z => nomatch z)).symm) q'
  · exact (ky q).of fun t q' => Jvm.RoadKit.acmp (g := mkF m pc Ls (y :: x :: st)) S.X S.ex rfl rx ry (pc0 := pc) (same := false) rfl (S.hd hd) rfl (decide_eq_false q) (off0 ht) ((off1 ht).symm.trans (if_pos rfl).symm) q'
theorem Go.ifnullY (S : St p l e R s m args below meth c Z own bytes nl ret nm h0 ws T h locs cells slots) {o : Int} {pt : Nat} (hd : decode bytes pc = .ok (.ifnull o, 3)) (ht : (pc : Int) + o = (pt : Int)) (k : Go p e below P T (mkF m pt Ls st)) : Go p e below P T (mkF m pc Ls (.null :: st)) :=
  k.of fun t q => XS.ifnullYes S.X.here S.ex rfl (pc0 := pc) rfl (S.hd hd) rfl (off0 ht) (off1 ht) q
theorem Go.ifnullN (S : St p l e R s m args below meth c Z own bytes nl ret nm h0 ws T h locs cells slots) {o : Int} {b : Addr} (hd : decode bytes pc = .ok (.ifnull o, 3)) (hf : pc + 3 = pc') (k : Go p e below P T (mkF m pc' Ls st)) : Go p e below P T (mkF m pc Ls (.ref b :: st)) := by
  subst hf
  exact k.of fun t q => XS.ifnullNo S.X.here S.ex rfl (S.hd hd) rfl q
theorem Go.ifnonnullY (S : St p l e R s m args below meth c Z own bytes nl ret nm h0 ws T h locs cells slots) {o : Int} {pt : Nat} {b : Addr} (hd : decode bytes pc = .ok (.ifnonnull o, 3)) (ht : (pc : Int) + o = (pt : Int)) (k : Go p e below P T (mkF m pt Ls st)) : Go p e below P T (mkF m pc Ls (.ref b :: st)) :=
  k.of fun t q => XS.ifnonnullYes S.X.here S.ex rfl (pc0 := pc) rfl (S.hd hd) rfl (off0 ht) (off1 ht) q
theorem Go.ifnonnullN (S : St p l e R s m args below meth c Z own bytes nl ret nm h0 ws T h locs cells slots) {o : Int} (hd : decode bytes pc = .ok (.ifnonnull o, 3)) (hf : pc + 3 = pc') (k : Go p e below P T (mkF m pc' Ls st)) : Go p e below P T (mkF m pc Ls (.null :: st)) := by
  subst hf
  exact k.of fun t q => XS.ifnonnullNo S.X.here S.ex rfl (S.hd hd) rfl q
theorem Go.ldc (S : St p l e R s m args below meth c Z own bytes nl ret nm h0 ws T h locs cells slots) {index : Nat} {v : Int32} (w : (Jvm.Cond.constant own index v).before a0 Z = true) (hd : decode bytes pc = .ok (.ldc index, 2)) (hp : pc + 2 = pc') (k : Go p e below P T (mkF m pc' Ls (.int v :: st))) : Go p e below P T (mkF m pc Ls st) := by
  subst hp
  exact k.of fun t q => S.X.ldcInt S.ex S.hown (mvT S.hZ w) (g := mkF m pc Ls st) rfl (S.hd hd) _ q
theorem Go.ldc2 (S : St p l e R s m args below meth c Z own bytes nl ret nm h0 ws T h locs cells slots) {index : Nat} {v : Int64} (w : (Jvm.Cond.constantLong own index v).before a0 Z = true) (hd : decode bytes pc = .ok (.ldc2_w index, 3)) (hp : pc + 3 = pc') (k : Go p e below P T (mkF m pc' Ls (.long v :: st))) : Go p e below P T (mkF m pc Ls st) := by
  subst hp
  exact k.of fun t q => S.X.ldc2Long S.ex S.hown (mvT S.hZ w) (g := mkF m pc Ls st) rfl (S.hd hd) _ q
theorem Go.leaves (S : St p l e R s m args below meth c Z own bytes nl ret nm h0 ws T h locs cells slots) {kc ks : Nat} {Q : Option Value → Heap → Prop} {g : JFrame} {v : Option Value} (hv : ret = none → v = none) (hc : cells ≤ kc) (hs : slots ≤ ks)
    (step : ∀ fs : List Frame, (∀ (f : JFrame) (acts : List Action), f.method = m → f.locked = none → f.entered = [] → (doReturn e (T.setTop f) acts v).1 = T.setFrames fs) → Steps p.tables e below (T.setTop g) (T.setFrames fs)) (q : Q v h) : Go p e below (PostOf Z s h0 ws kc ks Q) T g := by
  obtain ⟨fs, hr, hrun, hended, hW, hsame⟩ := S.X.leave (v := v) (fun q => hv (S.hret ▸ q)) S.locks
  refine ⟨_, _, step fs hr, hrun, hended, v, locs, rfl, ⟨S.fr, ?_, ?_, ?_⟩, ⟨_, rfl⟩, hW, hsame.mono hc hs⟩
  · show Keep h0 T.heap ws
    rw [S.eT]; exact S.keep
  · show Ext Z.heap T.heap
    rw [S.eT]; exact S.ext
  · show Q v T.heap
    rw [S.eT]; exact q
theorem St.leaves0 (S : St p l e R s m args below meth c Z own bytes nl ret nm h0 ws T h locs cells slots) {kc ks : Nat} {Q : Option Value → Heap → Prop} {g : JFrame} {w : Value} {t : FieldType} (hret : ret = some t) (hc : cells ≤ kc) (hs : slots ≤ ks) (q : Q (some w) h)
    (step : ∀ fs : List Frame, (∀ (f : JFrame) (acts : List Action), f.method = m → f.locked = none → f.entered = [] → (doReturn e (T.setTop f) acts (some w)).1 = T.setFrames fs) → Steps p.tables e below (T.setTop g) (T.setFrames fs)) : Go p e below (PostOf Z s h0 ws kc ks Q) T g :=
  Go.leaves S (fun q => by rw [hret] at q; cases q) hc hs step q
theorem narrow_ref {t : FieldType} {w : Value} (ht : t.isReference = true) (hw : w.isRef = true) : narrow t w = w := by
  rcases ref_cases hw with rfl | ⟨a, rfl⟩ <;> cases t <;> rfl
theorem Go.ireturn (S : St p l e R s m args below meth c Z own bytes nl ret nm h0 ws T h locs cells slots) {kc ks : Nat} {Q : Option Value → Heap → Prop} {z : Int32} (hret : ret = some .int) (hd : decode bytes pc = .ok (.ireturn, 1)) (hc : cells ≤ kc) (hs : slots ≤ ks) (q : Q (some (.int z)) h) : Go p e below (PostOf Z s h0 ws kc ks Q) T (mkF m pc Ls (.int z :: st)) :=
  S.leaves0 hret hc hs q fun fs hr => retOut S.X S.ex (t := .int) (i := .ireturn) (S.hret.trans hret) rfl (Or.inl ⟨rfl, Or.inl rfl, z, rfl⟩) (S.hd hd) hr
theorem Go.lreturn (S : St p l e R s m args below meth c Z own bytes nl ret nm h0 ws T h locs cells slots) {kc ks : Nat} {Q : Option Value → Heap → Prop} {z : Int64} (hret : ret = some .long) (hd : decode bytes pc = .ok (.lreturn, 1)) (hc : cells ≤ kc) (hs : slots ≤ ks) (q : Q (some (.long z)) h) : Go p e below (PostOf Z s h0 ws kc ks Q) T (mkF m pc Ls (.long z :: st)) :=
  S.leaves0 hret hc hs q fun fs hr => retOut S.X S.ex (t := .long) (i := .lreturn) (S.hret.trans hret) rfl (Or.inr (Or.inl ⟨rfl, rfl, z, rfl⟩)) (S.hd hd) hr
theorem Go.areturn (S : St p l e R s m args below meth c Z own bytes nl ret nm h0 ws T h locs cells slots) {kc ks : Nat} {Q : Option Value → Heap → Prop} {w : Value} {t : FieldType} (hret : ret = some t) (ht : t.isReference = true) (hw : w.isRef = true) (hd : decode bytes pc = .ok (.areturn, 1)) (hc : cells ≤ kc) (hs : slots ≤ ks) (q : Q (some w) h) : Go p e below (PostOf Z s h0 ws kc ks Q) T (mkF m pc Ls (w :: st)) :=
  S.leaves0 hret hc hs q fun fs hr => retOut S.X S.ex (i := .areturn) (S.hret.trans hret) (narrow_ref ht hw) (Or.inr (Or.inr (Or.inr (Or.inr ⟨rfl, ht, hw⟩)))) (S.hd hd) hr
theorem Go.zreturn (S : St p l e R s m args below meth c Z own bytes nl ret nm h0 ws T h locs cells slots) {kc ks : Nat} {Q : Option Value → Heap → Prop} {z z' : Int32} {t : FieldType} (hret : ret = some t) (ht : t = .boolean ∨ t = .byte ∨ t = .char ∨ t = .short) (hd : decode bytes pc = .ok (.ireturn, 1)) (hz : nar t z = z') (hc : cells ≤ kc) (hs : slots ≤ ks) (q : Q (some (.int z')) h) : Go p e below (PostOf Z s h0 ws kc ks Q) T (mkF m pc Ls (.int z :: st)) := by
  subst hz
  exact S.leaves0 hret hc hs q fun fs hr => retN S.X S.ex (S.hret.trans hret) ht (S.hd hd) hr
theorem Go.vreturn (S : St p l e R s m args below meth c Z own bytes nl ret nm h0 ws T h locs cells slots) {kc ks : Nat} {Q : Option Value → Heap → Prop} (hret : ret = none) (hd : decode bytes pc = .ok (.return_, 1)) (hc : cells ≤ kc) (hs : slots ≤ ks) (q : Q none h) : Go p e below (PostOf Z s h0 ws kc ks Q) T (mkF m pc Ls []) :=
  Go.leaves S (fun _ => rfl) hc hs (fun fs hr => S.X.returnOut S.ex (S.hret.trans hret) (S.hd hd) hr) q
theorem Go.getfield (S : St p l e R s m args below meth c Z own bytes nl ret nm h0 ws T h locs cells slots) {R0 O n d host : String} {index : Nat} {a : Addr} {v : Value} (w : ((Jvm.Cond.fieldLink own index R0 n d).before a0 Z = true ∨ (Jvm.Cond.fieldLinkNest own index R0 n d host).before a0 Z = true)) (via : Via Z R0 O n d) (F : Fld Z h a O n d v) (hd : decode bytes pc = .ok (.getfield index, 3)) (hp : pc + 3 = pc')
    (k : ∀ T', St p l e R s m args below meth c Z own bytes nl ret nm h0 ws T' h locs cells slots → Go p e below P T' (mkF m pc' Ls (v :: st))) : Go p e below P T (mkF m pc Ls (.ref a :: st)) := by
  subst hp
  obtain ⟨T', X', e', f⟩ := getF S.X S.ex S.hZ S.hown w via S.eT F (g := mkF m pc Ls (.ref a :: st)) rfl rfl (S.hd hd)
  exact (k T' (S.next X' e' S.fr S.keep S.ext)).of f
theorem Go.getstatic (S : St p l e R s m args below meth c Z own bytes nl ret nm h0 ws T h locs cells slots) {R0 O n d host : String} {index : Nat} {v : Value} (w : ((Jvm.Cond.fieldLink own index R0 n d).before a0 Z = true ∨ (Jvm.Cond.fieldLinkNest own index R0 n d host).before a0 Z = true)) (via : Via Z R0 O n d) (F : Sta Z Z.heap O n d v) (hd : decode bytes pc = .ok (.getstatic index, 3)) (hp : pc + 3 = pc')
    (k : ∀ T', St p l e R s m args below meth c Z own bytes nl ret nm h0 ws T' h locs cells slots → Go p e below P T' (mkF m pc' Ls (v :: st))) : Go p e below P T (mkF m pc Ls st) := by
  subst hp
  obtain ⟨T', X', e', f⟩ := getS2 S.X S.ex S.hZ S.hown w via S.eT (F.ext S.ext) (g := mkF m pc Ls st) rfl (S.hd hd)
  exact (k T' (S.next X' e' S.fr S.keep S.ext)).of f
theorem St.wrote (S : St p l e R s m args below meth c Z own bytes nl ret nm h0 ws T h locs cells slots) {T' : State} {h' : Heap} {a : Addr} {sl : Nat} {v : Value} (X : Stand p l e R s m args below meth c T' (locs ++ [⟨a, sl⟩]) cells slots) (e1 : T'.heap = h') (W : Wr h h' a sl v) (hz : Z.heap.size ≤ a) (hws : a ∈ ws ∨ h0.size ≤ a) : St p l e R s m args below meth c Z own bytes nl ret nm h0 ws T' h' (locs ++ [⟨a, sl⟩]) cells slots :=
  S.next X e1 (Fr.snoc X S.fr hz) (S.keep.wr W hws) (Old.wr (n0 := Z.heap.size) ⟨rfl, S.ext⟩ W hz).2
theorem Go.putfield (S : St p l e R s m args below meth c Z own bytes nl ret nm h0 ws T h locs cells slots) {R0 O n d host C : String} {index kk : Nat} {ty : FieldType} {a : Addr} {v old : Value} (w : ((Jvm.Cond.fieldLink own index R0 n d).before a0 Z = true ∨ (Jvm.Cond.fieldLinkNest own index R0 n d host).before a0 Z = true)) (via : Via Z R0 O n d) (F : Fld Z h a O n d old) (E : Exa Z h a C)
    (L : (Jvm.Cond.lays C O n d).before a0 Z = true ∨ ((Jvm.Cond.laysFinal C O n d).before a0 Z = true ∧ own = O ∧ nm = "<init>")) (wi : (Jvm.Cond.instantiable C kk).before a0 Z = true) (hty : parseFieldDescriptor d = some ty) (hn : narrow ty v = v) (hf : fits ty v = true)
    (hz : Z.heap.size ≤ a) (hws : a ∈ ws ∨ h0.size ≤ a) (hd : decode bytes pc = .ok (.putfield index, 3)) (hp : pc + 3 = pc')
    (k : ∀ T' h' locs', St p l e R s m args below meth c Z own bytes nl ret nm h0 ws T' h' locs' cells slots → Wr h h' a (Jvm.RoadKit.slotOf Z O n d) v → Go p e below P T' (mkF m pc' Ls st)) : Go p e below P T (mkF m pc Ls (v :: .ref a :: st)) := by
  subst hp
  obtain ⟨T', h', X', e', W, f⟩ := putF S.X S.ex S.hZ S.hown w via S.eT F E (L.imp id fun q => ⟨q.1, q.2.1, S.hnm.trans q.2.2⟩) wi hty hn hf (g := mkF m pc Ls (v :: .ref a :: st)) rfl rfl (S.hd hd)
  exact (k T' h' _ (S.wrote X' e' W hz hws) W).of f
theorem Go.putfieldN (S : St p l e R s m args below meth c Z own bytes nl ret nm h0 ws T h locs cells slots) {R0 O n d C : String} {index kk : Nat} {ty : FieldType} {a : Addr} {v v' old : Value} (w : (Jvm.Cond.fieldLink own index R0 n d).before a0 Z = true) (via : Via Z R0 O n d) (F : Fld Z h a O n d old) (E : Exa Z h a C)
    (L : (Jvm.Cond.lays C O n d).before a0 Z = true ∨ ((Jvm.Cond.laysFinal C O n d).before a0 Z = true ∧ own = O ∧ nm = "<init>")) (wi : (Jvm.Cond.instantiable C kk).before a0 Z = true) (hty : parseFieldDescriptor d = some ty) (hn : narrow ty v = v') (hf : fits ty v' = true)
    (hz : Z.heap.size ≤ a) (hws : a ∈ ws ∨ h0.size ≤ a) (hd : decode bytes pc = .ok (.putfield index, 3)) (hp : pc + 3 = pc')
    (k : ∀ T' h' locs', St p l e R s m args below meth c Z own bytes nl ret nm h0 ws T' h' locs' cells slots → Wr h h' a (Jvm.RoadKit.slotOf Z O n d) v' → Go p e below P T' (mkF m pc' Ls st)) : Go p e below P T (mkF m pc Ls (v :: .ref a :: st)) := by
  subst hp
  obtain ⟨T', h', X', e', W, f⟩ := putFN S.X S.ex S.hZ S.hown w via S.eT F E (L.imp id fun q => ⟨q.1, q.2.1, S.hnm.trans q.2.2⟩) wi hty hn hf (g := mkF m pc Ls (v :: .ref a :: st)) rfl rfl (S.hd hd)
  exact (k T' h' _ (S.wrote X' e' W hz hws) W).of f
theorem St.made (S : St p l e R s m args below meth c Z own bytes nl ret nm h0 ws T h locs cells slots) {T' : State} {h' : Heap} {cells' slots' : Nat} (X : Stand p l e R s m args below meth c T' locs cells' slots') (e1 : T'.heap = h') (E : Ext h h') : St p l e R s m args below meth c Z own bytes nl ret nm h0 ws T' h' locs cells' slots' :=
  S.next X e1 S.fr (S.keep.ext E) (Old.ext (n0 := Z.heap.size) ⟨rfl, S.ext⟩ E).2
theorem Go.new (S : St p l e R s m args below meth c Z own bytes nl ret nm h0 ws T h locs cells slots) {C : String} {index n : Nat} (w : (Jvm.Cond.classLink own index C).before a0 Z = true) (wi : (Jvm.Cond.instantiable C n).before a0 Z = true) (wz : (Jvm.Cond.initialized C).before a0 Z = true) (hd : decode bytes pc = .ok (.new index, 3)) (hc : cells + 1 ≤ R.cells) (hl : slots + n ≤ R.slots) (hp : pc + 3 = pc')
    (k : ∀ T' h' a, St p l e R s m args below meth c Z own bytes nl ret nm h0 ws T' h' locs (cells + 1) (slots + n) → Ext h h' → h.size = a → Z.heap.size ≤ a → h0.size ≤ a → Exa Z h' a C → (∀ {O nm d : String} {ty : FieldType}, Laid Z a0 C O nm d → parseFieldDescriptor d = some ty → Fld Z h' a O nm d (defaultValue ty)) → Go p e below P T' (mkF m pc' Ls (.ref a :: st))) : Go p e below P T (mkF m pc Ls st) := by
  subst hp
  obtain ⟨T', h', X', e', E, A, D, -, f⟩ := newO S.X S.ex S.hZ S.hown w wi wz S.eT (g := mkF m pc Ls st) rfl (S.hd hd) hc hl
  exact (k T' h' h.size (S.made X' e' E) E rfl S.ext.1 S.keep.1 A D).of f
theorem Go.newarray (S : St p l e R s m args below meth c Z own bytes nl ret nm h0 ws T h locs cells slots) {aty : ArrayType} {n : Int32} {cap : Nat} {ty : FieldType} {dv : Value} (hty : newarray.typeOf aty = ty) (hdv : defaultValue ty = dv) (w : (Jvm.Cond.arrayClass ty).before a0 Z = true) (hd : decode bytes pc = .ok (.newarray aty, 2)) (hn : ¬ n < 0) (hcap : n.toNatClampNeg ≤ cap) (hb : cap * 8 ≤ 536870912) (hc : cells + 1 ≤ R.cells) (hl : slots + cap ≤ R.slots) (hp : pc + 2 = pc')
    (k : ∀ T' h' a cA, St p l e R s m args below meth c Z own bytes nl ret nm h0 ws T' h' locs (cells + 1) (slots + cap) → Ext h h' → h.size = a → Z.heap.size ≤ a → h0.size ≤ a → Arv Z h' a cA ty n (List.replicate cap dv) dv → Go p e below P T' (mkF m pc' Ls (.ref a :: st))) : Go p e below P T (mkF m pc Ls (.int n :: st)) := by
  subst hp hty hdv
  obtain ⟨T', h', cA, X', e', E, A, f⟩ := newP S.X S.ex S.hZ w S.eT (g := mkF m pc Ls (.int n :: st)) rfl (S.hd hd) rfl hn hcap hb hc hl
  exact (k T' h' h.size cA (S.made X' e' E) E rfl S.ext.1 S.keep.1 ((Arv.new A hn).pad (pad_rep [] _ cap))).of f
theorem Go.anewarray (S : St p l e R s m args below meth c Z own bytes nl ret nm h0 ws T h locs cells slots) {C : String} {index : Nat} {n : Int32} {cap : Nat} (w1 : (Jvm.Cond.classLink own index C).before a0 Z = true) (w2 : (Jvm.Cond.arrayOver (.object C)).before a0 Z = true) (hd : decode bytes pc = .ok (.anewarray index, 3)) (hn : ¬ n < 0) (hcap : n.toNatClampNeg ≤ cap) (hb : cap * 8 ≤ 536870912) (hc : cells + 1 ≤ R.cells) (hl : slots + cap ≤ R.slots) (hp : pc + 3 = pc')
    (k : ∀ T' h' a cA, St p l e R s m args below meth c Z own bytes nl ret nm h0 ws T' h' locs (cells + 1) (slots + cap) → Ext h h' → h.size = a → Z.heap.size ≤ a → h0.size ≤ a → Arv Z h' a cA (.object C) n (List.replicate cap .null) .null → Ovr Z cA C → Go p e below P T' (mkF m pc' Ls (.ref a :: st))) : Go p e below P T (mkF m pc Ls (.int n :: st)) := by
  subst hp
  obtain ⟨T', h', cA, X', e', E, A, O, f⟩ := newR S.X S.ex S.hZ S.hown w1 w2 S.eT (g := mkF m pc Ls (.int n :: st)) rfl (S.hd hd) rfl hn hcap hb hc hl
  exact (k T' h' h.size cA (S.made X' e' E) E rfl S.ext.1 S.keep.1 ((Arv.new A hn).pad (pad_rep [] _ cap)) O).of f
theorem Go.iastore (S : St p l e R s m args below meth c Z own bytes nl ret nm h0 ws T h locs cells slots) {a : Addr} {kA : ClassId} {n j : Int32} {x : Int32} {vs : List Value} {dv : Value} {i : Nat} (V : Arv Z h a kA .int n vs dv) (hj : ¬ j < 0 ∧ j < n) (hi : j.toNatClampNeg = i) (hl : i < vs.length) (hz : Z.heap.size ≤ a) (hws : a ∈ ws ∨ h0.size ≤ a) (hd : decode bytes pc = .ok (.iastore, 1)) (hp : pc + 1 = pc')
    (k : ∀ T' h' locs', St p l e R s m args below meth c Z own bytes nl ret nm h0 ws T' h' locs' cells slots → Wr h h' a j.toNatClampNeg (.int x) → Arv Z h' a kA .int n (vs.set i (.int x)) dv → Go p e below P T' (mkF m pc' Ls st)) : Go p e below P T (mkF m pc Ls (.int x :: .int j :: .ref a :: st)) := by
  subst hp
  obtain ⟨cl, A, q1, q2, q3, H, F⟩ := V
  obtain ⟨T', h', X', e', W, f⟩ := stI S.X S.ex S.hZ S.eT A (j := j) (x := x) (inb_of q2 hj) (g := mkF m pc Ls (.int x :: .int j :: .ref a :: st)) rfl rfl (S.hd hd)
  exact (k T' h' _ (S.wrote X' e' W hz hws) W (Arv.set A q1 q2 q3 H F rfl W i hi hl)).of f
theorem Go.castore (S : St p l e R s m args below meth c Z own bytes nl ret nm h0 ws T h locs cells slots) {a : Addr} {kA : ClassId} {n j : Int32} {x : Int32} {vs : List Value} {dv : Value} {i : Nat} (V : Arv Z h a kA .char n vs dv) (hj : ¬ j < 0 ∧ j < n) (hi : j.toNatClampNeg = i) (hl : i < vs.length) (hz : Z.heap.size ≤ a) (hws : a ∈ ws ∨ h0.size ≤ a) (hd : decode bytes pc = .ok (.castore, 1)) (hp : pc + 1 = pc')
    (k : ∀ T' h' locs', St p l e R s m args below meth c Z own bytes nl ret nm h0 ws T' h' locs' cells slots → Wr h h' a j.toNatClampNeg (.int (nar .char x)) → Arv Z h' a kA .char n (vs.set i (.int (nar .char x))) dv → Go p e below P T' (mkF m pc' Ls st)) : Go p e below P T (mkF m pc Ls (.int x :: .int j :: .ref a :: st)) := by
  subst hp
  obtain ⟨cl, A, q1, q2, q3, H, F⟩ := V
  obtain ⟨T', h', X', e', W, f⟩ := stC S.X S.ex S.hZ S.eT A (j := j) (x := x) (inb_of q2 hj) (g := mkF m pc Ls (.int x :: .int j :: .ref a :: st)) rfl rfl (S.hd hd)
  exact (k T' h' _ (S.wrote X' e' W hz hws) W (Arv.set A q1 q2 q3 H F (fits_nar_char _) W i hi hl)).of f
theorem Go.bastore (S : St p l e R s m args below meth c Z own bytes nl ret nm h0 ws T h locs cells slots) {a : Addr} {kA : ClassId} {n j : Int32} {x : Int32} {vs : List Value} {dv : Value} {i : Nat} (V : Arv Z h a kA .byte n vs dv) (hj : ¬ j < 0 ∧ j < n) (hi : j.toNatClampNeg = i) (hl : i < vs.length) (hz : Z.heap.size ≤ a) (hws : a ∈ ws ∨ h0.size ≤ a) (hd : decode bytes pc = .ok (.bastore, 1)) (hp : pc + 1 = pc')
    (k : ∀ T' h' locs', St p l e R s m args below meth c Z own bytes nl ret nm h0 ws T' h' locs' cells slots → Wr h h' a j.toNatClampNeg (.int (nar .byte x)) → Arv Z h' a kA .byte n (vs.set i (.int (nar .byte x))) dv → Go p e below P T' (mkF m pc' Ls st)) : Go p e below P T (mkF m pc Ls (.int x :: .int j :: .ref a :: st)) := by
  subst hp
  obtain ⟨cl, A, q1, q2, q3, H, F⟩ := V
  obtain ⟨T', h', X', e', W, f⟩ := stB S.X S.ex S.hZ S.eT A (j := j) (x := x) (inb_of q2 hj) (g := mkF m pc Ls (.int x :: .int j :: .ref a :: st)) rfl rfl (S.hd hd)
  exact (k T' h' _ (S.wrote X' e' W hz hws) W (Arv.set A q1 q2 q3 H F (fits_nar_byte _) W i hi hl)).of f
theorem Go.lastore (S : St p l e R s m args below meth c Z own bytes nl ret nm h0 ws T h locs cells slots) {a : Addr} {kA : ClassId} {n j : Int32} {x : Int64} {vs : List Value} {dv : Value} {i : Nat} (V : Arv Z h a kA .long n vs dv) (hj : ¬ j < 0 ∧ j < n) (hi : j.toNatClampNeg = i) (hl : i < vs.length) (hz : Z.heap.size ≤ a) (hws : a ∈ ws ∨ h0.size ≤ a) (hd : decode bytes pc = .ok (.lastore, 1)) (hp : pc + 1 = pc')
    (k : ∀ T' h' locs', St p l e R s m args below meth c Z own bytes nl ret nm h0 ws T' h' locs' cells slots → Wr h h' a j.toNatClampNeg (.long x) → Arv Z h' a kA .long n (vs.set i (.long x)) dv → Go p e below P T' (mkF m pc' Ls st)) : Go p e below P T (mkF m pc Ls (.long x :: .int j :: .ref a :: st)) := by
  subst hp
  obtain ⟨cl, A, q1, q2, q3, H, F⟩ := V
  obtain ⟨T', h', X', e', W, f⟩ := stJ S.X S.ex S.hZ S.eT A (j := j) (x := x) (inb_of q2 hj) (g := mkF m pc Ls (.long x :: .int j :: .ref a :: st)) rfl rfl (S.hd hd)
  exact (k T' h' _ (S.wrote X' e' W hz hws) W (Arv.set A q1 q2 q3 H F rfl W i hi hl)).of f
theorem Go.aastore (S : St p l e R s m args below meth c Z own bytes nl ret nm h0 ws T h locs cells slots) {a : Addr} {kA : ClassId} {ty : FieldType} {n j : Int32} {v : Value} {vs : List Value} {dv : Value} {i : Nat} (V : Arv Z h a kA ty n vs dv) (hty : ty.isReference = true) (hj : ¬ j < 0 ∧ j < n) (hi : j.toNatClampNeg = i) (hl : i < vs.length) (hfit : fits ty v = true) (F : Sto Z h a v) (hz : Z.heap.size ≤ a) (hws : a ∈ ws ∨ h0.size ≤ a) (hd : decode bytes pc = .ok (.aastore, 1)) (hp : pc + 1 = pc')
    (k : ∀ T' h' locs', St p l e R s m args below meth c Z own bytes nl ret nm h0 ws T' h' locs' cells slots → Wr h h' a j.toNatClampNeg v → Arv Z h' a kA ty n (vs.set i v) dv → Go p e below P T' (mkF m pc' Ls st)) : Go p e below P T (mkF m pc Ls (v :: .int j :: .ref a :: st)) := by
  subst hp
  obtain ⟨cl, A, q1, q2, q3, H, F'⟩ := V
  obtain ⟨T', h', X', e', W, f⟩ := stR S.X S.ex S.hZ S.eT A (j := j) (v := v) (inb_of q2 hj) hty F (g := mkF m pc Ls (v :: .int j :: .ref a :: st)) rfl rfl (S.hd hd)
  exact (k T' h' _ (S.wrote X' e' W hz hws) W (Arv.set A q1 q2 q3 H F' hfit W i hi hl)).of f
theorem Go.iaload (S : St p l e R s m args below meth c Z own bytes nl ret nm h0 ws T h locs cells slots) {a : Addr} {kA : ClassId} {n j : Int32} {v : Value} {vs : List Value} {dv : Value} (V : Arv Z h a kA .int n vs dv) (hj : ¬ j < 0 ∧ j < n) (hv : vs.getD j.toNatClampNeg dv = v) (hd : decode bytes pc = .ok (.iaload, 1)) (hp : pc + 1 = pc') (k : Go p e below P T (mkF m pc' Ls (v :: st))) : Go p e below P T (mkF m pc Ls (.int j :: .ref a :: st)) := by
  subst hp
  obtain ⟨cl, A, q1, q2, q3, H, F⟩ := V
  exact k.of fun t q => S.X.iaload S.ex (j := j) (v := v) (by rw [S.eT]; exact A.1) (State.isArrayOf_alike S.hZ.alike A.2.1) A.2.2 (inb_of q2 hj) (H.at (inb_of q2 hj) hv) (g := mkF m pc Ls (.int j :: .ref a :: st)) rfl rfl (S.hd hd) _ q
theorem Go.laload (S : St p l e R s m args below meth c Z own bytes nl ret nm h0 ws T h locs cells slots) {a : Addr} {kA : ClassId} {n j : Int32} {v : Value} {vs : List Value} {dv : Value} (V : Arv Z h a kA .long n vs dv) (hj : ¬ j < 0 ∧ j < n) (hv : vs.getD j.toNatClampNeg dv = v) (hd : decode bytes pc = .ok (.laload, 1)) (hp : pc + 1 = pc') (k : Go p e below P T (mkF m pc' Ls (v :: st))) : Go p e below P T (mkF m pc Ls (.int j :: .ref a :: st)) := by
  subst hp
  obtain ⟨cl, A, q1, q2, q3, H, F⟩ := V
  exact k.of fun t q => S.X.laload S.ex (j := j) (v := v) (by rw [S.eT]; exact A.1) (State.isArrayOf_alike S.hZ.alike A.2.1) A.2.2 (inb_of q2 hj) (H.at (inb_of q2 hj) hv) (g := mkF m pc Ls (.int j :: .ref a :: st)) rfl rfl (S.hd hd) _ q
theorem Go.caload (S : St p l e R s m args below meth c Z own bytes nl ret nm h0 ws T h locs cells slots) {a : Addr} {kA : ClassId} {n j : Int32} {v : Value} {vs : List Value} {dv : Value} (V : Arv Z h a kA .char n vs dv) (hj : ¬ j < 0 ∧ j < n) (hv : vs.getD j.toNatClampNeg dv = v) (hd : decode bytes pc = .ok (.caload, 1)) (hp : pc + 1 = pc') (k : Go p e below P T (mkF m pc' Ls (v :: st))) : Go p e below P T (mkF m pc Ls (.int j :: .ref a :: st)) := by
  subst hp
  obtain ⟨cl, A, q1, q2, q3, H, F⟩ := V
  exact k.of fun t q => S.X.caload S.ex (j := j) (v := v) (by rw [S.eT]; exact A.1) (State.isArrayOf_alike S.hZ.alike A.2.1) A.2.2 (inb_of q2 hj) (H.at (inb_of q2 hj) hv) (g := mkF m pc Ls (.int j :: .ref a :: st)) rfl rfl (S.hd hd) _ q
theorem Go.baload (S : St p l e R s m args below meth c Z own bytes nl ret nm h0 ws T h locs cells slots) {a : Addr} {kA : ClassId} {n j : Int32} {v : Value} {vs : List Value} {dv : Value} (V : Arv Z h a kA .byte n vs dv) (hj : ¬ j < 0 ∧ j < n) (hv : vs.getD j.toNatClampNeg dv = v) (hd : decode bytes pc = .ok (.baload, 1)) (hp : pc + 1 = pc') (k : Go p e below P T (mkF m pc' Ls (v :: st))) : Go p e below P T (mkF m pc Ls (.int j :: .ref a :: st)) := by
  subst hp
  obtain ⟨cl, A, q1, q2, q3, H, F⟩ := V
  exact k.of fun t q => S.X.baloadBytes S.ex (j := j) (v := v) (by rw [S.eT]; exact A.1) (State.isArrayOf_alike S.hZ.alike A.2.1) A.2.2 (inb_of q2 hj) (H.at (inb_of q2 hj) hv) (g := mkF m pc Ls (.int j :: .ref a :: st)) rfl rfl (S.hd hd) _ q
theorem Go.aaload (S : St p l e R s m args below meth c Z own bytes nl ret nm h0 ws T h locs cells slots) {a : Addr} {kA : ClassId} {ty : FieldType} {n j : Int32} {v : Value} {vs : List Value} {dv : Value} (V : Arv Z h a kA ty n vs dv) (hty : ty.isReference = true) (hj : ¬ j < 0 ∧ j < n) (hv : vs.getD j.toNatClampNeg dv = v) (hd : decode bytes pc = .ok (.aaload, 1)) (hp : pc + 1 = pc') (k : Go p e below P T (mkF m pc' Ls (v :: st))) : Go p e below P T (mkF m pc Ls (.int j :: .ref a :: st)) := by
  subst hp
  obtain ⟨cl, A, q1, q2, q3, H, F⟩ := V
  exact k.of fun t q => S.X.aaload S.ex (j := j) (v := v) (by rw [S.eT]; exact A.1) (State.isArrayOf_alike S.hZ.alike A.2.1) hty A.2.2 (inb_of q2 hj) (H.at (inb_of q2 hj) hv) (g := mkF m pc Ls (.int j :: .ref a :: st)) rfl rfl (S.hd hd) _ q
theorem Go.arraylength (S : St p l e R s m args below meth c Z own bytes nl ret nm h0 ws T h locs cells slots) {a : Addr} {kA : ClassId} {ty : FieldType} {n : Int32} {vs : List Value} {dv : Value} (V : Arv Z h a kA ty n vs dv) (hd : decode bytes pc = .ok (.arraylength, 1)) (hp : pc + 1 = pc') (k : Go p e below P T (mkF m pc' Ls (.int n :: st))) : Go p e below P T (mkF m pc Ls (.ref a :: st)) := by
  subst hp
  obtain ⟨cl, A, q1, q2, q3, H, F⟩ := V
  exact k.of fun t q => S.X.arraylength S.ex (by rw [S.eT]; exact A.1) (State.isArrayOf_alike S.hZ.alike A.2.1) (g := mkF m pc Ls (.ref a :: st)) rfl rfl (S.hd hd) _ (by rw [len_of q2 q3]; exact q)
theorem Go.initObject (S : St p l e R s m args below meth c Z own bytes nl ret nm h0 ws T h locs cells slots) {idx : Nat} {a : Addr} {W : Nat} (w1 : (Jvm.Cond.methodLink own idx Lib.objectInit).before a0 Z = true) (w2 : (Jvm.Cond.instanceMethod Lib.objectInit).before a0 Z = true) (w3 : (Jvm.Cond.code Lib.objectInit ⟨#[0xb1]⟩ 1 none).before a0 Z = true) (hd : decode bytes pc = .ok (.invokespecial idx, 3)) (hsz : Ls.size = nl) (hf : 1 ≤ R.frames) (hW : (st.map fun v => v.category).sum = W) (hl : W + 12 ≤ R.locals) (hp : pc + 3 = pc')
    (k : ∀ T', St p l e R s m args below meth c Z own bytes nl ret nm h0 ws T' h locs cells slots → Go p e below P T' (mkF m pc' Ls st)) : Go p e below P T (mkF m pc Ls (.ref a :: st)) := by
  subst hp
  obtain ⟨T', X', e', f⟩ := initO S.X S.ex S.hZ S.hown w1 w2 w3 S.eT (g := mkF m pc Ls (.ref a :: st)) rfl (hsz.trans S.hnl.symm) rfl (S.hd hd) hf (W := W) (by show 2 * 0 + _ ≤ _; rw [hW]; omega) hl
  exact (k T' (S.next X' e' S.fr S.keep S.ext)).of f
theorem Go.checkcast (S : St p l e R s m args below meth c Z own bytes nl ret nm h0 ws T h locs cells slots) {C : String} {index : Nat} {a : Addr} (w : (Jvm.Cond.classLink own index C).before a0 Z = true) (F : Ins Z h a C true) (hd : decode bytes pc = .ok (.checkcast index, 3)) (hp : pc + 3 = pc')
    (k : ∀ T', St p l e R s m args below meth c Z own bytes nl ret nm h0 ws T' h locs cells slots → Go p e below P T' (mkF m pc' Ls (.ref a :: st))) : Go p e below P T (mkF m pc Ls (.ref a :: st)) := by
  subst hp
  obtain ⟨T', X', e', f⟩ := castY S.X S.ex S.hZ S.hown w S.eT F (g := mkF m pc Ls (.ref a :: st)) rfl rfl (S.hd hd)
  exact (k T' (S.next X' e' S.fr S.keep S.ext)).of f
theorem Go.instanceofY (S : St p l e R s m args below meth c Z own bytes nl ret nm h0 ws T h locs cells slots) {C : String} {index : Nat} {a : Addr} (w : (Jvm.Cond.classLink own index C).before a0 Z = true) (F : Ins Z h a C true) (hd : decode bytes pc = .ok (.instanceof index, 3)) (hp : pc + 3 = pc')
    (k : ∀ T', St p l e R s m args below meth c Z own bytes nl ret nm h0 ws T' h locs cells slots → Go p e below P T' (mkF m pc' Ls (.int 1 :: st))) : Go p e below P T (mkF m pc Ls (.ref a :: st)) := by
  subst hp
  obtain ⟨T', X', e', f⟩ := instY S.X S.ex S.hZ S.hown w S.eT F (g := mkF m pc Ls (.ref a :: st)) rfl rfl (S.hd hd)
  exact (k T' (S.next X' e' S.fr S.keep S.ext)).of f
theorem Go.invokestatic (S : St p l e R s m args below meth c Z own bytes nl ret nm h0 ws T h locs cells slots) {y : MethodName} {bytes' : ByteArray} {nl' : Nat} {ret' : Option FieldType} {rm : Room} {as' : Array Value} {ws' : List Addr} {Q' : Option Value → Heap → Prop} {index W : Nat} {ps : List FieldType} {r : Option FieldType} {argsL : List Value} (M : OMeets l Z y bytes' nl' ret' rm as' h ws' Q') (w1 : (Jvm.Cond.methodLink own index y).before a0 Z = true) (w2 : (Jvm.Cond.static y).before a0 Z = true) (w3 : (Jvm.Cond.initialized y.cls).before a0 Z = true) (w4 : (Jvm.Cond.code y bytes' nl' ret').before a0 Z = true) (hy : y.cls ≠ "java/lang/invoke/MethodHandle" ∧ y.cls ≠ "java/lang/invoke/VarHandle") (hd : decode bytes pc = .ok (.invokestatic index, 3)) (hsz : Ls.size = nl) (hlen : parseMethodDescriptor y.desc = some ⟨ps, r⟩) (hn : argsL.length = ps.length) (has : argsL.toArray = as') {stk : List Value} (hstk : stk = argsL.reverse ++ st) (hf : rm.frames + 1 ≤ R.frames) (hW : (st.map fun v => v.category).sum = W) (hl : W + (nl' + 11) + rm.locals ≤ R.locals) (hc : cells + rm.cells ≤ R.cells) (hs : slots + rm.slots ≤ R.slots) (hws : ∀ x ∈ ws', x ∈ ws ∨ h0.size ≤ x) (hp : pc + 3 = pc')
    (k : ∀ v T' h' locs', St p l e R s m args below meth c Z own bytes nl ret nm h0 ws T' h' locs' (cells + rm.cells) (slots + rm.slots) → Keep h h' ws' → Q' v h' → Go p e below P T' (mkF m pc' Ls (v.toList ++ st))) : Go p e below P T (mkF m pc Ls stk) := by
  subst hp hstk
  obtain ⟨v, _, ⟨T', L', k', n'⟩, -, X', ⟨L, hQ, l1, l2, l3⟩, f⟩ := Jvm.LawKit.callS S.X S.ex S.hown (mvT S.hZ w1) (mvT S.hZ w2) (mvT S.hZ w3) (mvT S.hZ w4) hy (backOf (Q := fun v U L => Fr Z.heap.size L ∧ Keep h U ws' ∧ Ext Z.heap U ∧ Q' v U) (W := W) (M []) S.hZ w4 w3 hf hl) (g := mkF m pc Ls (argsL.reverse ++ st)) rfl (hsz.trans S.hnl.symm) (argsL := argsL) (rest := st) (lenOf hlen hn) rfl (by show 2 * 0 + _ ≤ _; rw [hW]; omega) (S.hd hd) (fun _ _ => ⟨has, S.eT, hc, hs⟩)
  dsimp only [Pt.U, Pt.locs, Pt.cells, Pt.slots] at X' l1 l2 l3 hQ f
  subst l1 l2 l3
  obtain ⟨N, K', E', q⟩ := hQ
  exact (k v T' T'.heap _ (S.next X' rfl (S.fr.app N) (S.keep.trans K' hws) E') K' q).of f
theorem Go.invokespecial (S : St p l e R s m args below meth c Z own bytes nl ret nm h0 ws T h locs cells slots) {y : MethodName} {bytes' : ByteArray} {nl' : Nat} {ret' : Option FieldType} {rm : Room} {as' : Array Value} {ws' : List Addr} {Q' : Option Value → Heap → Prop} {index W : Nat} {ps : List FieldType} {r : Option FieldType} {argsL : List Value} {a : Addr} (M : OMeets l Z y bytes' nl' ret' rm as' h ws' Q') (hi : y.name = "<init>") (hr0 : ret' = none) (w1 : (Jvm.Cond.methodLink own index y).before a0 Z = true) (w2 : (Jvm.Cond.instanceMethod y).before a0 Z = true) (w3 : (Jvm.Cond.initialized y.cls).before a0 Z = true) (w4 : (Jvm.Cond.code y bytes' nl' ret').before a0 Z = true) (hy : y.cls ≠ "java/lang/invoke/MethodHandle" ∧ y.cls ≠ "java/lang/invoke/VarHandle") (hd : decode bytes pc = .ok (.invokespecial index, 3)) (hsz : Ls.size = nl) (hlen : parseMethodDescriptor y.desc = some ⟨ps, r⟩) (hn : argsL.length = ps.length) (has : (.ref a :: argsL).toArray = as') {stk : List Value} (hstk : stk = argsL.reverse ++ .ref a :: st) (hf : rm.frames + 1 ≤ R.frames) (hW : (st.map fun v => v.category).sum = W) (hl : W + (nl' + 11) + rm.locals ≤ R.locals) (hc : cells + rm.cells ≤ R.cells) (hs : slots + rm.slots ≤ R.slots) (hws : ∀ x ∈ ws', x ∈ ws ∨ h0.size ≤ x) (hp : pc + 3 = pc')
    (k : ∀ v T' h' locs', St p l e R s m args below meth c Z own bytes nl ret nm h0 ws T' h' locs' (cells + rm.cells) (slots + rm.slots) → Keep h h' ws' → Q' v h' → Go p e below P T' (mkF m pc' Ls (v.toList ++ st))) : Go p e below P T (mkF m pc Ls stk) := by
  subst hp hstk hr0
  obtain ⟨v, _, ⟨T', L', k', n'⟩, -, X', ⟨L, hQ, l1, l2, l3⟩, f⟩ := S.X.specialBack S.ex hi S.hown (mvT S.hZ w1) (mvT S.hZ w2) (mvT S.hZ w4) hy (backOf (Q := fun v U L => Fr Z.heap.size L ∧ Keep h U ws' ∧ Ext Z.heap U ∧ Q' v U) (W := W) (M []) S.hZ w4 w3 hf hl) (g := mkF m pc Ls (argsL.reverse ++ .ref a :: st)) rfl (hsz.trans S.hnl.symm) (Steps.refl _) (a := a) (argsL := argsL) (rest := st) (lenOf hlen hn) rfl (by show 2 * 0 + _ ≤ _; rw [hW]; omega) (S.hd hd) (fun _ _ => ⟨has, S.eT, hc, hs⟩)
  dsimp only [Pt.U, Pt.locs, Pt.cells, Pt.slots] at X' l1 l2 l3 hQ f
  subst l1 l2 l3
  obtain ⟨N, K', E', q⟩ := hQ
  exact (k v T' T'.heap _ (S.next X' rfl (S.fr.app N) (S.keep.trans K' hws) E') K' q).of fun t q => f.trans q
theorem Go.invokevirtual (S : St p l e R s m args below meth c Z own bytes nl ret nm h0 ws T h locs cells slots) {y : MethodName} {bytes' : ByteArray} {nl' : Nat} {ret' : Option FieldType} {rm : Room} {as' : Array Value} {ws' : List Addr} {Q' : Option Value → Heap → Prop} {index W : Nat} {ps : List FieldType} {r : Option FieldType} {argsL : List Value} {a : Addr} {x : MethodName} {C : String} (M : OMeets l Z y bytes' nl' ret' rm as' h ws' Q') (w1 : (Jvm.Cond.methodLink own index x).before a0 Z = true) (w2 : (Jvm.Cond.declares x).before a0 Z = true) (hnf : NotFace s x) (w5 : (Jvm.Cond.selects C x y).before a0 Z = true) (w6 : (Jvm.Cond.instanceMethod y).before a0 Z = true) (w3 : (Jvm.Cond.initialized y.cls).before a0 Z = true) (w4 : (Jvm.Cond.code y bytes' nl' ret').before a0 Z = true) (hy : x.cls ≠ "java/lang/invoke/MethodHandle" ∧ x.cls ≠ "java/lang/invoke/VarHandle") (E : Exa Z h a C) (hd : decode bytes pc = .ok (.invokevirtual index, 3)) (hsz : Ls.size = nl) (hlen : parseMethodDescriptor x.desc = some ⟨ps, r⟩) (hn : argsL.length = ps.length) (has : (.ref a :: argsL).toArray = as') {stk : List Value} (hstk : stk = argsL.reverse ++ .ref a :: st) (hf : rm.frames + 1 ≤ R.frames) (hW : (st.map fun v => v.category).sum = W) (hl : W + (nl' + 11) + rm.locals ≤ R.locals) (hc : cells + rm.cells ≤ R.cells) (hs : slots + rm.slots ≤ R.slots) (hws : ∀ x ∈ ws', x ∈ ws ∨ h0.size ≤ x) (hp : pc + 3 = pc')
    (k : ∀ v T' h' locs', St p l e R s m args below meth c Z own bytes nl ret nm h0 ws T' h' locs' (cells + rm.cells) (slots + rm.slots) → Keep h h' ws' → Q' v h' → Go p e below P T' (mkF m pc' Ls (v.toList ++ st))) : Go p e below P T (mkF m pc Ls stk) := by
  subst hp hstk
  obtain ⟨cq, kq, q1, q2, q3⟩ := isOf S.hZ S.eT E
  obtain ⟨v, _, ⟨T', L', k', n'⟩, -, X', ⟨L, hQ, l1, l2, l3⟩, f⟩ := S.X.virtualBack S.ex S.hown (mvT S.hZ w1) (mvT S.hZ w2) hnf (mvT S.hZ w5) (mvT S.hZ w6) hy (backOf (Q := fun v U L => Fr Z.heap.size L ∧ Keep h U ws' ∧ Ext Z.heap U ∧ Q' v U) (W := W) (M []) S.hZ w4 w3 hf hl) q1 q3 (g := mkF m pc Ls (argsL.reverse ++ .ref a :: st)) rfl (hsz.trans S.hnl.symm) (Steps.refl _) (argsL := argsL) (rest := st) (lenOf hlen hn) rfl (by show 2 * 0 + _ ≤ _; rw [hW]; omega) (S.hd hd) (fun _ _ => ⟨has, S.eT, hc, hs⟩)
  dsimp only [Pt.U, Pt.locs, Pt.cells, Pt.slots] at X' l1 l2 l3 hQ f
  subst l1 l2 l3
  obtain ⟨N, K', E', q⟩ := hQ
  exact (k v T' T'.heap _ (S.next X' rfl (S.fr.app N) (S.keep.trans K' hws) E') K' q).of fun t q => f.trans q
theorem St.nf (S : St p l e R s m args below meth c Z own bytes nl ret nm h0 ws T h locs cells slots) {C : String} {x : MethodName} (w : (Jvm.Cond.selects C x x).before a0 Z = true) : NotFace s x := notFace_of_selects (args := #[]) (mvT S.hZ w)
theorem Go.invokevirtualUp (S : St p l e R s m args below meth c Z own bytes nl ret nm h0 ws T h locs cells slots) {y : MethodName} {bytes' : ByteArray} {nl' : Nat} {ret' : Option FieldType} {rm : Room} {as' : Array Value} {ws' : List Addr} {Q' : Option Value → Heap → Prop} {index W : Nat} {ps : List FieldType} {r : Option FieldType} {argsL : List Value} {a : Addr} {x : MethodName} {C owner : String} (M : OMeets l Z y bytes' nl' ret' rm as' h ws' Q') (w1 : (Jvm.Cond.methodLink own index x).before a0 Z = true) (w2 : (Jvm.Cond.declares ⟨owner, x.name, x.desc⟩).before a0 Z = true) (w7 : (Jvm.Cond.sameMethod x.cls owner x.name x.desc).before a0 Z = true) (w5 : (Jvm.Cond.selects C x y).before a0 Z = true) (w6 : (Jvm.Cond.instanceMethod y).before a0 Z = true) (w3 : (Jvm.Cond.initialized y.cls).before a0 Z = true) (w4 : (Jvm.Cond.code y bytes' nl' ret').before a0 Z = true) (hy : owner ≠ "java/lang/invoke/MethodHandle" ∧ owner ≠ "java/lang/invoke/VarHandle") (E : Exa Z h a C) (hd : decode bytes pc = .ok (.invokevirtual index, 3)) (hsz : Ls.size = nl) (hlen : parseMethodDescriptor x.desc = some ⟨ps, r⟩) (hn : argsL.length = ps.length) (has : (.ref a :: argsL).toArray = as') {stk : List Value} (hstk : stk = argsL.reverse ++ .ref a :: st) (hf : rm.frames + 1 ≤ R.frames) (hW : (st.map fun v => v.category).sum = W) (hl : W + (nl' + 11) + rm.locals ≤ R.locals) (hc : cells + rm.cells ≤ R.cells) (hs : slots + rm.slots ≤ R.slots) (hws : ∀ x ∈ ws', x ∈ ws ∨ h0.size ≤ x) (hp : pc + 3 = pc')
    (k : ∀ v T' h' locs', St p l e R s m args below meth c Z own bytes nl ret nm h0 ws T' h' locs' (cells + rm.cells) (slots + rm.slots) → Keep h h' ws' → Q' v h' → Go p e below P T' (mkF m pc' Ls (v.toList ++ st))) : Go p e below P T (mkF m pc Ls stk) := by
  subst hp hstk
  obtain ⟨cq, kq, q1, q2, q3⟩ := isOf S.hZ S.eT E
  obtain ⟨v, _, ⟨T', L', k', n'⟩, -, X', ⟨L, hQ, l1, l2, l3⟩, f⟩ := S.X.virtualBackUp S.ex S.hown (mvT S.hZ w1) (mvT S.hZ w7) (mvT S.hZ w2) hy (mvT S.hZ w5) (mvT S.hZ w6) (backOf (Q := fun v U L => Fr Z.heap.size L ∧ Keep h U ws' ∧ Ext Z.heap U ∧ Q' v U) (W := W) (M []) S.hZ w4 w3 hf hl) q1 q3 (g := mkF m pc Ls (argsL.reverse ++ .ref a :: st)) rfl (hsz.trans S.hnl.symm) (Steps.refl _) (argsL := argsL) (rest := st) (lenOf hlen hn) rfl (by show 2 * 0 + _ ≤ _; rw [hW]; omega) (S.hd hd) (fun _ _ => ⟨has, S.eT, hc, hs⟩)
  dsimp only [Pt.U, Pt.locs, Pt.cells, Pt.slots] at X' l1 l2 l3 hQ f
  subst l1 l2 l3
  obtain ⟨N, K', E', q⟩ := hQ
  exact (k v T' T'.heap _ (S.next X' rfl (S.fr.app N) (S.keep.trans K' hws) E') K' q).of fun t q => f.trans q
theorem Go.tableswitch (S : St p l e R s m args below meth c Z own bytes nl ret nm h0 ws T h locs cells slots) {dflt low high : Int} {offs : Array Int} {len : Nat} {o : Int} {i : Int32} (hd : decode bytes pc = .ok (.tableswitch dflt low high offs, len)) (hin : ¬ (i.toInt < low ∨ i.toInt > high)) (hoff : offs[(i.toInt - low).toNat]? = some o) (hp : (pc : Int) + o = (pc' : Int)) (k : Go p e below P T (mkF m pc' Ls st)) : Go p e below P T (mkF m pc Ls (.int i :: st)) :=
  k.of fun t q => XS.tswIn S.X.here S.ex rfl (pc0 := pc) rfl (S.hd hd) rfl hin hoff (off0 hp) (off1 hp) q
theorem Go.instanceofN (S : St p l e R s m args below meth c Z own bytes nl ret nm h0 ws T h locs cells slots) {C K : String} {index : Nat} {a : Addr} (w : (Jvm.Cond.classLink own index K).before a0 Z = true) (E : Exa Z h a C) (F : ∃ c t, Z.vm.findClass C = some c ∧ Z.vm.findClass K = some t ∧ Z.vm.assignable c t = false) (hd : decode bytes pc = .ok (.instanceof index, 3)) (hp : pc + 3 = pc')
    (k : ∀ T', St p l e R s m args below meth c Z own bytes nl ret nm h0 ws T' h locs cells slots → Go p e below P T' (mkF m pc' Ls (.int 0 :: st))) : Go p e below P T (mkF m pc Ls (.ref a :: st)) := by
  subst hp
  obtain ⟨T', X', e', f⟩ := instNo S.X S.ex S.hZ S.hown w S.eT E F (g := mkF m pc Ls (.ref a :: st)) rfl rfl (S.hd hd)
  exact (k T' (S.next X' e' S.fr S.keep S.ext)).of f
theorem Go.instanceofNull (S : St p l e R s m args below meth c Z own bytes nl ret nm h0 ws T h locs cells slots) {index : Nat} (hd : decode bytes pc = .ok (.instanceof index, 3)) (hp : pc + 3 = pc') (k : Go p e below P T (mkF m pc' Ls (.int 0 :: st))) : Go p e below P T (mkF m pc Ls (.null :: st)) := by
  subst hp
  exact k.of fun t q => S.X.instanceofNull S.ex (g := mkF m pc Ls (.null :: st)) rfl rfl (S.hd hd) _ q
theorem Go.checkcastNull (S : St p l e R s m args below meth c Z own bytes nl ret nm h0 ws T h locs cells slots) {index : Nat} (hd : decode bytes pc = .ok (.checkcast index, 3)) (hp : pc + 3 = pc') (k : Go p e below P T (mkF m pc' Ls (.null :: st))) : Go p e below P T (mkF m pc Ls (.null :: st)) := by
  subst hp
  exact k.of fun t q => S.X.checkcastNull S.ex (g := mkF m pc Ls (.null :: st)) rfl rfl (S.hd hd) _ q
theorem Go.aaloadA (S : St p l e R s m args below meth c Z own bytes nl ret nm h0 ws T h locs cells slots) {a : Addr} {cl : Cell} {ty : FieldType} {j : Int32} {v : Value} (A : Arr Z h a cl ty) (hty : ty.isReference = true) (hj : ¬ (j < 0 ∨ cl.slots.size ≤ j.toNatClampNeg)) (hv : cl.slots[j.toNatClampNeg]? = some v) (hd : decode bytes pc = .ok (.aaload, 1)) (hp : pc + 1 = pc') (k : Go p e below P T (mkF m pc' Ls (v :: st))) : Go p e below P T (mkF m pc Ls (.int j :: .ref a :: st)) := by
  subst hp
  exact k.of fun t q => S.X.aaload S.ex (j := j) (v := v) (by rw [S.eT]; exact A.1) (State.isArrayOf_alike S.hZ.alike A.2.1) hty A.2.2 hj hv (g := mkF m pc Ls (.int j :: .ref a :: st)) rfl rfl (S.hd hd) _ q
theorem Go.clone (S : St p l e R s m args below meth c Z own bytes nl ret nm h0 ws T h locs cells slots) {ad : String} {index : Nat} {a : Addr} {kA : ClassId} {ty : FieldType} {n : Int32} {vs : List Value} {dv : Value} {W cap : Nat} (w1 : (Jvm.Cond.methodLink own index ⟨ad, "clone", "()Ljava/lang/Object;"⟩).before a0 Z = true) (w2 : (Jvm.Cond.sameMethod ad "java/lang/Object" "clone" "()Ljava/lang/Object;").before a0 Z = true) (w3 : (Jvm.Cond.native ⟨"java/lang/Object", "clone", "()Ljava/lang/Object;"⟩).before a0 Z = true) (w4 : (Jvm.Cond.instanceMethod ⟨"java/lang/Object", "clone", "()Ljava/lang/Object;"⟩).before a0 Z = true) (w5 : (Jvm.Cond.selects ad ⟨ad, "clone", "()Ljava/lang/Object;"⟩ ⟨"java/lang/Object", "clone", "()Ljava/lang/Object;"⟩).before a0 Z = true) (w6 : (Jvm.Cond.castable ad "java/lang/Cloneable").before a0 Z = true)
    (V : Arv Z Z.heap a kA ty n vs dv) (hfit : Fit Z) (E : Exa Z Z.heap a ad) (hd : decode bytes pc = .ok (.invokevirtual index, 3)) (hsz : Ls.size = nl) (hf : 1 ≤ R.frames) (hW : (st.map fun v => v.category).sum = W) (hl : W + 14 ≤ R.locals) (hcap : n.toNatClampNeg ≤ cap) (hc : cells + 1 ≤ R.cells) (hsl : slots + cap ≤ R.slots) (hp : pc + 3 = pc')
    (k : ∀ T' h' b, St p l e R s m args below meth c Z own bytes nl ret nm h0 ws T' h' locs (cells + 1) (slots + cap) → Ext h h' → h.size = b → Arv Z h' b kA ty n vs dv → Exa Z h' b ad → Go p e below P T' (mkF m pc' Ls (.ref b :: st))) : Go p e below P T (mkF m pc Ls (.ref a :: st)) := by
  subst hp
  obtain ⟨cl, A, q1, q2, q3, H, F⟩ := V
  obtain ⟨T', h', X', e', E', A', EA, f⟩ := cloneA S.X S.ex S.hZ S.hown w1 w2 w3 w4 w5 w6 S.eT (A.ext S.ext) (E.ext S.ext) (FitC.start hfit A) (g := mkF m pc Ls (.ref a :: st)) rfl (hsz.trans S.hnl.symm) rfl (S.hd hd) hf (W := W) (by show 2 * 0 + _ ≤ _; rw [hW]; omega) hl (cap := cap) (by rw [q2]; exact hcap) hc hsl
  exact (k T' h' h.size (S.made X' e' E') E' rfl ⟨_, A', q1, q2, q3, H, F⟩ EA).of f
theorem Go.invokeinterface (S : St p l e R s m args below meth c Z own bytes nl ret nm h0 ws T h locs cells slots) {y : MethodName} {bytes' : ByteArray} {nl' : Nat} {ret' : Option FieldType} {rm : Room} {as' : Array Value} {ws' : List Addr} {Q' : Option Value → Heap → Prop} {index W : Nat} {ps : List FieldType} {r : Option FieldType} {argsL : List Value} {count : Nat} {a : Addr} {x : MethodName} {C : String} (M : OMeets l Z y bytes' nl' ret' rm as' h ws' Q') (w1 : (Jvm.Cond.methodLink own index x).before a0 Z = true) (w2 : (Jvm.Cond.declares x).before a0 Z = true) (w7 : (Jvm.Cond.interfaceMethod x.cls x.cls x.name x.desc).before a0 Z = true) (h7 : ((Jvm.Cond.interfaceMethod x.cls x.cls x.name x.desc).onTables && (Jvm.Cond.interfaceMethod x.cls x.cls x.name x.desc).keepsFace) = true) (w5 : (Jvm.Cond.selects C x y).before a0 Z = true) (w6 : (Jvm.Cond.instanceMethod y).before a0 Z = true) (w8 : (Jvm.Cond.publicMethod y).before a0 Z = true) (w9 : (Jvm.Cond.unhidden C x.name x.desc).before a0 Z = true) (w10 : (Jvm.Cond.castable C x.cls).before a0 Z = true) (w3 : (Jvm.Cond.initialized y.cls).before a0 Z = true) (w4 : (Jvm.Cond.code y bytes' nl' ret').before a0 Z = true) (hy : x.cls ≠ "java/lang/invoke/MethodHandle" ∧ x.cls ≠ "java/lang/invoke/VarHandle") (E : Exa Z h a C) (hd : decode bytes pc = .ok (.invokeinterface index count, 5)) (hsz : Ls.size = nl) (hlen : parseMethodDescriptor x.desc = some ⟨ps, r⟩) (hn : argsL.length = ps.length) (has : (.ref a :: argsL).toArray = as') {stk : List Value} (hstk : stk = argsL.reverse ++ .ref a :: st) (hf : rm.frames + 1 ≤ R.frames) (hW : (st.map fun v => v.category).sum = W) (hl : W + (nl' + 11) + rm.locals ≤ R.locals) (hc : cells + rm.cells ≤ R.cells) (hs : slots + rm.slots ≤ R.slots) (hws : ∀ x ∈ ws', x ∈ ws ∨ h0.size ≤ x) (hp : pc + 5 = pc')
    (k : ∀ v T' h' locs', St p l e R s m args below meth c Z own bytes nl ret nm h0 ws T' h' locs' (cells + rm.cells) (slots + rm.slots) → Keep h h' ws' → Q' v h' → Go p e below P T' (mkF m pc' Ls (v.toList ++ st))) : Go p e below P T (mkF m pc Ls stk) := by
  subst hp hstk
  obtain ⟨cq, kq, q1, q2, q3⟩ := isOf S.hZ S.eT E
  obtain ⟨v, _, ⟨T', L', k', n'⟩, -, X', ⟨L, hQ, l1, l2, l3⟩, f⟩ := S.X.interfaceBack S.ex S.hown (mvT S.hZ w1) (mvT S.hZ w2) (mvT S.hZ w7 h7) (mvT S.hZ w5) (mvT S.hZ w6) (mvT S.hZ w8) (mvT S.hZ w9) (mvT S.hZ w10) hy (backOf (Q := fun v U L => Fr Z.heap.size L ∧ Keep h U ws' ∧ Ext Z.heap U ∧ Q' v U) (W := W) (M []) S.hZ w4 w3 hf hl) q1 q2 q3 (g := mkF m pc Ls (argsL.reverse ++ .ref a :: st)) rfl (hsz.trans S.hnl.symm) (Steps.refl _) (argsL := argsL) (rest := st) (lenOf hlen hn) rfl (by show 2 * 0 + _ ≤ _; rw [hW]; omega) (S.hd hd) (fun _ _ => ⟨has, S.eT, hc, hs⟩)
  dsimp only [Pt.U, Pt.locs, Pt.cells, Pt.slots] at X' l1 l2 l3 hQ f
  subst l1 l2 l3
  obtain ⟨N, K', E', q⟩ := hQ
  exact (k v T' T'.heap _ (S.next X' rfl (S.fr.app N) (S.keep.trans K' hws) E') K' q).of fun t q => f.trans q
theorem Go.newarrayE (S : St p l e R s m args below meth c Z own bytes nl ret nm h0 ws T h locs cells slots) {aty : ArrayType} {n : Int32} {cap : Nat} {ty : FieldType} {dv : Value} {ad : String} (hty : newarray.typeOf aty = ty) (hdv : defaultValue ty = dv) (had : "[" ++ ty.toString = ad) (w : (Jvm.Cond.arrayClass ty).before a0 Z = true) (hd : decode bytes pc = .ok (.newarray aty, 2)) (hn : ¬ n < 0) (hcap : n.toNatClampNeg ≤ cap) (hb : cap * 8 ≤ 536870912) (hc : cells + 1 ≤ R.cells) (hl : slots + cap ≤ R.slots) (hp : pc + 2 = pc')
    (k : ∀ T' h' a cA, St p l e R s m args below meth c Z own bytes nl ret nm h0 ws T' h' locs (cells + 1) (slots + cap) → Ext h h' → h.size = a → Z.heap.size ≤ a → h0.size ≤ a → Arv Z h' a cA ty n (List.replicate cap dv) dv → Exa Z h' a ad → Go p e below P T' (mkF m pc' Ls (.ref a :: st))) : Go p e below P T (mkF m pc Ls (.int n :: st)) := by
  subst hp hty hdv
  obtain ⟨T', h', cA, X', e', E, A, XA, f⟩ := newPE S.X S.ex S.hZ w S.eT (g := mkF m pc Ls (.int n :: st)) rfl (S.hd hd) rfl hn hcap hb hc hl had
  exact (k T' h' h.size cA (S.made X' e' E) E rfl S.ext.1 S.keep.1 ((Arv.new A hn).pad (pad_rep [] _ cap)) XA).of f
theorem Go.anewarrayA (S : St p l e R s m args below meth c Z own bytes nl ret nm h0 ws T h locs cells slots) {C ad : String} {ty : FieldType} {index : Nat} {n : Int32} {cap : Nat} (hC : (FieldType.array ty).toString = C) (w1 : (Jvm.Cond.classLink own index C).before a0 Z = true) (w2 : (Jvm.Cond.arrayOver (.array ty)).before a0 Z = true) (had : "[" ++ C = ad) (hd : decode bytes pc = .ok (.anewarray index, 3)) (hn : ¬ n < 0) (hcap : n.toNatClampNeg ≤ cap) (hb : cap * 8 ≤ 536870912) (hc : cells + 1 ≤ R.cells) (hl : slots + cap ≤ R.slots) (hp : pc + 3 = pc')
    (k : ∀ T' h' a cA, St p l e R s m args below meth c Z own bytes nl ret nm h0 ws T' h' locs (cells + 1) (slots + cap) → Ext h h' → h.size = a → Z.heap.size ≤ a → h0.size ≤ a → Arv Z h' a cA (.array ty) n (List.replicate cap .null) .null → OvrA Z cA ty C → Go p e below P T' (mkF m pc' Ls (.ref a :: st))) : Go p e below P T (mkF m pc Ls (.int n :: st)) := by
  subst hp
  obtain ⟨T', h', cA, X', e', E, A, -, O, f⟩ := newRA S.X S.ex S.hZ S.hown hC w1 w2 S.eT (g := mkF m pc Ls (.int n :: st)) rfl (S.hd hd) rfl hn hcap hb hc hl had
  exact (k T' h' h.size cA (S.made X' e' E) E rfl S.ext.1 S.keep.1 ((Arv.new A hn).pad (pad_rep [] _ cap)) O).of f
theorem Go.invokeprivate (S : St p l e R s m args below meth c Z own bytes nl ret nm h0 ws T h locs cells slots) {y : MethodName} {bytes' : ByteArray} {nl' : Nat} {ret' : Option FieldType} {rm : Room} {as' : Array Value} {ws' : List Addr} {Q' : Option Value → Heap → Prop} {index W : Nat} {ps : List FieldType} {r : Option FieldType} {argsL : List Value} {a : Addr} {C : String} {kk : Nat} (M : OMeets l Z y bytes' nl' ret' rm as' h ws' Q') (w1 : (Jvm.Cond.methodLink own index y).before a0 Z = true) (w6 : (Jvm.Cond.instanceMethod y).before a0 Z = true) (w7 : (Jvm.Cond.privateMethod y).before a0 Z = true) (w8 : (Jvm.Cond.instantiable y.cls kk).before a0 Z = true) (w3 : (Jvm.Cond.initialized y.cls).before a0 Z = true) (w4 : (Jvm.Cond.code y bytes' nl' ret').before a0 Z = true) (hy : y.cls ≠ "java/lang/invoke/MethodHandle" ∧ y.cls ≠ "java/lang/invoke/VarHandle") (E : Exa Z h a C) (hd : decode bytes pc = .ok (.invokevirtual index, 3)) (hsz : Ls.size = nl) (hlen : parseMethodDescriptor y.desc = some ⟨ps, r⟩) (hn : argsL.length = ps.length) (has : (.ref a :: argsL).toArray = as') {stk : List Value} (hstk : stk = argsL.reverse ++ .ref a :: st) (hf : rm.frames + 1 ≤ R.frames) (hW : (st.map fun v => v.category).sum = W) (hl : W + (nl' + 11) + rm.locals ≤ R.locals) (hc : cells + rm.cells ≤ R.cells) (hs : slots + rm.slots ≤ R.slots) (hws : ∀ x ∈ ws', x ∈ ws ∨ h0.size ≤ x) (hp : pc + 3 = pc')
    (k : ∀ v T' h' locs', St p l e R s m args below meth c Z own bytes nl ret nm h0 ws T' h' locs' (cells + rm.cells) (slots + rm.slots) → Keep h h' ws' → Q' v h' → Go p e below P T' (mkF m pc' Ls (v.toList ++ st))) : Go p e below P T (mkF m pc Ls stk) := by
  subst hp hstk
  obtain ⟨cq, q1, q2⟩ := E.cell
  have hpr := Cond.privateMethod_at (mvP S.hZ w7 (args := args))
  have w8' : (Jvm.Cond.instantiable y.cls kk).before args s = true := mv S.hZ w8
  obtain ⟨ci, ki, i1, i2, -, i4, -⟩ := Cond.instantiable_spec w8'
  have hsel := selects_self_of_private i1 i2 (Bool.or_eq_false_iff.mp i4).1 hpr (mvT S.hZ w6 (args := args)) hy
  obtain ⟨v, _, ⟨T', L', k', n'⟩, -, X', ⟨L, hQ, l1, l2, l3⟩, f⟩ := S.X.privateBack S.ex S.hown (mvT S.hZ w1) (mvT S.hZ w6) hsel hpr (mvT S.hZ w4) hy (backOf (Q := fun v U L => Fr Z.heap.size L ∧ Keep h U ws' ∧ Ext Z.heap U ∧ Q' v U) (W := W) (M []) S.hZ w4 w3 hf hl) (g := mkF m pc Ls (argsL.reverse ++ .ref a :: st)) rfl (hsz.trans S.hnl.symm) (Steps.refl _) (a := a) (by rw [S.eT]; exact q1) q2 (argsL := argsL) (rest := st) (lenOf hlen hn) rfl (by show 2 * 0 + _ ≤ _; rw [hW]; omega) (S.hd hd) (fun _ _ => ⟨has, S.eT, hc, hs⟩)
  dsimp only [Pt.U, Pt.locs, Pt.cells, Pt.slots] at X' l1 l2 l3 hQ f
  subst l1 l2 l3
  obtain ⟨N, K', E', q⟩ := hQ
  exact (k v T' T'.heap _ (S.next X' rfl (S.fr.app N) (S.keep.trans K' hws) E') K' q).of fun t q => f.trans q
theorem own_face {Z : State} {a0 : Array Value} {C : String} {x : MethodName} (K : String) (hK : x.cls = K) (w : (Jvm.Cond.selects C x x).before a0 Z = true) (w' : (Jvm.Cond.instanceMethod x).before a0 Z = true) : ∃ c k, Z.vm.findClass K = some c ∧ Z.vm.classes[c]? = some k ∧ k.isInterface = false := by
  subst hK
  obtain ⟨r0, mm, hn, -⟩ := Cond.instanceMethod_spec w'
  obtain ⟨k, h1, h2⟩ := notFace_of_selects w r0 hn
  exact ⟨r0.cls, k, findClass_of_methodNamed hn, h1, h2⟩
theorem own_nfx {s : State} {y : MethodName} (F : ∃ c k, s.vm.findClass y.cls = some c ∧ s.vm.classes[c]? = some k ∧ k.isInterface = false) : NotFace s y := fun r0 hn => by
  obtain ⟨c, k, h1, h2, h3⟩ := F
  cases (findClass_of_methodNamed hn).symm.trans h1
  exact ⟨k, h2, h3⟩
theorem Exa.nex {Z : State} {h : Heap} {a b : Addr} {C D : String} (X : Exa Z h a C) (Y : Exa Z h b D) (hn : C ≠ D) : a ≠ b := fun e => by
  subst e
  obtain ⟨c1, k1, e1, e2, -⟩ := X
  obtain ⟨c2, k2, f1, f2, -⟩ := Y
  cases e1.symm.trans f1
  exact ids_ne e2 f2 hn rfl
theorem Arv.nez {Z : State} {h : Heap} {a b : Addr} {k k' : ClassId} {ty ty' : FieldType} {z z' : Int32} {vs vs' : List Value} {dv dv' : Value} (V : Arv Z h a k ty z vs dv) (U : Arv Z h b k' ty' z' vs' dv') (hn : z.toNatClampNeg ≠ z'.toNatClampNeg) : a ≠ b := fun e => by
  subst e
  obtain ⟨c1, X1, -, s1, -⟩ := V
  obtain ⟨c2, X2, -, s2, -⟩ := U
  cases X1.1.symm.trans X2.1
  exact hn (s1.symm.trans s2)
theorem own_sameM {Z : State} {a0 : Array Value} {y : MethodName} (F : ∃ c k, Z.vm.findClass y.cls = some c ∧ Z.vm.classes[c]? = some k ∧ k.isInterface = false) (w : (Jvm.Cond.instanceMethod y).before a0 Z = true) (hy : y.cls ≠ "java/lang/invoke/MethodHandle" ∧ y.cls ≠ "java/lang/invoke/VarHandle") : (Jvm.Cond.sameMethod y.cls y.cls y.name y.desc).before a0 Z = true := by
  obtain ⟨c, k, h1, h2, h3⟩ := F
  obtain ⟨r0, mm, hn, -⟩ := Cond.instanceMethod_spec w
  have hf : Z.methodFound? y.cls y.name y.desc = some r0 := State.methodFound?_of_named hn hy
  have hn' : Z.methodNamed? ⟨y.cls, y.name, y.desc⟩ = some r0 := hn
  simp [Cond.before, Cond.holds, Cond.value, h1, hf, hn', h2, h3]
theorem Go.invokesuper (S : St p l e R s m args below meth c Z own bytes nl ret nm h0 ws T h locs cells slots) {y : MethodName} {bytes' : ByteArray} {nl' : Nat} {ret' : Option FieldType} {rm : Room} {as' : Array Value} {ws' : List Addr} {Q' : Option Value → Heap → Prop} {index W : Nat} {ps : List FieldType} {r : Option FieldType} {argsL : List Value} {a : Addr} {C : String} (M : OMeets l Z y bytes' nl' ret' rm as' h ws' Q') (w1 : (Jvm.Cond.methodLink own index y).before a0 Z = true) (F : ∃ c k, Z.vm.findClass y.cls = some c ∧ Z.vm.classes[c]? = some k ∧ k.isInterface = false) (w6 : (Jvm.Cond.instanceMethod y).before a0 Z = true) (w7 : (Jvm.Cond.superclass own y.cls).before a0 Z = true) (hni : y.name ≠ "<init>") (w3 : (Jvm.Cond.initialized y.cls).before a0 Z = true) (w4 : (Jvm.Cond.code y bytes' nl' ret').before a0 Z = true) (hy : y.cls ≠ "java/lang/invoke/MethodHandle" ∧ y.cls ≠ "java/lang/invoke/VarHandle") (E : Exa Z h a C) (hd : decode bytes pc = .ok (.invokespecial index, 3)) (hsz : Ls.size = nl) (hlen : parseMethodDescriptor y.desc = some ⟨ps, r⟩) (hn : argsL.length = ps.length) (has : (.ref a :: argsL).toArray = as') {stk : List Value} (hstk : stk = argsL.reverse ++ .ref a :: st) (hf : rm.frames + 1 ≤ R.frames) (hW : (st.map fun v => v.category).sum = W) (hl : W + (nl' + 11) + rm.locals ≤ R.locals) (hc : cells + rm.cells ≤ R.cells) (hs : slots + rm.slots ≤ R.slots) (hws : ∀ x ∈ ws', x ∈ ws ∨ h0.size ≤ x) (hp : pc + 3 = pc')
    (k : ∀ v T' h' locs', St p l e R s m args below meth c Z own bytes nl ret nm h0 ws T' h' locs' (cells + rm.cells) (slots + rm.slots) → Keep h h' ws' → Q' v h' → Go p e below P T' (mkF m pc' Ls (v.toList ++ st))) : Go p e below P T (mkF m pc Ls stk) := by
  subst hp hstk
  obtain ⟨v, _, ⟨T', L', k', n'⟩, -, X', ⟨L, hQ, l1, l2, l3⟩, f⟩ := superBack S.X S.ex S.hZ S.hown w1 (own_sameM F w6 hy) w6 w7 hni (backOf (Q := fun v U L => Fr Z.heap.size L ∧ Keep h U ws' ∧ Ext Z.heap U ∧ Q' v U) (W := W) (M []) S.hZ w4 w3 hf hl) S.eT (Ins.self E) (g := mkF m pc Ls (argsL.reverse ++ .ref a :: st)) rfl (hsz.trans S.hnl.symm) w4 (argsL := argsL) (rest := st) (lenOf hlen hn) rfl (by show 2 * 0 + _ ≤ _; rw [hW]; omega) (S.hd hd) (fun _ _ => ⟨has, S.eT, hc, hs⟩)
  dsimp only [Pt.U, Pt.locs, Pt.cells, Pt.slots] at X' l1 l2 l3 hQ f
  subst l1 l2 l3
  obtain ⟨N, K', E', q⟩ := hQ
  exact (k v T' T'.heap _ (S.next X' rfl (S.fr.app N) (S.keep.trans K' hws) E') K' q).of fun t q => f.trans q
theorem Go.invokeprivateF (S : St p l e R s m args below meth c Z own bytes nl ret nm h0 ws T h locs cells slots) {y : MethodName} {bytes' : ByteArray} {nl' : Nat} {ret' : Option FieldType} {rm : Room} {as' : Array Value} {ws' : List Addr} {Q' : Option Value → Heap → Prop} {index W : Nat} {ps : List FieldType} {r : Option FieldType} {argsL : List Value} {a : Addr} {C : String} (M : OMeets l Z y bytes' nl' ret' rm as' h ws' Q') (w1 : (Jvm.Cond.methodLink own index y).before a0 Z = true) (w6 : (Jvm.Cond.instanceMethod y).before a0 Z = true) (w7 : (Jvm.Cond.privateMethod y).before a0 Z = true) (F : ∃ c k, s.vm.findClass y.cls = some c ∧ s.vm.classes[c]? = some k ∧ k.isInterface = false) (w3 : (Jvm.Cond.initialized y.cls).before a0 Z = true) (w4 : (Jvm.Cond.code y bytes' nl' ret').before a0 Z = true) (hy : y.cls ≠ "java/lang/invoke/MethodHandle" ∧ y.cls ≠ "java/lang/invoke/VarHandle") (E : Exa Z h a C) (hd : decode bytes pc = .ok (.invokevirtual index, 3)) (hsz : Ls.size = nl) (hlen : parseMethodDescriptor y.desc = some ⟨ps, r⟩) (hn : argsL.length = ps.length) (has : (.ref a :: argsL).toArray = as') {stk : List Value} (hstk : stk = argsL.reverse ++ .ref a :: st) (hf : rm.frames + 1 ≤ R.frames) (hW : (st.map fun v => v.category).sum = W) (hl : W + (nl' + 11) + rm.locals ≤ R.locals) (hc : cells + rm.cells ≤ R.cells) (hs : slots + rm.slots ≤ R.slots) (hws : ∀ x ∈ ws', x ∈ ws ∨ h0.size ≤ x) (hp : pc + 3 = pc')
    (k : ∀ v T' h' locs', St p l e R s m args below meth c Z own bytes nl ret nm h0 ws T' h' locs' (cells + rm.cells) (slots + rm.slots) → Keep h h' ws' → Q' v h' → Go p e below P T' (mkF m pc' Ls (v.toList ++ st))) : Go p e below P T (mkF m pc Ls stk) := by
  subst hp hstk
  obtain ⟨cq, q1, q2⟩ := E.cell
  have hpr := Cond.privateMethod_at (mvP S.hZ w7 (args := args))
  obtain ⟨ci, ki, i1, i2, i4⟩ := F
  have hsel := selects_self_of_private i1 i2 i4 hpr (mvT S.hZ w6 (args := args)) hy
  obtain ⟨v, _, ⟨T', L', k', n'⟩, -, X', ⟨L, hQ, l1, l2, l3⟩, f⟩ := S.X.privateBack S.ex S.hown (mvT S.hZ w1) (mvT S.hZ w6) hsel hpr (mvT S.hZ w4) hy (backOf (Q := fun v U L => Fr Z.heap.size L ∧ Keep h U ws' ∧ Ext Z.heap U ∧ Q' v U) (W := W) (M []) S.hZ w4 w3 hf hl) (g := mkF m pc Ls (argsL.reverse ++ .ref a :: st)) rfl (hsz.trans S.hnl.symm) (Steps.refl _) (a := a) (by rw [S.eT]; exact q1) q2 (argsL := argsL) (rest := st) (lenOf hlen hn) rfl (by show 2 * 0 + _ ≤ _; rw [hW]; omega) (S.hd hd) (fun _ _ => ⟨has, S.eT, hc, hs⟩)
  dsimp only [Pt.U, Pt.locs, Pt.cells, Pt.slots] at X' l1 l2 l3 hQ f
  subst l1 l2 l3
  obtain ⟨N, K', E', q⟩ := hQ
  exact (k v T' T'.heap _ (S.next X' rfl (S.fr.app N) (S.keep.trans K' hws) E') K' q).of fun t q => f.trans q
theorem St.face (S : St p l e R s m args below meth c Z own bytes nl ret nm h0 ws T h locs cells slots) {C : String} {x : MethodName} (K : String) (hK : x.cls = K) (w : (Jvm.Cond.selects C x x).before a0 Z = true) (w' : (Jvm.Cond.instanceMethod x).before a0 Z = true) : ∃ c k, s.vm.findClass K = some c ∧ s.vm.classes[c]? = some k ∧ k.isInterface = false :=
  own_face (a0 := args) K hK (mvT S.hZ w) (mvT S.hZ w')
/-- System.arraycopy of bytes -/
theorem Go.arraycopyB (S : St p l e R s m args below meth c Z own bytes nl ret nm h0 ws T h locs cells slots) {index W : Nat} {a b : Addr} {k1 k2 : ClassId} {z z' sp dp nn : Int32} {vs vd us ue : List Value} {dv dd : Value} (w1 : (Jvm.Cond.methodLink own index Jvm.Stand.acN).before a0 Z = true) (w2 : (Jvm.Cond.native Jvm.Stand.acN).before a0 Z = true) (w3 : (Jvm.Cond.static Jvm.Stand.acN).before a0 Z = true) (w4 : (Jvm.Cond.initialized "java/lang/System").before a0 Z = true) (A : Arv Z h a k1 .byte z vs dv) (B : Arv Z h b k2 .byte z' vd dd)
    (h1 : ¬ sp < 0) (h2 : ¬ dp < 0) (h3 : ¬ nn < 0) (h4 : sp.toNatClampNeg + nn.toNatClampNeg ≤ z.toNatClampNeg) (h5 : dp.toNatClampNeg + nn.toNatClampNeg ≤ z'.toNatClampNeg) (hus : us = (List.range nn.toNatClampNeg).map fun i => vs.getD (sp.toNatClampNeg + i) dv) (hl : dp.toNatClampNeg + nn.toNatClampNeg ≤ vd.length) (hue : vd.take dp.toNatClampNeg ++ us ++ vd.drop (dp.toNatClampNeg + nn.toNatClampNeg) = ue) (hz : Z.heap.size ≤ b) (hws : b ∈ ws ∨ h0.size ≤ b)
    (hd : decode bytes pc = .ok (.invokestatic index, 3)) (hsz : Ls.size = nl) (hf : 1 ≤ R.frames) (hW : (st.map fun v => v.category).sum = W) (hlo : W + (nativeFrameWords "java/lang/System" "arraycopy" 5 + 11) ≤ R.locals) (hp : pc + 3 = pc')
    (k : ∀ T' h' locs', St p l e R s m args below meth c Z own bytes nl ret nm h0 ws T' h' locs' cells slots → Keep h h' [b] → Arv Z h' b k2 .byte z' ue dd → Go p e below P T' (mkF m pc' Ls st)) : Go p e below P T (mkF m pc Ls (.int nn :: .int dp :: .ref b :: .int sp :: .ref a :: st)) := by
  subst hp hue
  obtain ⟨T', h', L, X', e', N', K', V', f⟩ := cpA S.X S.ex S.hZ S.hown w1 w2 w3 w4 S.eT A B (Or.inl ⟨rfl, rfl⟩) h1 h2 h3 h4 h5 hus hl S.fr hz (g := mkF m pc Ls (.int nn :: .int dp :: .ref b :: .int sp :: .ref a :: st)) rfl (hsz.trans S.hnl.symm) rfl (S.hd hd) hf (W := W) (by show 2 * 0 + _ ≤ _; rw [hW]; omega) hlo
  have E' : Ext Z.heap h' := ⟨Nat.le_trans S.ext.1 K'.1, fun x c q => K'.2.1 x c (S.ext.2 x c q) (fun z => by
    have e1 := List.mem_singleton.mp z
    have e2 := (Array.getElem?_eq_some_iff.mp q).1
    rw [e1] at e2
    exact Nat.lt_irrefl _ (Nat.lt_of_lt_of_le e2 hz))⟩
  exact (k T' h' L ⟨S.1, X', e', N', S.keep.trans K' (fun x hx => by rw [List.mem_singleton.mp hx]; exact hws), E'⟩ K' V').of f
theorem OMeets.body {y : MethodName} {Q : Option Value → Heap → Prop} {as : Array Value} (hpl : plainFor y = true) (hE : Ext Z.heap h0) (Ls : Array Slot) (hef : ∀ m : MethodId, entryFrame m as nl = mkF m 0 Ls [])
    (H : ∀ p e s m below meth c T, St p l e R s m as below meth c Z y.cls bytes nl ret y.name h0 ws T h0 [] 0 0 → Go p e below (PostOf Z s h0 ws R.cells R.slots Q) T (mkF m 0 Ls [])) : OMeets l Z y bytes nl ret R as h0 ws Q := by
  intro wd
  refine MetFree.of_bodySF hpl hisR ?_
  intro p e s m args below meth c s₁ Bd hml hP _
  obtain ⟨rfl, hZ, hh⟩ := hP
  have X0 : Stand p l e R s m args below meth c s₁ [] 0 0 := Stand.of_body Bd
  have e0 : s₁.heap = h0 := by rw [← hh, Bd.state]; rfl
  have hg := H p e s m below meth c s₁ ⟨⟨Bd.exec, Bd.bytes, hml, hZ, findClass_of_methodNamed Bd.named, Bd.returns, Bd.notSynchronized, (name_of_methodNamed Bd.named Bd.method).1⟩, X0, e0, Fr.nil _, Keep.refl _ _, hE⟩
  rw [hef]
  exact hg
end Steps
end Jvm.Own
namespace Jvm.Own
open Sem ClassFile Op Lib Jvm.Stand Jvm.Free Jvm.LawKit Jvm.RoadKit
/-- PostOf, where the walk may have interned; Q may speak of the tables too -/
def PostW (Z s : State) (h0 : Heap) (ws : List Addr) (kc ks : Nat) (Q : Option Value → Heap → Vm → Prop) (o : Outcome) (U : State) : Prop :=
  ∃ v L, o = .returned v ∧ (Fr Z.heap.size L ∧ Keep h0 U.heap ws ∧ Ext Z.heap U.heap ∧ Q v U.heap U.vm) ∧ ReturnedEndW s o U L kc ks
def OMeetsW (l : Launch) (Z : State) (y : MethodName) (bytes : ByteArray) (nl : Nat) (ret : Option FieldType) (R : Room) (as : Array Value) (h0 : Heap) (ws : List Addr) (VP : Vm → Prop) (Q : Option Value → Heap → Vm → Prop) : Prop :=
  ∀ wd : List Jvm.Cond, MetFree l y (head1 (Jvm.Cond.code y bytes nl ret :: wd) R) (fun a U => a = as ∧ Z.Warmed39 U.vm ∧ U.heap = h0 ∧ VP U.vm) (fun _ _ _ _ _ => True)
    (fun _ U o U' => PostW Z U h0 ws R.cells R.slots Q o U')
/-- sb is the start s with later tables; what they book since lies below n -/
def Sn (s sb : State) (n : Nat) : Prop := sb = s.setVm sb.vm ∧ s.Since sb.vm n
theorem Sn.start (s : State) (n : Nat) : Sn s s n := ⟨rfl, (State.WarmedH.refl s).since n⟩
theorem IB.warm {Z sb : State} {vm : Vm} {Ts : List String} (I : IB Z sb.vm Ts) (h : sb.WarmedH vm) : IB Z vm Ts := by
  obtain ⟨more, e, q⟩ := I
  exact ⟨more, by rw [h.interned_eq]; exact e, q⟩
/-- entry index of own is booked as the String a, by the tables alone -/
def LitV (Z : State) (vm : Vm) (own : String) (index : Nat) (a : Addr) : Prop := Lit (Z.setVm vm) own index a
theorem LitV.of {Z sb : State} {own : String} {index : Nat} {a : Addr} (L : Lit sb own index a) : LitV Z sb.vm own index a := L
theorem LitV.lit {Z sb : State} {own : String} {index : Nat} {a : Addr} (L : LitV Z sb.vm own index a) : Lit sb own index a := L
theorem LitV.warm {Z sb : State} {vm : Vm} {own : String} {index : Nat} {a : Addr} (L : LitV Z sb.vm own index a) (h : sb.WarmedH vm) : LitV Z vm own index a :=
  Lit.stays (s := sb) (vm0 := sb.vm) (vm1 := vm) (show Lit (sb.setVm sb.vm) own index a from L) h.wide
theorem Arv.nex {Z : State} {h : Heap} {a b : Addr} {k : ClassId} {ty : FieldType} {z : Int32} {vs : List Value} {dv : Value} {C : String} {i : Nat} {a0 : Array Value} (V : Arv Z h b k ty z vs dv) (w : (Jvm.Cond.instantiable C i).before a0 Z = true) (X : Exa Z h a C) : b ≠ a := fun e => by
  subst e
  obtain ⟨c1, ⟨g1, ⟨-, kk, g3, comp, g4⟩, -⟩, -⟩ := V
  obtain ⟨c2, k2, e1, e2, e3, -⟩ := X
  cases g1.symm.trans e1
  obtain ⟨c3, k3, f1, f2, f3, -⟩ := Cond.instantiable_spec w
  cases e2.symm.trans f1
  cases g3.symm.trans f2
  rw [f3] at g4
  cases g4
theorem IB.mono {Z : State} {vm : Vm} {Ts Us : List String} (I : IB Z vm Ts) (h : ∀ t ∈ Ts, t ∈ Us) : IB Z vm Us := by
  obtain ⟨more, e, q⟩ := I
  exact ⟨more, e, fun x hx => by obtain ⟨t, ht, r⟩ := q x hx; exact ⟨t, h t ht, r⟩⟩
section Wide
variable {p : Program} {l : Launch} {e : Env} {R : Room} {s sb : State} {m : MethodId} {args : Array Value} {below : List Frame} {meth : Method} {c : Code} {Z : State} {own : String} {bytes : ByteArray} {nl : Nat} {ret : Option FieldType} {nm : String}
  {h0 : Heap} {ws : List Addr} {T : State} {h : Heap} {locs : List Loc} {cells slots : Nat} {P : Outcome → State → Prop} {pc pc' : Nat} {Ls Ls' : Array Slot} {st : List Value} {a0 : Array Value} {n : Nat}
theorem Go.leavesW (S : St p l e R sb m args below meth c Z own bytes nl ret nm h0 ws T h locs cells slots) (N : Sn s sb n) (hn : n ≤ h.size) {kc ks : Nat} {Q : Option Value → Heap → Vm → Prop} {g : JFrame} {v : Option Value} (hv : ret = none → v = none) (hc : cells ≤ kc) (hs : slots ≤ ks)
    (step : ∀ fs : List Frame, (∀ (f : JFrame) (acts : List Action), f.method = m → f.locked = none → f.entered = [] → (doReturn e (T.setTop f) acts v).1 = T.setFrames fs) → Steps p.tables e below (T.setTop g) (T.setFrames fs)) (q : Q v h T.vm) : Go p e below (PostW Z s h0 ws kc ks Q) T g := by
  obtain ⟨fs, hr, hrun, hended, hW, hsame⟩ := S.X.leave (v := v) (fun q => hv (S.hret ▸ q)) S.locks
  have hU : (T.setFrames fs).heap = h := S.eT
  have e1 := N.1
  have hW' : (s.setVm sb.vm).WarmedH (T.setFrames fs).vm := by rw [← e1]; exact hW
  have hs' : (s.setVm sb.vm).sameButNew ({ T.setFrames fs with vm := sb.vm } : State) locs cells slots := by rw [← e1]; exact hsame
  obtain ⟨z1, z2, z3⟩ := N.2.ended hW' (by rw [hU]; exact hn) hs'
  refine ⟨_, _, step fs hr, hrun, hended, v, locs, rfl, ⟨S.fr, ?_, ?_, ?_⟩, ⟨_, rfl⟩, z1, z2, z3.mono hc hs⟩
  · rw [hU]; exact S.keep
  · rw [hU]; exact S.ext
  · rw [hU]; exact q
theorem Go.areturnW (S : St p l e R sb m args below meth c Z own bytes nl ret nm h0 ws T h locs cells slots) (N : Sn s sb n) (hn : n ≤ h.size) {kc ks : Nat} {Q : Option Value → Heap → Vm → Prop} {w : Value} {t : FieldType} (hret : ret = some t) (ht : t.isReference = true) (hw : w.isRef = true) (hd : decode bytes pc = .ok (.areturn, 1)) (hc : cells ≤ kc) (hs : slots ≤ ks) (q : Q (some w) h T.vm) : Go p e below (PostW Z s h0 ws kc ks Q) T (mkF m pc Ls (w :: st)) :=
  Go.leavesW S N hn (fun q => by rw [hret] at q; cases q) hc hs (fun fs hr => retOut S.X S.ex (i := .areturn) (S.hret.trans hret) (narrow_ref ht hw) (Or.inr (Or.inr (Or.inr (Or.inr ⟨rfl, ht, hw⟩)))) (S.hd hd) hr) q
theorem Go.zreturnW (S : St p l e R sb m args below meth c Z own bytes nl ret nm h0 ws T h locs cells slots) (N : Sn s sb n) (hn : n ≤ h.size) {kc ks : Nat} {Q : Option Value → Heap → Vm → Prop} {z z' : Int32} {t : FieldType} (hret : ret = some t) (ht : t = .boolean ∨ t = .byte ∨ t = .char ∨ t = .short) (hd : decode bytes pc = .ok (.ireturn, 1)) (hz : nar t z = z') (hc : cells ≤ kc) (hs : slots ≤ ks) (q : Q (some (.int z')) h T.vm) : Go p e below (PostW Z s h0 ws kc ks Q) T (mkF m pc Ls (.int z :: st)) := by
  subst hz
  exact Go.leavesW S N hn (fun q => by rw [hret] at q; cases q) hc hs (fun fs hr => retN S.X S.ex (S.hret.trans hret) ht (S.hd hd) hr) q
theorem Go.vreturnW (S : St p l e R sb m args below meth c Z own bytes nl ret nm h0 ws T h locs cells slots) (N : Sn s sb n) (hn : n ≤ h.size) {kc ks : Nat} {Q : Option Value → Heap → Vm → Prop} (hret : ret = none) (hd : decode bytes pc = .ok (.return_, 1)) (hc : cells ≤ kc) (hs : slots ≤ ks) (q : Q none h T.vm) : Go p e below (PostW Z s h0 ws kc ks Q) T (mkF m pc Ls []) :=
  Go.leavesW S N hn (fun _ => rfl) hc hs (fun fs hr => S.X.returnOut S.ex (S.hret.trans hret) (S.hd hd) hr) q
theorem St.rebase (S : St p l e R sb m args below meth c Z own bytes nl ret nm h0 ws T h locs cells slots) {T' : State} {h' : Heap} {locs' : List Loc} {cells' slots' : Nat} (X : Stand p l e R (sb.setVm T'.vm) m args below meth c T' locs' cells' slots') (hS : sb.Warmed39 T'.vm) (e1 : T'.heap = h') (N : Fr Z.heap.size locs') (K : Keep h0 h' ws) (E : Ext Z.heap h') : St p l e R (sb.setVm T'.vm) m args below meth c Z own bytes nl ret nm h0 ws T' h' locs' cells' slots' :=
  ⟨⟨S.1.1, S.1.2.1, S.1.2.2.1, State.Warmed39.trans (t := sb) S.hZ hS, by rw [show (sb.setVm T'.vm).vm = T'.vm from rfl, hS.alike.findClass]; exact S.hown, S.1.2.2.2.2.2⟩, X, e1, N, K, E⟩
theorem Sn.next (N : Sn s sb n) {vm : Vm} {k : Nat} (hS : sb.Since vm k) (hk : n ≤ k) : Sn s (sb.setVm vm) k := by
  refine ⟨by rw [N.1]; rfl, ?_⟩
  have e1 := N.1
  have hS' : (s.setVm sb.vm).Since vm k := by rw [← e1]; exact hS
  exact N.2.trans hS' hk
/-- the payer of a call of a body that may intern -/
theorem backOfW {y : MethodName} {bytes' : ByteArray} {nl' : Nat} {ret' : Option FieldType} {rm : Room} {len W : Nat} {as' : Array Value} {ws' : List Addr} {VP : Vm → Prop} {Q' : Option Value → Heap → Vm → Prop} (M : OMeetsW l Z y bytes' nl' ret' rm as' h ws' VP Q')
    (hZ : Z.Warmed39 sb.vm) (wc : (Jvm.Cond.code y bytes' nl' ret').before a0 Z = true) (wz : (Jvm.Cond.initialized y.cls).before a0 Z = true) (hf : rm.frames + 1 ≤ R.frames) (hl : W + (nl' + 11) + rm.locals ≤ R.locals) :
    BackS l R p e below sb args y len W (fun A a => a = as' ∧ A.U.heap = h ∧ VP A.U.vm ∧ A.cells + rm.cells ≤ R.cells ∧ A.slots + rm.slots ≤ R.slots)
      (fun A _ v B => ∃ L, (Fr Z.heap.size L ∧ Keep h B.U.heap ws' ∧ Ext Z.heap B.U.heap ∧ Q' v B.U.heap B.U.vm) ∧ B.locs = A.locs ++ L ∧ B.cells = A.cells + rm.cells ∧ B.slots = A.slots + rm.slots) :=
  BackS.of_freeW (bytes := bytes') (maxL := nl') (ret := ret') (E := fun _ _ o t L k n => k = rm.cells ∧ n = rm.slots ∧ ∃ v, o = .returned v ∧ Fr Z.heap.size L ∧ Keep h t.heap ws' ∧ Ext Z.heap t.heap ∧ Q' v t.heap t.vm) (M []) hf hl
    (fun m meth c A a Y hp => have hU : Z.Warmed39 A.U.vm := wtrans hZ Y.warmed
      ⟨by show (Jvm.Cond.and _ .tt).before a A.U = true; rw [Cond.before_and, mv hU wc]; rfl, mv hU wc, mv hU wz, hp.2.2.2.1, hp.2.2.2.2⟩)
    (fun m meth c A a g mk Y hp => ⟨hp.1, wtrans hZ Y.warmed, hp.2.1, hp.2.2.1⟩) (fun _ _ _ _ _ _ _ _ _ => trivial)
    (fun _ _ _ _ ⟨v, L, h1, h2, h3⟩ => ⟨L, _, _, h3, rfl, rfl, v, h1, h2⟩)
    (fun m meth c A a g mk v t L k n Y hp _ _ ⟨e1, e2, v', e3, e4⟩ => by cases e3; subst e1 e2; exact ⟨L, e4, rfl, rfl, rfl⟩)
theorem Go.invokestaticW (S : St p l e R sb m args below meth c Z own bytes nl ret nm h0 ws T h locs cells slots) {y : MethodName} {bytes' : ByteArray} {nl' : Nat} {ret' : Option FieldType} {rm : Room} {as' : Array Value} {ws' : List Addr} {VP : Vm → Prop} {Q' : Option Value → Heap → Vm → Prop} {index W : Nat} {ps : List FieldType} {r : Option FieldType} {argsL : List Value} (M : OMeetsW l Z y bytes' nl' ret' rm as' h ws' VP Q') (N : Sn s sb n) (hnn : n ≤ h.size) (hvp : ∀ vm, sb.WarmedH vm → VP vm) (w1 : (Jvm.Cond.methodLink own index y).before a0 Z = true) (w2 : (Jvm.Cond.static y).before a0 Z = true) (w3 : (Jvm.Cond.initialized y.cls).before a0 Z = true) (w4 : (Jvm.Cond.code y bytes' nl' ret').before a0 Z = true) (hy : y.cls ≠ "java/lang/invoke/MethodHandle" ∧ y.cls ≠ "java/lang/invoke/VarHandle") (hd : decode bytes pc = .ok (.invokestatic index, 3)) (hsz : Ls.size = nl) (hlen : parseMethodDescriptor y.desc = some ⟨ps, r⟩) (hn : argsL.length = ps.length) (has : argsL.toArray = as') {stk : List Value} (hstk : stk = argsL.reverse ++ st) (hf : rm.frames + 1 ≤ R.frames) (hW : (st.map fun v => v.category).sum = W) (hl : W + (nl' + 11) + rm.locals ≤ R.locals) (hc : cells + rm.cells ≤ R.cells) (hs : slots + rm.slots ≤ R.slots) (hws : ∀ x ∈ ws', x ∈ ws ∨ h0.size ≤ x) (hp : pc + 3 = pc')
    (k : ∀ v sb' T' h' locs', St p l e R sb' m args below meth c Z own bytes nl ret nm h0 ws T' h' locs' (cells + rm.cells) (slots + rm.slots) → Sn s sb' h'.size → Keep h h' ws' → Q' v h' sb'.vm → Go p e below P T' (mkF m pc' Ls (v.toList ++ st))) : Go p e below P T (mkF m pc Ls stk) := by
  subst hp hstk
  obtain ⟨v, vm1, ⟨T', L', k', n'⟩, -, X', hS, hg, ⟨L, hQ, l1, l2, l3⟩, f⟩ := callSS S.X S.ex S.hown (mvT S.hZ w1) (mvT S.hZ w2) (mvT S.hZ w3) (mvT S.hZ w4) hy (backOfW (W := W) M S.hZ w4 w3 hf hl) (g := mkF m pc Ls (argsL.reverse ++ st)) rfl (hsz.trans S.hnl.symm) (argsL := argsL) (rest := st) (lenOf hlen hn) rfl (by show 2 * 0 + _ ≤ _; rw [hW]; omega) (S.hd hd) (fun vm hv => ⟨has, S.eT, hvp vm hv, hc, hs⟩)
  dsimp only [Pt.U, Pt.locs, Pt.cells, Pt.slots] at X' l1 l2 l3 hQ f hS hg
  subst l1 l2 l3
  obtain ⟨N', K', E', q⟩ := hQ
  exact (k v (sb.setVm T'.vm) T' T'.heap _ (S.rebase X' hS.1 rfl (S.fr.app N') (S.keep.trans K' hws) E') (N.next hS (Nat.le_trans hnn K'.1)) K' q).of fun t q => f.trans q
theorem Go.invokespecialW (S : St p l e R sb m args below meth c Z own bytes nl ret nm h0 ws T h locs cells slots) {y : MethodName} {bytes' : ByteArray} {nl' : Nat} {ret' : Option FieldType} {rm : Room} {as' : Array Value} {ws' : List Addr} {VP : Vm → Prop} {Q' : Option Value → Heap → Vm → Prop} {index W : Nat} {ps : List FieldType} {r : Option FieldType} {argsL : List Value} {a : Addr} (M : OMeetsW l Z y bytes' nl' ret' rm as' h ws' VP Q') (N : Sn s sb n) (hnn : n ≤ h.size) (hvp : ∀ vm, sb.WarmedH vm → VP vm) (hi : y.name = "<init>") (hr0 : ret' = none) (w1 : (Jvm.Cond.methodLink own index y).before a0 Z = true) (w2 : (Jvm.Cond.instanceMethod y).before a0 Z = true) (w3 : (Jvm.Cond.initialized y.cls).before a0 Z = true) (w4 : (Jvm.Cond.code y bytes' nl' ret').before a0 Z = true) (hy : y.cls ≠ "java/lang/invoke/MethodHandle" ∧ y.cls ≠ "java/lang/invoke/VarHandle") (hd : decode bytes pc = .ok (.invokespecial index, 3)) (hsz : Ls.size = nl) (hlen : parseMethodDescriptor y.desc = some ⟨ps, r⟩) (hn : argsL.length = ps.length) (has : (.ref a :: argsL).toArray = as') {stk : List Value} (hstk : stk = argsL.reverse ++ .ref a :: st) (hf : rm.frames + 1 ≤ R.frames) (hW : (st.map fun v => v.category).sum = W) (hl : W + (nl' + 11) + rm.locals ≤ R.locals) (hc : cells + rm.cells ≤ R.cells) (hs : slots + rm.slots ≤ R.slots) (hws : ∀ x ∈ ws', x ∈ ws ∨ h0.size ≤ x) (hp : pc + 3 = pc')
    (k : ∀ v sb' T' h' locs', St p l e R sb' m args below meth c Z own bytes nl ret nm h0 ws T' h' locs' (cells + rm.cells) (slots + rm.slots) → Sn s sb' h'.size → Keep h h' ws' → Q' v h' sb'.vm → Go p e below P T' (mkF m pc' Ls (v.toList ++ st))) : Go p e below P T (mkF m pc Ls stk) := by
  subst hp hstk hr0
  obtain ⟨v, vm1, ⟨T', L', k', n'⟩, -, X', hS, hg, ⟨L, hQ, l1, l2, l3⟩, f⟩ := S.X.specialBackS S.ex hi S.hown (mvT S.hZ w1) (mvT S.hZ w2) (mvT S.hZ w4) hy (backOfW (W := W) M S.hZ w4 w3 hf hl) (g := mkF m pc Ls (argsL.reverse ++ .ref a :: st)) rfl (hsz.trans S.hnl.symm) (Steps.refl _) (a := a) (argsL := argsL) (rest := st) (lenOf hlen hn) rfl (by show 2 * 0 + _ ≤ _; rw [hW]; omega) (S.hd hd) (fun vm hv => ⟨has, S.eT, hvp vm hv, hc, hs⟩)
  dsimp only [Pt.U, Pt.locs, Pt.cells, Pt.slots] at X' l1 l2 l3 hQ f hS hg
  subst l1 l2 l3
  obtain ⟨N', K', E', q⟩ := hQ
  exact (k v (sb.setVm T'.vm) T' T'.heap _ (S.rebase X' hS.1 rfl (S.fr.app N') (S.keep.trans K' hws) E') (N.next hS (Nat.le_trans hnn K'.1)) K' q).of fun t q => f.trans q
theorem Go.invokevirtualW (S : St p l e R sb m args below meth c Z own bytes nl ret nm h0 ws T h locs cells slots) {y : MethodName} {bytes' : ByteArray} {nl' : Nat} {ret' : Option FieldType} {rm : Room} {as' : Array Value} {ws' : List Addr} {VP : Vm → Prop} {Q' : Option Value → Heap → Vm → Prop} {index W : Nat} {ps : List FieldType} {r : Option FieldType} {argsL : List Value} {a : Addr} {x : MethodName} {C : String} (M : OMeetsW l Z y bytes' nl' ret' rm as' h ws' VP Q') (N : Sn s sb n) (hnn : n ≤ h.size) (hvp : ∀ vm, sb.WarmedH vm → VP vm) (w1 : (Jvm.Cond.methodLink own index x).before a0 Z = true) (w2 : (Jvm.Cond.declares x).before a0 Z = true) (hnf : NotFace sb x) (w5 : (Jvm.Cond.selects C x y).before a0 Z = true) (w6 : (Jvm.Cond.instanceMethod y).before a0 Z = true) (w3 : (Jvm.Cond.initialized y.cls).before a0 Z = true) (w4 : (Jvm.Cond.code y bytes' nl' ret').before a0 Z = true) (hy : x.cls ≠ "java/lang/invoke/MethodHandle" ∧ x.cls ≠ "java/lang/invoke/VarHandle") (E : Exa Z h a C) (hd : decode bytes pc = .ok (.invokevirtual index, 3)) (hsz : Ls.size = nl) (hlen : parseMethodDescriptor x.desc = some ⟨ps, r⟩) (hn : argsL.length = ps.length) (has : (.ref a :: argsL).toArray = as') {stk : List Value} (hstk : stk = argsL.reverse ++ .ref a :: st) (hf : rm.frames + 1 ≤ R.frames) (hW : (st.map fun v => v.category).sum = W) (hl : W + (nl' + 11) + rm.locals ≤ R.locals) (hc : cells + rm.cells ≤ R.cells) (hs : slots + rm.slots ≤ R.slots) (hws : ∀ x ∈ ws', x ∈ ws ∨ h0.size ≤ x) (hp : pc + 3 = pc')
    (k : ∀ v sb' T' h' locs', St p l e R sb' m args below meth c Z own bytes nl ret nm h0 ws T' h' locs' (cells + rm.cells) (slots + rm.slots) → Sn s sb' h'.size → Keep h h' ws' → Q' v h' sb'.vm → Go p e below P T' (mkF m pc' Ls (v.toList ++ st))) : Go p e below P T (mkF m pc Ls stk) := by
  subst hp hstk
  obtain ⟨cq, kq, q1, q2, q3⟩ := isOf S.hZ S.eT E
  obtain ⟨v, vm1, ⟨T', L', k', n'⟩, -, X', hS, hg, ⟨L, hQ, l1, l2, l3⟩, f⟩ := S.X.virtualBackS S.ex S.hown (mvT S.hZ w1) (mvT S.hZ w2) hnf (mvT S.hZ w5) (mvT S.hZ w6) hy (backOfW (W := W) M S.hZ w4 w3 hf hl) q1 q3 (g := mkF m pc Ls (argsL.reverse ++ .ref a :: st)) rfl (hsz.trans S.hnl.symm) (Steps.refl _) (argsL := argsL) (rest := st) (lenOf hlen hn) rfl (by show 2 * 0 + _ ≤ _; rw [hW]; omega) (S.hd hd) (fun vm hv => ⟨has, S.eT, hvp vm hv, hc, hs⟩)
  dsimp only [Pt.U, Pt.locs, Pt.cells, Pt.slots] at X' l1 l2 l3 hQ f hS hg
  subst l1 l2 l3
  obtain ⟨N', K', E', q⟩ := hQ
  exact (k v (sb.setVm T'.vm) T' T'.heap _ (S.rebase X' hS.1 rfl (S.fr.app N') (S.keep.trans K' hws) E') (N.next hS (Nat.le_trans hnn K'.1)) K' q).of fun t q => f.trans q
theorem Go.invokeinterfaceW (S : St p l e R sb m args below meth c Z own bytes nl ret nm h0 ws T h locs cells slots) {y : MethodName} {bytes' : ByteArray} {nl' : Nat} {ret' : Option FieldType} {rm : Room} {as' : Array Value} {ws' : List Addr} {VP : Vm → Prop} {Q' : Option Value → Heap → Vm → Prop} {index W : Nat} {ps : List FieldType} {r : Option FieldType} {argsL : List Value} {count : Nat} {a : Addr} {x : MethodName} {C : String} (M : OMeetsW l Z y bytes' nl' ret' rm as' h ws' VP Q') (N : Sn s sb n) (hnn : n ≤ h.size) (hvp : ∀ vm, sb.WarmedH vm → VP vm) (w1 : (Jvm.Cond.methodLink own index x).before a0 Z = true) (w2 : (Jvm.Cond.declares x).before a0 Z = true) (w7 : (Jvm.Cond.interfaceMethod x.cls x.cls x.name x.desc).before a0 Z = true) (h7 : ((Jvm.Cond.interfaceMethod x.cls x.cls x.name x.desc).onTables && (Jvm.Cond.interfaceMethod x.cls x.cls x.name x.desc).keepsFace) = true) (w5 : (Jvm.Cond.selects C x y).before a0 Z = true) (w6 : (Jvm.Cond.instanceMethod y).before a0 Z = true) (w8 : (Jvm.Cond.publicMethod y).before a0 Z = true) (w9 : (Jvm.Cond.unhidden C x.name x.desc).before a0 Z = true) (w10 : (Jvm.Cond.castable C x.cls).before a0 Z = true) (w3 : (Jvm.Cond.initialized y.cls).before a0 Z = true) (w4 : (Jvm.Cond.code y bytes' nl' ret').before a0 Z = true) (hy : x.cls ≠ "java/lang/invoke/MethodHandle" ∧ x.cls ≠ "java/lang/invoke/VarHandle") (E : Exa Z h a C) (hd : decode bytes pc = .ok (.invokeinterface index count, 5)) (hsz : Ls.size = nl) (hlen : parseMethodDescriptor x.desc = some ⟨ps, r⟩) (hn : argsL.length = ps.length) (has : (.ref a :: argsL).toArray = as') {stk : List Value} (hstk : stk = argsL.reverse ++ .ref a :: st) (hf : rm.frames + 1 ≤ R.frames) (hW : (st.map fun v => v.category).sum = W) (hl : W + (nl' + 11) + rm.locals ≤ R.locals) (hc : cells + rm.cells ≤ R.cells) (hs : slots + rm.slots ≤ R.slots) (hws : ∀ x ∈ ws', x ∈ ws ∨ h0.size ≤ x) (hp : pc + 5 = pc')
    (k : ∀ v sb' T' h' locs', St p l e R sb' m args below meth c Z own bytes nl ret nm h0 ws T' h' locs' (cells + rm.cells) (slots + rm.slots) → Sn s sb' h'.size → Keep h h' ws' → Q' v h' sb'.vm → Go p e below P T' (mkF m pc' Ls (v.toList ++ st))) : Go p e below P T (mkF m pc Ls stk) := by
  subst hp hstk
  obtain ⟨cq, kq, q1, q2, q3⟩ := isOf S.hZ S.eT E
  obtain ⟨v, vm1, ⟨T', L', k', n'⟩, -, X', hS, hg, ⟨L, hQ, l1, l2, l3⟩, f⟩ := S.X.interfaceBackS S.ex S.hown (mvT S.hZ w1) (mvT S.hZ w2) (mvT S.hZ w7 h7) (mvT S.hZ w5) (mvT S.hZ w6) (mvT S.hZ w8) (mvT S.hZ w9) (mvT S.hZ w10) hy (backOfW (W := W) M S.hZ w4 w3 hf hl) q1 q2 q3 (g := mkF m pc Ls (argsL.reverse ++ .ref a :: st)) rfl (hsz.trans S.hnl.symm) (Steps.refl _) (argsL := argsL) (rest := st) (lenOf hlen hn) rfl (by show 2 * 0 + _ ≤ _; rw [hW]; omega) (S.hd hd) (fun vm hv => ⟨has, S.eT, hvp vm hv, hc, hs⟩)
  dsimp only [Pt.U, Pt.locs, Pt.cells, Pt.slots] at X' l1 l2 l3 hQ f hS hg
  subst l1 l2 l3
  obtain ⟨N', K', E', q⟩ := hQ
  exact (k v (sb.setVm T'.vm) T' T'.heap _ (S.rebase X' hS.1 rfl (S.fr.app N') (S.keep.trans K' hws) E') (N.next hS (Nat.le_trans hnn K'.1)) K' q).of fun t q => f.trans q
/-- a body that keeps every old cell has, in truth, no writes to tell of -/
theorem St.bare (S : St p l e R sb m args below meth c Z own bytes nl ret nm h0 [] T h locs cells slots) (hb : sb.heap = h0) : St p l e R sb m args below meth c Z own bytes nl ret nm h0 [] T h [] cells slots := by
  refine ⟨S.1, { S.X with same := ?_ }, S.eT, Fr.nil _, S.keep, S.ext⟩
  obtain ⟨q1, q2, q3, q4, q5, -⟩ := S.X.same
  refine ⟨q1, q2, q3, q4, q5, fun a c q => ⟨c, ?_, rfl, rfl, fun _ _ => rfl⟩⟩
  show T.heap[a]? = some c
  rw [S.eT]
  exact S.keep.2.1 a c (hb ▸ q) (by simp)
/-- the first load of a text since the case's start -/
theorem Go.ldcFirst (S : St p l e R sb m args below meth c Z own bytes nl ret nm h0 ws T h locs cells slots) (N : Sn s sb n) (hnn : n ≤ h.size) {text : String} {index cap : Nat} {Ts : List String} {vs : List Value} {z : Int32} (w : (Jvm.Cond.stringLink own index text).before a0 Z = true) (wS : ∀ a ∈ Bundle.stringAtoms, a.before a0 Z = true) (Fl : Fr s.heap.size locs) (hEs : Ext Z.heap s.heap) (I : IB Z sb.vm Ts) (hnot : text ∉ Ts) (hh : Jvm.Lit.constHeld Z own index) (hcw : Jvm.Lit.compactW.before a0 Z = true)
    (ht : (∀ c ∈ text.toList, c.toNat < 256) ∧ text.toList.map (fun c => Value.int (Jvm.Lit.byteI c.toNat.toUInt16)) = vs) (hz : ¬ z < 0) (hzl : z.toNatClampNeg = vs.length) (hd : decode bytes pc = .ok (.ldc index, 2)) (hn : 4 * text.toList.length ≤ cap) (hbig : cap ≤ 536870912) (hc : cells + 2 ≤ R.cells) (hs : slots + (cap + 4) ≤ R.slots) (hp : pc + 2 = pc')
    (k : ∀ (a b : Addr) (kb : ClassId) (sb' T' : State) (h' : Heap) (n' : Nat), St p l e R sb' m args below meth c Z own bytes nl ret nm h0 ws T' h' locs (cells + 2) (slots + (cap + 4)) → Sn s sb' n' → n' ≤ h'.size → Ext h h' → Exa Z h' a "java/lang/String" → Fld Z h' a "java/lang/String" "coder" "B" (.int 0) → Fld Z h' a "java/lang/String" "value" "[B" (.ref b) → Arv Z h' b kb .byte z vs (.int 0) → IB Z sb'.vm (text :: Ts) → Lit sb' own index a → Go p e below P T' (mkF m pc' Ls (.ref a :: st))) : Go p e below P T (mkF m pc Ls st) := by
  subst hp
  have e1 := N.1
  have X : Stand p l e R (s.setVm sb.vm) m args below meth c T locs cells slots := by rw [← e1]; exact S.X
  obtain ⟨a, T', h', k1, b, kb, X', e', E, hS, hk, hZ', ho', x1, x2, x3, x4, -, -, I', L', f⟩ := ldcSVL X S.ex S.hZ S.hown w wS S.eT N.2 hnn Fl (fun b cl q => hEs.2 b cl q) I hnot hh hcw ht hz hzl (g := mkF m pc Ls st) rfl (S.hd hd) hn hbig hc hs
  have e2 : sb.setVm T'.vm = s.setVm T'.vm := by rw [e1]; rfl
  have X2 : Stand p l e R (sb.setVm T'.vm) m args below meth c T' locs (cells + 2) (slots + (cap + 4)) := by rw [e2]; exact X'
  have S' : St p l e R (sb.setVm T'.vm) m args below meth c Z own bytes nl ret nm h0 ws T' h' locs (cells + 2) (slots + (cap + 4)) :=
    ⟨⟨S.1.1, S.1.2.1, S.1.2.2.1, hZ', ho', S.1.2.2.2.2.2⟩, X2, e', S.fr, S.keep.ext E, (Old.ext (n0 := Z.heap.size) ⟨rfl, S.ext⟩ E).2⟩
  exact (k a b kb (sb.setVm T'.vm) T' h' k1 S' ⟨by rw [e2]; rfl, hS⟩ hk E x1 x2 x3 x4 I' L').of f
/-- an entry that is loaded already -/
theorem Go.ldcAgain (S : St p l e R sb m args below meth c Z own bytes nl ret nm h0 ws T h locs cells slots) {text : String} {index : Nat} {a : Addr} (w : (Jvm.Cond.stringLink own index text).before a0 Z = true) (L : Lit sb own index a) (hd : decode bytes pc = .ok (.ldc index, 2)) (hp : pc + 2 = pc') (k : Go p e below P T (mkF m pc' Ls (.ref a :: st))) : Go p e below P T (mkF m pc Ls st) := by
  subst hp
  have X : Stand p l e R (sb.setVm sb.vm) m args below meth c T locs cells slots := S.X
  exact k.of fun t q => ldcAgain X S.ex S.hZ S.hown w (show Lit (sb.setVm sb.vm) own index a from L) (g := mkF m pc Ls st) rfl (S.hd hd) _ q
theorem OMeetsW.body {y : MethodName} {VP : Vm → Prop} {Q : Option Value → Heap → Vm → Prop} {as : Array Value} (hpl : plainFor y = true) (hE : Ext Z.heap h0) (Ls : Array Slot) (hef : ∀ m : MethodId, entryFrame m as nl = mkF m 0 Ls [])
    (H : ∀ p e s m below meth c T, St p l e R s m as below meth c Z y.cls bytes nl ret y.name h0 ws T h0 [] 0 0 → VP s.vm → s.heap = h0 → Go p e below (PostW Z s h0 ws R.cells R.slots Q) T (mkF m 0 Ls [])) : OMeetsW l Z y bytes nl ret R as h0 ws VP Q := by
  intro wd
  refine MetFree.of_bodySF hpl hisR ?_
  intro p e s m args below meth c s₁ Bd hml hP _
  obtain ⟨rfl, hZ, hh, hvp⟩ := hP
  have X0 : Stand p l e R s m args below meth c s₁ [] 0 0 := Stand.of_body Bd
  have e0 : s₁.heap = h0 := by rw [← hh, Bd.state]; rfl
  have hg := H p e s m below meth c s₁ ⟨⟨Bd.exec, Bd.bytes, hml, hZ, findClass_of_methodNamed Bd.named, Bd.returns, Bd.notSynchronized, (name_of_methodNamed Bd.named Bd.method).1⟩, X0, e0, Fr.nil _, Keep.refl _ _, hE⟩ hvp hh
  rw [hef]
  exact hg
end Wide
end Jvm.Own
namespace Jvm.Pilot.@@N@@
open Jvm Jvm.ClassFile Sem Op Lib Jvm.Free Jvm.Stand Jvm.LawKit Jvm.RoadKit Jvm.Own Bundle Jvm.Pilot.@@N@@.Jvm.D
abbrev HW (Z : State) (a0 : Array Value) : Prop := ∀ d ∈ tables_1, d.before a0 Z = true
theorem wd0 {Z : State} {a0 : Array Value} (hw : HW Z a0) : Jvm.Cond.before (Jvm.Cond.methodLink "com/example/markmint/markmint/core/store/FieldsHasNextPinLaw" (7 : Nat) ({ cls := "com/example/markmint/markmint/core/store/FieldsHasNextPinLaw", name := "draw", desc := "(I)C" } : Jvm.MethodName)) a0 Z = true := hw _ (List.mem_of_getElem? (i := 0) rfl)
theorem wd1 {Z : State} {a0 : Array Value} (hw : HW Z a0) : Jvm.Cond.before (Jvm.Cond.static ({ cls := "com/example/markmint/markmint/core/store/FieldsHasNextPinLaw", name := "draw", desc := "(I)C" } : Jvm.MethodName)) a0 Z = true := hw _ (List.mem_of_getElem? (i := 1) rfl)
theorem wd2 {Z : State} {a0 : Array Value} (hw : HW Z a0) : Jvm.Cond.before (Jvm.Cond.initialized "com/example/markmint/markmint/core/store/FieldsHasNextPinLaw") a0 Z = true := hw _ (List.mem_of_getElem? (i := 2) rfl)
theorem wd3 {Z : State} {a0 : Array Value} (hw : HW Z a0) : Jvm.Cond.before (Jvm.Cond.code ({ cls := "com/example/markmint/markmint/core/store/FieldsHasNextPinLaw", name := "draw", desc := "(I)C" } : Jvm.MethodName) method_2_code (1 : Nat) (Option.some Jvm.ClassFile.FieldType.char)) a0 Z = true := hw _ (List.mem_of_getElem? (i := 3) rfl)
theorem wd4 {Z : State} {a0 : Array Value} (hw : HW Z a0) : Jvm.Cond.before (Jvm.Cond.arrayClass Jvm.ClassFile.FieldType.char) a0 Z = true := hw _ (List.mem_of_getElem? (i := 4) rfl)
theorem wd5 {Z : State} {a0 : Array Value} (hw : HW Z a0) : Jvm.Cond.before (Jvm.Cond.classLink "com/example/markmint/markmint/core/store/FieldsHasNextPinLaw" (13 : Nat) "java/lang/String") a0 Z = true := hw _ (List.mem_of_getElem? (i := 5) rfl)
theorem wd6 {Z : State} {a0 : Array Value} (hw : HW Z a0) : Jvm.Cond.before (Jvm.Cond.instantiable "java/lang/String" (4 : Nat)) a0 Z = true := hw _ (List.mem_of_getElem? (i := 6) rfl)
theorem wd7 {Z : State} {a0 : Array Value} (hw : HW Z a0) : Jvm.Cond.before (Jvm.Cond.initialized "java/lang/String") a0 Z = true := hw _ (List.mem_of_getElem? (i := 7) rfl)
theorem wd8 {Z : State} {a0 : Array Value} (hw : HW Z a0) : Jvm.Cond.before (Jvm.Cond.methodLink "com/example/markmint/markmint/core/store/FieldsHasNextPinLaw" (15 : Nat) ({ cls := "java/lang/String", name := "<init>", desc := "([C)V" } : Jvm.MethodName)) a0 Z = true := hw _ (List.mem_of_getElem? (i := 8) rfl)
theorem wd9 {Z : State} {a0 : Array Value} (hw : HW Z a0) : Jvm.Cond.before (Jvm.Cond.instanceMethod ({ cls := "java/lang/String", name := "<init>", desc := "([C)V" } : Jvm.MethodName)) a0 Z = true := hw _ (List.mem_of_getElem? (i := 9) rfl)
theorem wd10 {Z : State} {a0 : Array Value} (hw : HW Z a0) : Jvm.Cond.before (Jvm.Cond.code ({ cls := "java/lang/String", name := "<init>", desc := "([C)V" } : Jvm.MethodName) jdk_42_method_3_code (2 : Nat) (Option.none : Option Jvm.ClassFile.FieldType)) a0 Z = true := hw _ (List.mem_of_getElem? (i := 10) rfl)
theorem wd11 {Z : State} {a0 : Array Value} (hw : HW Z a0) : Jvm.Cond.before (Jvm.Cond.methodLink "java/lang/String" (27 : Nat) ({ cls := "java/lang/String", name := "<init>", desc := "([CIILjava/lang/Void;)V" } : Jvm.MethodName)) a0 Z = true := hw _ (List.mem_of_getElem? (i := 11) rfl)
theorem wd12 {Z : State} {a0 : Array Value} (hw : HW Z a0) : Jvm.Cond.before (Jvm.Cond.instanceMethod ({ cls := "java/lang/String", name := "<init>", desc := "([CIILjava/lang/Void;)V" } : Jvm.MethodName)) a0 Z = true := hw _ (List.mem_of_getElem? (i := 12) rfl)
theorem wd14 {Z : State} {a0 : Array Value} (hw : HW Z a0) : Jvm.Cond.before (Jvm.Cond.code ({ cls := "java/lang/String", name := "<init>", desc := "([CIILjava/lang/Void;)V" } : Jvm.MethodName) jdk_42_method_149_code (6 : Nat) (Option.none : Option Jvm.ClassFile.FieldType)) a0 Z = true := hw _ (List.mem_of_getElem? (i := 14) rfl)
theorem wd15 {Z : State} {a0 : Array Value} (hw : HW Z a0) : Jvm.Cond.before (Jvm.Cond.methodLink "java/lang/String" (1 : Nat) ({ cls := "java/lang/Object", name := "<init>", desc := "()V" } : Jvm.MethodName)) a0 Z = true := hw _ (List.mem_of_getElem? (i := 15) rfl)
theorem wd16 {Z : State} {a0 : Array Value} (hw : HW Z a0) : Jvm.Cond.before (Jvm.Cond.instanceMethod ({ cls := "java/lang/Object", name := "<init>", desc := "()V" } : Jvm.MethodName)) a0 Z = true := hw _ (List.mem_of_getElem? (i := 16) rfl)
theorem wd17 {Z : State} {a0 : Array Value} (hw : HW Z a0) : Jvm.Cond.before (Jvm.Cond.code ({ cls := "java/lang/Object", name := "<init>", desc := "()V" } : Jvm.MethodName) object_method_1_code (1 : Nat) (Option.none : Option Jvm.ClassFile.FieldType)) a0 Z = true := hw _ (List.mem_of_getElem? (i := 17) rfl)
theorem wd18 {Z : State} {a0 : Array Value} (hw : HW Z a0) : Jvm.Cond.before (Jvm.Cond.stringLink "java/lang/String" (7 : Nat) "") a0 Z = true := hw _ (List.mem_of_getElem? (i := 18) rfl)
theorem wd19 {Z : State} {a0 : Array Value} (hw : HW Z a0) : Jvm.Cond.before (Jvm.Cond.arrayClass Jvm.ClassFile.FieldType.byte) a0 Z = true := hw _ (List.mem_of_getElem? (i := 19) rfl)
theorem wd20 {Z : State} {a0 : Array Value} (hw : HW Z a0) : Jvm.Cond.before (Jvm.Cond.laysFinal "java/lang/String" "java/lang/String" "value" "[B") a0 Z = true := hw _ (List.mem_of_getElem? (i := 20) rfl)
theorem wd21 {Z : State} {a0 : Array Value} (hw : HW Z a0) : Jvm.Cond.before (Jvm.Cond.laysFinal "java/lang/String" "java/lang/String" "coder" "B") a0 Z = true := hw _ (List.mem_of_getElem? (i := 21) rfl)
theorem wd22 {Z : State} {a0 : Array Value} (hw : HW Z a0) : Jvm.Cond.before (Jvm.Cond.soleField "java/lang/String" "value") a0 Z = true := hw _ (List.mem_of_getElem? (i := 22) rfl)
theorem wd23 {Z : State} {a0 : Array Value} (hw : HW Z a0) : Jvm.Cond.before (Jvm.Cond.soleField "java/lang/String" "coder") a0 Z = true := hw _ (List.mem_of_getElem? (i := 23) rfl)
theorem wd24 {Z : State} {a0 : Array Value} (hw : HW Z a0) : Jvm.Cond.before (Jvm.Cond.fieldLink "java/lang/String" (9 : Nat) "java/lang/String" "value" "[B") a0 Z = true := hw _ (List.mem_of_getElem? (i := 24) rfl)
theorem wd25 {Z : State} {a0 : Array Value} (hw : HW Z a0) : Jvm.Cond.before (Jvm.Cond.fieldLink "java/lang/String" (15 : Nat) "java/lang/String" "coder" "B") a0 Z = true := hw _ (List.mem_of_getElem? (i := 25) rfl)
theorem wd26 {Z : State} {a0 : Array Value} (hw : HW Z a0) : Jvm.Cond.before (Jvm.Cond.classLink "com/example/markmint/markmint/core/store/FieldsHasNextPinLaw" (22 : Nat) "com/example/markmint/markmint/core/store/Fields") a0 Z = true := hw _ (List.mem_of_getElem? (i := 26) rfl)
theorem wd27 {Z : State} {a0 : Array Value} (hw : HW Z a0) : Jvm.Cond.before (Jvm.Cond.instantiable "com/example/markmint/markmint/core/store/Fields" (2 : Nat)) a0 Z = true := hw _ (List.mem_of_getElem? (i := 27) rfl)
theorem wd28 {Z : State} {a0 : Array Value} (hw : HW Z a0) : Jvm.Cond.before (Jvm.Cond.initialized "com/example/markmint/markmint/core/store/Fields") a0 Z = true := hw _ (List.mem_of_getElem? (i := 28) rfl)
theorem wd29 {Z : State} {a0 : Array Value} (hw : HW Z a0) : Jvm.Cond.before (Jvm.Cond.methodLink "com/example/markmint/markmint/core/store/FieldsHasNextPinLaw" (24 : Nat) ({ cls := "com/example/markmint/markmint/core/store/Fields", name := "<init>", desc := "(Ljava/lang/CharSequence;)V" } : Jvm.MethodName)) a0 Z = true := hw _ (List.mem_of_getElem? (i := 29) rfl)
theorem wd30 {Z : State} {a0 : Array Value} (hw : HW Z a0) : Jvm.Cond.before (Jvm.Cond.instanceMethod ({ cls := "com/example/markmint/markmint/core/store/Fields", name := "<init>", desc := "(Ljava/lang/CharSequence;)V" } : Jvm.MethodName)) a0 Z = true := hw _ (List.mem_of_getElem? (i := 30) rfl)
theorem wd31 {Z : State} {a0 : Array Value} (hw : HW Z a0) : Jvm.Cond.before (Jvm.Cond.code ({ cls := "com/example/markmint/markmint/core/store/Fields", name := "<init>", desc := "(Ljava/lang/CharSequence;)V" } : Jvm.MethodName) prog_45_method_1_code (2 : Nat) (Option.none : Option Jvm.ClassFile.FieldType)) a0 Z = true := hw _ (List.mem_of_getElem? (i := 31) rfl)
theorem wd32 {Z : State} {a0 : Array Value} (hw : HW Z a0) : Jvm.Cond.before (Jvm.Cond.methodLink "com/example/markmint/markmint/core/store/Fields" (1 : Nat) ({ cls := "java/lang/Object", name := "<init>", desc := "()V" } : Jvm.MethodName)) a0 Z = true := hw _ (List.mem_of_getElem? (i := 32) rfl)
theorem wd33 {Z : State} {a0 : Array Value} (hw : HW Z a0) : Jvm.Cond.before (Jvm.Cond.fieldLink "com/example/markmint/markmint/core/store/Fields" (7 : Nat) "com/example/markmint/markmint/core/store/Fields" "line" "Ljava/lang/CharSequence;") a0 Z = true := hw _ (List.mem_of_getElem? (i := 33) rfl)
theorem wd34 {Z : State} {a0 : Array Value} (hw : HW Z a0) : Jvm.Cond.before (Jvm.Cond.laysFinal "com/example/markmint/markmint/core/store/Fields" "com/example/markmint/markmint/core/store/Fields" "line" "Ljava/lang/CharSequence;") a0 Z = true := hw _ (List.mem_of_getElem? (i := 34) rfl)
theorem wd35 {Z : State} {a0 : Array Value} (hw : HW Z a0) : Jvm.Cond.before (Jvm.Cond.methodLink "com/example/markmint/markmint/core/store/FieldsHasNextPinLaw" (27 : Nat) ({ cls := "com/example/markmint/markmint/core/store/Fields", name := "hasNext", desc := "()Z" } : Jvm.MethodName)) a0 Z = true := hw _ (List.mem_of_getElem? (i := 35) rfl)
theorem wd36 {Z : State} {a0 : Array Value} (hw : HW Z a0) : Jvm.Cond.before (Jvm.Cond.declares ({ cls := "com/example/markmint/markmint/core/store/Fields", name := "hasNext", desc := "()Z" } : Jvm.MethodName)) a0 Z = true := hw _ (List.mem_of_getElem? (i := 36) rfl)
theorem wd37 {Z : State} {a0 : Array Value} (hw : HW Z a0) : Jvm.Cond.before (Jvm.Cond.instanceMethod ({ cls := "com/example/markmint/markmint/core/store/Fields", name := "hasNext", desc := "()Z" } : Jvm.MethodName)) a0 Z = true := hw _ (List.mem_of_getElem? (i := 37) rfl)
theorem wd38 {Z : State} {a0 : Array Value} (hw : HW Z a0) : Jvm.Cond.before (Jvm.Cond.selects "com/example/markmint/markmint/core/store/Fields" ({ cls := "com/example/markmint/markmint/core/store/Fields", name := "hasNext", desc := "()Z" } : Jvm.MethodName) ({ cls := "com/example/markmint/markmint/core/store/Fields", name := "hasNext", desc := "()Z" } : Jvm.MethodName)) a0 Z = true := hw _ (List.mem_of_getElem? (i := 38) rfl)
theorem wd39 {Z : State} {a0 : Array Value} (hw : HW Z a0) : Jvm.Cond.before (Jvm.Cond.code ({ cls := "com/example/markmint/markmint/core/store/Fields", name := "hasNext", desc := "()Z" } : Jvm.MethodName) prog_45_method_2_code (1 : Nat) (Option.some Jvm.ClassFile.FieldType.boolean)) a0 Z = true := hw _ (List.mem_of_getElem? (i := 39) rfl)
theorem wd40 {Z : State} {a0 : Array Value} (hw : HW Z a0) : Jvm.Cond.before (Jvm.Cond.fieldLink "com/example/markmint/markmint/core/store/Fields" (13 : Nat) "com/example/markmint/markmint/core/store/Fields" "next" "I") a0 Z = true := hw _ (List.mem_of_getElem? (i := 40) rfl)
theorem wd41 {Z : State} {a0 : Array Value} (hw : HW Z a0) : Jvm.Cond.before (Jvm.Cond.lays "com/example/markmint/markmint/core/store/Fields" "com/example/markmint/markmint/core/store/Fields" "next" "I") a0 Z = true := hw _ (List.mem_of_getElem? (i := 41) rfl)
theorem wd42 {Z : State} {a0 : Array Value} (hw : HW Z a0) : Jvm.Cond.before (Jvm.Cond.methodLink "com/example/markmint/markmint/core/store/FieldsHasNextPinLaw" (31 : Nat) ({ cls := "com/example/markmint/markmint/core/store/Fields", name := "next", desc := "()Ljava/lang/String;" } : Jvm.MethodName)) a0 Z = true := hw _ (List.mem_of_getElem? (i := 42) rfl)
theorem wd43 {Z : State} {a0 : Array Value} (hw : HW Z a0) : Jvm.Cond.before (Jvm.Cond.declares ({ cls := "com/example/markmint/markmint/core/store/Fields", name := "next", desc := "()Ljava/lang/String;" } : Jvm.MethodName)) a0 Z = true := hw _ (List.mem_of_getElem? (i := 43) rfl)
theorem wd44 {Z : State} {a0 : Array Value} (hw : HW Z a0) : Jvm.Cond.before (Jvm.Cond.instanceMethod ({ cls := "com/example/markmint/markmint/core/store/Fields", name := "next", desc := "()Ljava/lang/String;" } : Jvm.MethodName)) a0 Z = true := hw _ (List.mem_of_getElem? (i := 44) rfl)
theorem wd45 {Z : State} {a0 : Array Value} (hw : HW Z a0) : Jvm.Cond.before (Jvm.Cond.selects "com/example/markmint/markmint/core/store/Fields" ({ cls := "com/example/markmint/markmint/core/store/Fields", name := "next", desc := "()Ljava/lang/String;" } : Jvm.MethodName) ({ cls := "com/example/markmint/markmint/core/store/Fields", name := "next", desc := "()Ljava/lang/String;" } : Jvm.MethodName)) a0 Z = true := hw _ (List.mem_of_getElem? (i := 45) rfl)
theorem wd46 {Z : State} {a0 : Array Value} (hw : HW Z a0) : Jvm.Cond.before (Jvm.Cond.code ({ cls := "com/example/markmint/markmint/core/store/Fields", name := "next", desc := "()Ljava/lang/String;" } : Jvm.MethodName) prog_45_method_3_code (3 : Nat) (Option.some (Jvm.ClassFile.FieldType.object "java/lang/String"))) a0 Z = true := hw _ (List.mem_of_getElem? (i := 46) rfl)
theorem wd47 {Z : State} {a0 : Array Value} (hw : HW Z a0) : Jvm.Cond.before (Jvm.Cond.methodLink "com/example/markmint/markmint/core/store/Fields" (17 : Nat) ({ cls := "com/example/markmint/markmint/core/store/Fields", name := "start", desc := "()I" } : Jvm.MethodName)) a0 Z = true := hw _ (List.mem_of_getElem? (i := 47) rfl)
theorem wd48 {Z : State} {a0 : Array Value} (hw : HW Z a0) : Jvm.Cond.before (Jvm.Cond.instanceMethod ({ cls := "com/example/markmint/markmint/core/store/Fields", name := "start", desc := "()I" } : Jvm.MethodName)) a0 Z = true := hw _ (List.mem_of_getElem? (i := 48) rfl)
theorem wd49 {Z : State} {a0 : Array Value} (hw : HW Z a0) : Jvm.Cond.before (Jvm.Cond.privateMethod ({ cls := "com/example/markmint/markmint/core/store/Fields", name := "start", desc := "()I" } : Jvm.MethodName)) a0 Z = true := hw _ (List.mem_of_getElem? (i := 49) rfl)
theorem wd50 {Z : State} {a0 : Array Value} (hw : HW Z a0) : Jvm.Cond.before (Jvm.Cond.code ({ cls := "com/example/markmint/markmint/core/store/Fields", name := "start", desc := "()I" } : Jvm.MethodName) prog_45_method_5_code (1 : Nat) (Option.some Jvm.ClassFile.FieldType.int)) a0 Z = true := hw _ (List.mem_of_getElem? (i := 50) rfl)
theorem wd51 {Z : State} {a0 : Array Value} (hw : HW Z a0) : Jvm.Cond.before (Jvm.Cond.methodLink "com/example/markmint/markmint/core/store/Fields" (21 : Nat) ({ cls := "com/example/markmint/markmint/core/store/Fields", name := "end", desc := "(I)I" } : Jvm.MethodName)) a0 Z = true := hw _ (List.mem_of_getElem? (i := 51) rfl)
theorem wd52 {Z : State} {a0 : Array Value} (hw : HW Z a0) : Jvm.Cond.before (Jvm.Cond.instanceMethod ({ cls := "com/example/markmint/markmint/core/store/Fields", name := "end", desc := "(I)I" } : Jvm.MethodName)) a0 Z = true := hw _ (List.mem_of_getElem? (i := 52) rfl)
theorem wd53 {Z : State} {a0 : Array Value} (hw : HW Z a0) : Jvm.Cond.before (Jvm.Cond.privateMethod ({ cls := "com/example/markmint/markmint/core/store/Fields", name := "end", desc := "(I)I" } : Jvm.MethodName)) a0 Z = true := hw _ (List.mem_of_getElem? (i := 53) rfl)
theorem wd54 {Z : State} {a0 : Array Value} (hw : HW Z a0) : Jvm.Cond.before (Jvm.Cond.code ({ cls := "com/example/markmint/markmint/core/store/Fields", name := "end", desc := "(I)I" } : Jvm.MethodName) prog_45_method_6_code (3 : Nat) (Option.some Jvm.ClassFile.FieldType.int)) a0 Z = true := hw _ (List.mem_of_getElem? (i := 54) rfl)
theorem wd55 {Z : State} {a0 : Array Value} (hw : HW Z a0) : Jvm.Cond.before (Jvm.Cond.methodLink "com/example/markmint/markmint/core/store/Fields" (25 : Nat) ({ cls := "java/lang/CharSequence", name := "length", desc := "()I" } : Jvm.MethodName)) a0 Z = true := hw _ (List.mem_of_getElem? (i := 55) rfl)
theorem wd56 {Z : State} {a0 : Array Value} (hw : HW Z a0) : Jvm.Cond.before (Jvm.Cond.declares ({ cls := "java/lang/CharSequence", name := "length", desc := "()I" } : Jvm.MethodName)) a0 Z = true := hw _ (List.mem_of_getElem? (i := 56) rfl)
theorem wd57 {Z : State} {a0 : Array Value} (hw : HW Z a0) : Jvm.Cond.before (Jvm.Cond.interfaceMethod "java/lang/CharSequence" "java/lang/CharSequence" "length" "()I") a0 Z = true := hw _ (List.mem_of_getElem? (i := 57) rfl)
theorem wd58 {Z : State} {a0 : Array Value} (hw : HW Z a0) : Jvm.Cond.before (Jvm.Cond.selects "java/lang/String" ({ cls := "java/lang/CharSequence", name := "length", desc := "()I" } : Jvm.MethodName) ({ cls := "java/lang/String", name := "length", desc := "()I" } : Jvm.MethodName)) a0 Z = true := hw _ (List.mem_of_getElem? (i := 58) rfl)
theorem wd59 {Z : State} {a0 : Array Value} (hw : HW Z a0) : Jvm.Cond.before (Jvm.Cond.instanceMethod ({ cls := "java/lang/String", name := "length", desc := "()I" } : Jvm.MethodName)) a0 Z = true := hw _ (List.mem_of_getElem? (i := 59) rfl)
theorem wd60 {Z : State} {a0 : Array Value} (hw : HW Z a0) : Jvm.Cond.before (Jvm.Cond.publicMethod ({ cls := "java/lang/String", name := "length", desc := "()I" } : Jvm.MethodName)) a0 Z = true := hw _ (List.mem_of_getElem? (i := 60) rfl)
theorem wd61 {Z : State} {a0 : Array Value} (hw : HW Z a0) : Jvm.Cond.before (Jvm.Cond.unhidden "java/lang/String" "length" "()I") a0 Z = true := hw _ (List.mem_of_getElem? (i := 61) rfl)
theorem wd62 {Z : State} {a0 : Array Value} (hw : HW Z a0) : Jvm.Cond.before (Jvm.Cond.castable "java/lang/String" "java/lang/CharSequence") a0 Z = true := hw _ (List.mem_of_getElem? (i := 62) rfl)
theorem wd63 {Z : State} {a0 : Array Value} (hw : HW Z a0) : Jvm.Cond.before (Jvm.Cond.code ({ cls := "java/lang/String", name := "length", desc := "()I" } : Jvm.MethodName) jdk_42_method_54_code (1 : Nat) (Option.some Jvm.ClassFile.FieldType.int)) a0 Z = true := hw _ (List.mem_of_getElem? (i := 63) rfl)
theorem wd64 {Z : State} {a0 : Array Value} (hw : HW Z a0) : Jvm.Cond.before (Jvm.Cond.methodLink "java/lang/String" (335 : Nat) ({ cls := "java/lang/String", name := "coder", desc := "()B" } : Jvm.MethodName)) a0 Z = true := hw _ (List.mem_of_getElem? (i := 64) rfl)
theorem wd65 {Z : State} {a0 : Array Value} (hw : HW Z a0) : Jvm.Cond.before (Jvm.Cond.declares ({ cls := "java/lang/String", name := "coder", desc := "()B" } : Jvm.MethodName)) a0 Z = true := hw _ (List.mem_of_getElem? (i := 65) rfl)
theorem wd66 {Z : State} {a0 : Array Value} (hw : HW Z a0) : Jvm.Cond.before (Jvm.Cond.instanceMethod ({ cls := "java/lang/String", name := "coder", desc := "()B" } : Jvm.MethodName)) a0 Z = true := hw _ (List.mem_of_getElem? (i := 66) rfl)
theorem wd67 {Z : State} {a0 : Array Value} (hw : HW Z a0) : Jvm.Cond.before (Jvm.Cond.selects "java/lang/String" ({ cls := "java/lang/String", name := "coder", desc := "()B" } : Jvm.MethodName) ({ cls := "java/lang/String", name := "coder", desc := "()B" } : Jvm.MethodName)) a0 Z = true := hw _ (List.mem_of_getElem? (i := 67) rfl)
theorem wd68 {Z : State} {a0 : Array Value} (hw : HW Z a0) : Jvm.Cond.before (Jvm.Cond.code ({ cls := "java/lang/String", name := "coder", desc := "()B" } : Jvm.MethodName) jdk_42_method_152_code (1 : Nat) (Option.some Jvm.ClassFile.FieldType.byte)) a0 Z = true := hw _ (List.mem_of_getElem? (i := 68) rfl)
theorem wd69 {Z : State} {a0 : Array Value} (hw : HW Z a0) : Jvm.Cond.before (Jvm.Cond.fieldLink "java/lang/String" (38 : Nat) "java/lang/String" "COMPACT_STRINGS" "Z") a0 Z = true := hw _ (List.mem_of_getElem? (i := 69) rfl)
theorem wd70 {Z : State} {a0 : Array Value} (hw : HW Z a0) : Jvm.Cond.before (Jvm.Cond.methodLink "com/example/markmint/markmint/core/store/Fields" (30 : Nat) ({ cls := "java/lang/CharSequence", name := "subSequence", desc := "(II)Ljava/lang/CharSequence;" } : Jvm.MethodName)) a0 Z = true := hw _ (List.mem_of_getElem? (i := 70) rfl)
theorem wd71 {Z : State} {a0 : Array Value} (hw : HW Z a0) : Jvm.Cond.before (Jvm.Cond.declares ({ cls := "java/lang/CharSequence", name := "subSequence", desc := "(II)Ljava/lang/CharSequence;" } : Jvm.MethodName)) a0 Z = true := hw _ (List.mem_of_getElem? (i := 71) rfl)
theorem wd72 {Z : State} {a0 : Array Value} (hw : HW Z a0) : Jvm.Cond.before (Jvm.Cond.interfaceMethod "java/lang/CharSequence" "java/lang/CharSequence" "subSequence" "(II)Ljava/lang/CharSequence;") a0 Z = true := hw _ (List.mem_of_getElem? (i := 72) rfl)
theorem wd73 {Z : State} {a0 : Array Value} (hw : HW Z a0) : Jvm.Cond.before (Jvm.Cond.selects "java/lang/String" ({ cls := "java/lang/CharSequence", name := "subSequence", desc := "(II)Ljava/lang/CharSequence;" } : Jvm.MethodName) ({ cls := "java/lang/String", name := "subSequence", desc := "(II)Ljava/lang/CharSequence;" } : Jvm.MethodName)) a0 Z = true := hw _ (List.mem_of_getElem? (i := 73) rfl)
theorem wd74 {Z : State} {a0 : Array Value} (hw : HW Z a0) : Jvm.Cond.before (Jvm.Cond.instanceMethod ({ cls := "java/lang/String", name := "subSequence", desc := "(II)Ljava/lang/CharSequence;" } : Jvm.MethodName)) a0 Z = true := hw _ (List.mem_of_getElem? (i := 74) rfl)
theorem wd75 {Z : State} {a0 : Array Value} (hw : HW Z a0) : Jvm.Cond.before (Jvm.Cond.publicMethod ({ cls := "java/lang/String", name := "subSequence", desc := "(II)Ljava/lang/CharSequence;" } : Jvm.MethodName)) a0 Z = true := hw _ (List.mem_of_getElem? (i := 75) rfl)
theorem wd76 {Z : State} {a0 : Array Value} (hw : HW Z a0) : Jvm.Cond.before (Jvm.Cond.unhidden "java/lang/String" "subSequence" "(II)Ljava/lang/CharSequence;") a0 Z = true := hw _ (List.mem_of_getElem? (i := 76) rfl)
theorem wd77 {Z : State} {a0 : Array Value} (hw : HW Z a0) : Jvm.Cond.before (Jvm.Cond.code ({ cls := "java/lang/String", name := "subSequence", desc := "(II)Ljava/lang/CharSequence;" } : Jvm.MethodName) jdk_42_method_93_code (3 : Nat) (Option.some (Jvm.ClassFile.FieldType.object "java/lang/CharSequence"))) a0 Z = true := hw _ (List.mem_of_getElem? (i := 77) rfl)
theorem wd78 {Z : State} {a0 : Array Value} (hw : HW Z a0) : Jvm.Cond.before (Jvm.Cond.methodLink "java/lang/String" (681 : Nat) ({ cls := "java/lang/String", name := "substring", desc := "(II)Ljava/lang/String;" } : Jvm.MethodName)) a0 Z = true := hw _ (List.mem_of_getElem? (i := 78) rfl)
theorem wd79 {Z : State} {a0 : Array Value} (hw : HW Z a0) : Jvm.Cond.before (Jvm.Cond.declares ({ cls := "java/lang/String", name := "substring", desc := "(II)Ljava/lang/String;" } : Jvm.MethodName)) a0 Z = true := hw _ (List.mem_of_getElem? (i := 79) rfl)
theorem wd80 {Z : State} {a0 : Array Value} (hw : HW Z a0) : Jvm.Cond.before (Jvm.Cond.instanceMethod ({ cls := "java/lang/String", name := "substring", desc := "(II)Ljava/lang/String;" } : Jvm.MethodName)) a0 Z = true := hw _ (List.mem_of_getElem? (i := 80) rfl)
theorem wd81 {Z : State} {a0 : Array Value} (hw : HW Z a0) : Jvm.Cond.before (Jvm.Cond.selects "java/lang/String" ({ cls := "java/lang/String", name := "substring", desc := "(II)Ljava/lang/String;" } : Jvm.MethodName) ({ cls := "java/lang/String", name := "substring", desc := "(II)Ljava/lang/String;" } : Jvm.MethodName)) a0 Z = true := hw _ (List.mem_of_getElem? (i := 81) rfl)
theorem wd82 {Z : State} {a0 : Array Value} (hw : HW Z a0) : Jvm.Cond.before (Jvm.Cond.code ({ cls := "java/lang/String", name := "substring", desc := "(II)Ljava/lang/String;" } : Jvm.MethodName) jdk_42_method_92_code (5 : Nat) (Option.some (Jvm.ClassFile.FieldType.object "java/lang/String"))) a0 Z = true := hw _ (List.mem_of_getElem? (i := 82) rfl)
theorem wd83 {Z : State} {a0 : Array Value} (hw : HW Z a0) : Jvm.Cond.before (Jvm.Cond.methodLink "java/lang/String" (505 : Nat) ({ cls := "java/lang/String", name := "length", desc := "()I" } : Jvm.MethodName)) a0 Z = true := hw _ (List.mem_of_getElem? (i := 83) rfl)
theorem wd84 {Z : State} {a0 : Array Value} (hw : HW Z a0) : Jvm.Cond.before (Jvm.Cond.declares ({ cls := "java/lang/String", name := "length", desc := "()I" } : Jvm.MethodName)) a0 Z = true := hw _ (List.mem_of_getElem? (i := 84) rfl)
theorem wd85 {Z : State} {a0 : Array Value} (hw : HW Z a0) : Jvm.Cond.before (Jvm.Cond.selects "java/lang/String" ({ cls := "java/lang/String", name := "length", desc := "()I" } : Jvm.MethodName) ({ cls := "java/lang/String", name := "length", desc := "()I" } : Jvm.MethodName)) a0 Z = true := hw _ (List.mem_of_getElem? (i := 85) rfl)
theorem wd86 {Z : State} {a0 : Array Value} (hw : HW Z a0) : Jvm.Cond.before (Jvm.Cond.methodLink "java/lang/String" (521 : Nat) ({ cls := "java/lang/String", name := "checkBoundsBeginEnd", desc := "(III)V" } : Jvm.MethodName)) a0 Z = true := hw _ (List.mem_of_getElem? (i := 86) rfl)
theorem wd87 {Z : State} {a0 : Array Value} (hw : HW Z a0) : Jvm.Cond.before (Jvm.Cond.static ({ cls := "java/lang/String", name := "checkBoundsBeginEnd", desc := "(III)V" } : Jvm.MethodName)) a0 Z = true := hw _ (List.mem_of_getElem? (i := 87) rfl)
theorem wd88 {Z : State} {a0 : Array Value} (hw : HW Z a0) : Jvm.Cond.before (Jvm.Cond.code ({ cls := "java/lang/String", name := "checkBoundsBeginEnd", desc := "(III)V" } : Jvm.MethodName) jdk_42_method_158_code (3 : Nat) (Option.none : Option Jvm.ClassFile.FieldType)) a0 Z = true := hw _ (List.mem_of_getElem? (i := 88) rfl)
theorem wd89 {Z : State} {a0 : Array Value} (hw : HW Z a0) : Jvm.Cond.before (Jvm.Cond.fieldLink "java/lang/String" (1053 : Nat) "jdk/internal/util/Preconditions" "SIOOBE_FORMATTER" "Ljava/util/function/BiFunction;") a0 Z = true := hw _ (List.mem_of_getElem? (i := 89) rfl)
theorem wd90 {Z : State} {a0 : Array Value} (hw : HW Z a0) : Jvm.Cond.before (Jvm.Cond.initialized "jdk/internal/util/Preconditions") a0 Z = true := hw _ (List.mem_of_getElem? (i := 90) rfl)
theorem wd91 {Z : State} {a0 : Array Value} (hw : HW Z a0) : Jvm.Cond.before (Jvm.Cond.methodLink "java/lang/String" (1062 : Nat) ({ cls := "jdk/internal/util/Preconditions", name := "checkFromToIndex", desc := "(IIILjava/util/function/BiFunction;)I" } : Jvm.MethodName)) a0 Z = true := hw _ (List.mem_of_getElem? (i := 91) rfl)
theorem wd92 {Z : State} {a0 : Array Value} (hw : HW Z a0) : Jvm.Cond.before (Jvm.Cond.static ({ cls := "jdk/internal/util/Preconditions", name := "checkFromToIndex", desc := "(IIILjava/util/function/BiFunction;)I" } : Jvm.MethodName)) a0 Z = true := hw _ (List.mem_of_getElem? (i := 92) rfl)
theorem wd93 {Z : State} {a0 : Array Value} (hw : HW Z a0) : Jvm.Cond.before (Jvm.Cond.code ({ cls := "jdk/internal/util/Preconditions", name := "checkFromToIndex", desc := "(IIILjava/util/function/BiFunction;)I" } : Jvm.MethodName) jdk_41_method_12_code (4 : Nat) (Option.some Jvm.ClassFile.FieldType.int)) a0 Z = true := hw _ (List.mem_of_getElem? (i := 93) rfl)
theorem wd94 {Z : State} {a0 : Array Value} (hw : HW Z a0) : Jvm.Cond.before (Jvm.Cond.methodLink "com/example/markmint/markmint/core/store/Fields" (34 : Nat) ({ cls := "java/lang/CharSequence", name := "toString", desc := "()Ljava/lang/String;" } : Jvm.MethodName)) a0 Z = true := hw _ (List.mem_of_getElem? (i := 94) rfl)
theorem wd95 {Z : State} {a0 : Array Value} (hw : HW Z a0) : Jvm.Cond.before (Jvm.Cond.declares ({ cls := "java/lang/CharSequence", name := "toString", desc := "()Ljava/lang/String;" } : Jvm.MethodName)) a0 Z = true := hw _ (List.mem_of_getElem? (i := 95) rfl)
theorem wd96 {Z : State} {a0 : Array Value} (hw : HW Z a0) : Jvm.Cond.before (Jvm.Cond.interfaceMethod "java/lang/CharSequence" "java/lang/CharSequence" "toString" "()Ljava/lang/String;") a0 Z = true := hw _ (List.mem_of_getElem? (i := 96) rfl)
theorem wd97 {Z : State} {a0 : Array Value} (hw : HW Z a0) : Jvm.Cond.before (Jvm.Cond.selects "java/lang/String" ({ cls := "java/lang/CharSequence", name := "toString", desc := "()Ljava/lang/String;" } : Jvm.MethodName) ({ cls := "java/lang/String", name := "toString", desc := "()Ljava/lang/String;" } : Jvm.MethodName)) a0 Z = true := hw _ (List.mem_of_getElem? (i := 97) rfl)
theorem wd98 {Z : State} {a0 : Array Value} (hw : HW Z a0) : Jvm.Cond.before (Jvm.Cond.instanceMethod ({ cls := "java/lang/String", name := "toString", desc := "()Ljava/lang/String;" } : Jvm.MethodName)) a0 Z = true := hw _ (List.mem_of_getElem? (i := 98) rfl)
theorem wd99 {Z : State} {a0 : Array Value} (hw : HW Z a0) : Jvm.Cond.before (Jvm.Cond.publicMethod ({ cls := "java/lang/String", name := "toString", desc := "()Ljava/lang/String;" } : Jvm.MethodName)) a0 Z = true := hw _ (List.mem_of_getElem? (i := 99) rfl)
theorem wd100 {Z : State} {a0 : Array Value} (hw : HW Z a0) : Jvm.Cond.before (Jvm.Cond.unhidden "java/lang/String" "toString" "()Ljava/lang/String;") a0 Z = true := hw _ (List.mem_of_getElem? (i := 100) rfl)
theorem wd101 {Z : State} {a0 : Array Value} (hw : HW Z a0) : Jvm.Cond.before (Jvm.Cond.code ({ cls := "java/lang/String", name := "toString", desc := "()Ljava/lang/String;" } : Jvm.MethodName) jdk_42_method_126_code (1 : Nat) (Option.some (Jvm.ClassFile.FieldType.object "java/lang/String"))) a0 Z = true := hw _ (List.mem_of_getElem? (i := 101) rfl)
theorem wd102 {Z : State} {a0 : Array Value} (hw : HW Z a0) : Jvm.Cond.before (Jvm.Cond.methodLink "java/lang/String" (177 : Nat) ({ cls := "java/lang/StringUTF16", name := "compress", desc := "([CII)[B" } : Jvm.MethodName)) a0 Z = true := hw _ (List.mem_of_getElem? (i := 102) rfl)
theorem wd103 {Z : State} {a0 : Array Value} (hw : HW Z a0) : Jvm.Cond.before (Jvm.Cond.static ({ cls := "java/lang/StringUTF16", name := "compress", desc := "([CII)[B" } : Jvm.MethodName)) a0 Z = true := hw _ (List.mem_of_getElem? (i := 103) rfl)
theorem wd104 {Z : State} {a0 : Array Value} (hw : HW Z a0) : Jvm.Cond.before (Jvm.Cond.initialized "java/lang/StringUTF16") a0 Z = true := hw _ (List.mem_of_getElem? (i := 104) rfl)
theorem wd105 {Z : State} {a0 : Array Value} (hw : HW Z a0) : Jvm.Cond.before (Jvm.Cond.code ({ cls := "java/lang/StringUTF16", name := "compress", desc := "([CII)[B" } : Jvm.MethodName) jdk_52_method_16_code (6 : Nat) (Option.some (Jvm.ClassFile.FieldType.array Jvm.ClassFile.FieldType.byte))) a0 Z = true := hw _ (List.mem_of_getElem? (i := 105) rfl)
theorem wd106 {Z : State} {a0 : Array Value} (hw : HW Z a0) : Jvm.Cond.before (Jvm.Cond.methodLink "java/lang/StringUTF16" (115 : Nat) ({ cls := "java/lang/StringUTF16", name := "compress", desc := "([CI[BII)I" } : Jvm.MethodName)) a0 Z = true := hw _ (List.mem_of_getElem? (i := 106) rfl)
theorem wd107 {Z : State} {a0 : Array Value} (hw : HW Z a0) : Jvm.Cond.before (Jvm.Cond.static ({ cls := "java/lang/StringUTF16", name := "compress", desc := "([CI[BII)I" } : Jvm.MethodName)) a0 Z = true := hw _ (List.mem_of_getElem? (i := 107) rfl)
theorem wd108 {Z : State} {a0 : Array Value} (hw : HW Z a0) : Jvm.Cond.before (Jvm.Cond.code ({ cls := "java/lang/StringUTF16", name := "compress", desc := "([CI[BII)I" } : Jvm.MethodName) jdk_52_method_21_code (7 : Nat) (Option.some Jvm.ClassFile.FieldType.int)) a0 Z = true := hw _ (List.mem_of_getElem? (i := 108) rfl)
theorem wd109 {Z : State} {a0 : Array Value} (hw : HW Z a0) : Jvm.Cond.before (Jvm.Cond.methodLink "java/lang/String" (47 : Nat) ({ cls := "java/lang/StringUTF16", name := "coderFromArrayLen", desc := "([BI)B" } : Jvm.MethodName)) a0 Z = true := hw _ (List.mem_of_getElem? (i := 109) rfl)
theorem wd110 {Z : State} {a0 : Array Value} (hw : HW Z a0) : Jvm.Cond.before (Jvm.Cond.static ({ cls := "java/lang/StringUTF16", name := "coderFromArrayLen", desc := "([BI)B" } : Jvm.MethodName)) a0 Z = true := hw _ (List.mem_of_getElem? (i := 110) rfl)
theorem wd111 {Z : State} {a0 : Array Value} (hw : HW Z a0) : Jvm.Cond.before (Jvm.Cond.code ({ cls := "java/lang/StringUTF16", name := "coderFromArrayLen", desc := "([BI)B" } : Jvm.MethodName) jdk_52_method_15_code (2 : Nat) (Option.some Jvm.ClassFile.FieldType.byte)) a0 Z = true := hw _ (List.mem_of_getElem? (i := 111) rfl)
theorem wd112 {Z : State} {a0 : Array Value} (hw : HW Z a0) : Jvm.Cond.before (Jvm.Cond.methodLink "com/example/markmint/markmint/core/store/FieldsHasNextPinLaw" (18 : Nat) ({ cls := "com/example/markmint/markmint/core/store/FieldsHasNextPinLaw", name := "sp", desc := "(C)I" } : Jvm.MethodName)) a0 Z = true := hw _ (List.mem_of_getElem? (i := 112) rfl)
theorem wd113 {Z : State} {a0 : Array Value} (hw : HW Z a0) : Jvm.Cond.before (Jvm.Cond.static ({ cls := "com/example/markmint/markmint/core/store/FieldsHasNextPinLaw", name := "sp", desc := "(C)I" } : Jvm.MethodName)) a0 Z = true := hw _ (List.mem_of_getElem? (i := 113) rfl)
theorem wd114 {Z : State} {a0 : Array Value} (hw : HW Z a0) : Jvm.Cond.before (Jvm.Cond.code ({ cls := "com/example/markmint/markmint/core/store/FieldsHasNextPinLaw", name := "sp", desc := "(C)I" } : Jvm.MethodName) method_3_code (1 : Nat) (Option.some Jvm.ClassFile.FieldType.int)) a0 Z = true := hw _ (List.mem_of_getElem? (i := 114) rfl)
theorem wd115 {Z : State} {a0 : Array Value} (hw : HW Z a0) : Jvm.Cond.before (Jvm.Cond.methodLink "com/example/markmint/markmint/core/store/Fields" (52 : Nat) ({ cls := "java/lang/CharSequence", name := "charAt", desc := "(I)C" } : Jvm.MethodName)) a0 Z = true := hw _ (List.mem_of_getElem? (i := 115) rfl)
theorem wd116 {Z : State} {a0 : Array Value} (hw : HW Z a0) : Jvm.Cond.before (Jvm.Cond.declares ({ cls := "java/lang/CharSequence", name := "charAt", desc := "(I)C" } : Jvm.MethodName)) a0 Z = true := hw _ (List.mem_of_getElem? (i := 116) rfl)
theorem wd117 {Z : State} {a0 : Array Value} (hw : HW Z a0) : Jvm.Cond.before (Jvm.Cond.interfaceMethod "java/lang/CharSequence" "java/lang/CharSequence" "charAt" "(I)C") a0 Z = true := hw _ (List.mem_of_getElem? (i := 117) rfl)
theorem wd118 {Z : State} {a0 : Array Value} (hw : HW Z a0) : Jvm.Cond.before (Jvm.Cond.selects "java/lang/String" ({ cls := "java/lang/CharSequence", name := "charAt", desc := "(I)C" } : Jvm.MethodName) ({ cls := "java/lang/String", name := "charAt", desc := "(I)C" } : Jvm.MethodName)) a0 Z = true := hw _ (List.mem_of_getElem? (i := 118) rfl)
theorem wd119 {Z : State} {a0 : Array Value} (hw : HW Z a0) : Jvm.Cond.before (Jvm.Cond.instanceMethod ({ cls := "java/lang/String", name := "charAt", desc := "(I)C" } : Jvm.MethodName)) a0 Z = true := hw _ (List.mem_of_getElem? (i := 119) rfl)
theorem wd120 {Z : State} {a0 : Array Value} (hw : HW Z a0) : Jvm.Cond.before (Jvm.Cond.publicMethod ({ cls := "java/lang/String", name := "charAt", desc := "(I)C" } : Jvm.MethodName)) a0 Z = true := hw _ (List.mem_of_getElem? (i := 120) rfl)
theorem wd121 {Z : State} {a0 : Array Value} (hw : HW Z a0) : Jvm.Cond.before (Jvm.Cond.unhidden "java/lang/String" "charAt" "(I)C") a0 Z = true := hw _ (List.mem_of_getElem? (i := 121) rfl)
theorem wd122 {Z : State} {a0 : Array Value} (hw : HW Z a0) : Jvm.Cond.before (Jvm.Cond.code ({ cls := "java/lang/String", name := "charAt", desc := "(I)C" } : Jvm.MethodName) jdk_42_method_56_code (2 : Nat) (Option.some Jvm.ClassFile.FieldType.char)) a0 Z = true := hw _ (List.mem_of_getElem? (i := 122) rfl)
theorem wd123 {Z : State} {a0 : Array Value} (hw : HW Z a0) : Jvm.Cond.before (Jvm.Cond.methodLink "java/lang/String" (492 : Nat) ({ cls := "java/lang/String", name := "isLatin1", desc := "()Z" } : Jvm.MethodName)) a0 Z = true := hw _ (List.mem_of_getElem? (i := 123) rfl)
theorem wd124 {Z : State} {a0 : Array Value} (hw : HW Z a0) : Jvm.Cond.before (Jvm.Cond.declares ({ cls := "java/lang/String", name := "isLatin1", desc := "()Z" } : Jvm.MethodName)) a0 Z = true := hw _ (List.mem_of_getElem? (i := 124) rfl)
theorem wd125 {Z : State} {a0 : Array Value} (hw : HW Z a0) : Jvm.Cond.before (Jvm.Cond.instanceMethod ({ cls := "java/lang/String", name := "isLatin1", desc := "()Z" } : Jvm.MethodName)) a0 Z = true := hw _ (List.mem_of_getElem? (i := 125) rfl)
theorem wd126 {Z : State} {a0 : Array Value} (hw : HW Z a0) : Jvm.Cond.before (Jvm.Cond.selects "java/lang/String" ({ cls := "java/lang/String", name := "isLatin1", desc := "()Z" } : Jvm.MethodName) ({ cls := "java/lang/String", name := "isLatin1", desc := "()Z" } : Jvm.MethodName)) a0 Z = true := hw _ (List.mem_of_getElem? (i := 126) rfl)
theorem wd127 {Z : State} {a0 : Array Value} (hw : HW Z a0) : Jvm.Cond.before (Jvm.Cond.code ({ cls := "java/lang/String", name := "isLatin1", desc := "()Z" } : Jvm.MethodName) jdk_42_method_154_code (1 : Nat) (Option.some Jvm.ClassFile.FieldType.boolean)) a0 Z = true := hw _ (List.mem_of_getElem? (i := 127) rfl)
theorem wd128 {Z : State} {a0 : Array Value} (hw : HW Z a0) : Jvm.Cond.before (Jvm.Cond.methodLink "java/lang/String" (495 : Nat) ({ cls := "java/lang/StringLatin1", name := "charAt", desc := "([BI)C" } : Jvm.MethodName)) a0 Z = true := hw _ (List.mem_of_getElem? (i := 128) rfl)
theorem wd129 {Z : State} {a0 : Array Value} (hw : HW Z a0) : Jvm.Cond.before (Jvm.Cond.static ({ cls := "java/lang/StringLatin1", name := "charAt", desc := "([BI)C" } : Jvm.MethodName)) a0 Z = true := hw _ (List.mem_of_getElem? (i := 129) rfl)
theorem wd130 {Z : State} {a0 : Array Value} (hw : HW Z a0) : Jvm.Cond.before (Jvm.Cond.initialized "java/lang/StringLatin1") a0 Z = true := hw _ (List.mem_of_getElem? (i := 130) rfl)
theorem wd131 {Z : State} {a0 : Array Value} (hw : HW Z a0) : Jvm.Cond.before (Jvm.Cond.code ({ cls := "java/lang/StringLatin1", name := "charAt", desc := "([BI)C" } : Jvm.MethodName) jdk_43_method_2_code (2 : Nat) (Option.some Jvm.ClassFile.FieldType.char)) a0 Z = true := hw _ (List.mem_of_getElem? (i := 131) rfl)
theorem wd132 {Z : State} {a0 : Array Value} (hw : HW Z a0) : Jvm.Cond.before (Jvm.Cond.methodLink "java/lang/StringLatin1" (9 : Nat) ({ cls := "java/lang/String", name := "checkIndex", desc := "(II)V" } : Jvm.MethodName)) a0 Z = true := hw _ (List.mem_of_getElem? (i := 132) rfl)
theorem wd133 {Z : State} {a0 : Array Value} (hw : HW Z a0) : Jvm.Cond.before (Jvm.Cond.static ({ cls := "java/lang/String", name := "checkIndex", desc := "(II)V" } : Jvm.MethodName)) a0 Z = true := hw _ (List.mem_of_getElem? (i := 133) rfl)
theorem wd134 {Z : State} {a0 : Array Value} (hw : HW Z a0) : Jvm.Cond.before (Jvm.Cond.code ({ cls := "java/lang/String", name := "checkIndex", desc := "(II)V" } : Jvm.MethodName) jdk_42_method_155_code (2 : Nat) (Option.none : Option Jvm.ClassFile.FieldType)) a0 Z = true := hw _ (List.mem_of_getElem? (i := 134) rfl)
theorem wd135 {Z : State} {a0 : Array Value} (hw : HW Z a0) : Jvm.Cond.before (Jvm.Cond.methodLink "java/lang/String" (1059 : Nat) ({ cls := "jdk/internal/util/Preconditions", name := "checkIndex", desc := "(IILjava/util/function/BiFunction;)I" } : Jvm.MethodName)) a0 Z = true := hw _ (List.mem_of_getElem? (i := 135) rfl)
theorem wd136 {Z : State} {a0 : Array Value} (hw : HW Z a0) : Jvm.Cond.before (Jvm.Cond.static ({ cls := "jdk/internal/util/Preconditions", name := "checkIndex", desc := "(IILjava/util/function/BiFunction;)I" } : Jvm.MethodName)) a0 Z = true := hw _ (List.mem_of_getElem? (i := 136) rfl)
theorem wd137 {Z : State} {a0 : Array Value} (hw : HW Z a0) : Jvm.Cond.before (Jvm.Cond.code ({ cls := "jdk/internal/util/Preconditions", name := "checkIndex", desc := "(IILjava/util/function/BiFunction;)I" } : Jvm.MethodName) jdk_41_method_11_code (3 : Nat) (Option.some Jvm.ClassFile.FieldType.int)) a0 Z = true := hw _ (List.mem_of_getElem? (i := 137) rfl)
theorem wd138 {Z : State} {a0 : Array Value} (hw : HW Z a0) : Jvm.Cond.before (Jvm.Cond.methodLink "java/lang/String" (685 : Nat) ({ cls := "java/lang/StringLatin1", name := "newString", desc := "([BII)Ljava/lang/String;" } : Jvm.MethodName)) a0 Z = true := hw _ (List.mem_of_getElem? (i := 138) rfl)
theorem wd139 {Z : State} {a0 : Array Value} (hw : HW Z a0) : Jvm.Cond.before (Jvm.Cond.static ({ cls := "java/lang/StringLatin1", name := "newString", desc := "([BII)Ljava/lang/String;" } : Jvm.MethodName)) a0 Z = true := hw _ (List.mem_of_getElem? (i := 139) rfl)
theorem wd140 {Z : State} {a0 : Array Value} (hw : HW Z a0) : Jvm.Cond.before (Jvm.Cond.code ({ cls := "java/lang/StringLatin1", name := "newString", desc := "([BII)Ljava/lang/String;" } : Jvm.MethodName) jdk_43_method_47_code (3 : Nat) (Option.some (Jvm.ClassFile.FieldType.object "java/lang/String"))) a0 Z = true := hw _ (List.mem_of_getElem? (i := 140) rfl)
theorem wd141 {Z : State} {a0 : Array Value} (hw : HW Z a0) : Jvm.Cond.before (Jvm.Cond.classLink "java/lang/StringLatin1" (1 : Nat) "java/lang/String") a0 Z = true := hw _ (List.mem_of_getElem? (i := 141) rfl)
theorem wd142 {Z : State} {a0 : Array Value} (hw : HW Z a0) : Jvm.Cond.before (Jvm.Cond.methodLink "java/lang/StringLatin1" (232 : Nat) ({ cls := "java/util/Arrays", name := "copyOfRange", desc := "([BII)[B" } : Jvm.MethodName)) a0 Z = true := hw _ (List.mem_of_getElem? (i := 142) rfl)
theorem wd143 {Z : State} {a0 : Array Value} (hw : HW Z a0) : Jvm.Cond.before (Jvm.Cond.static ({ cls := "java/util/Arrays", name := "copyOfRange", desc := "([BII)[B" } : Jvm.MethodName)) a0 Z = true := hw _ (List.mem_of_getElem? (i := 143) rfl)
theorem wd144 {Z : State} {a0 : Array Value} (hw : HW Z a0) : Jvm.Cond.before (Jvm.Cond.initialized "java/util/Arrays") a0 Z = true := hw _ (List.mem_of_getElem? (i := 144) rfl)
theorem wd145 {Z : State} {a0 : Array Value} (hw : HW Z a0) : Jvm.Cond.before (Jvm.Cond.code ({ cls := "java/util/Arrays", name := "copyOfRange", desc := "([BII)[B" } : Jvm.MethodName) jdk_65_method_132_code (3 : Nat) (Option.some (Jvm.ClassFile.FieldType.array Jvm.ClassFile.FieldType.byte))) a0 Z = true := hw _ (List.mem_of_getElem? (i := 145) rfl)
theorem wd146 {Z : State} {a0 : Array Value} (hw : HW Z a0) : Jvm.Cond.before (Jvm.Cond.methodLink "java/util/Arrays" (339 : Nat) ({ cls := "java/util/Arrays", name := "copyOfRangeByte", desc := "([BII)[B" } : Jvm.MethodName)) a0 Z = true := hw _ (List.mem_of_getElem? (i := 146) rfl)
theorem wd147 {Z : State} {a0 : Array Value} (hw : HW Z a0) : Jvm.Cond.before (Jvm.Cond.static ({ cls := "java/util/Arrays", name := "copyOfRangeByte", desc := "([BII)[B" } : Jvm.MethodName)) a0 Z = true := hw _ (List.mem_of_getElem? (i := 147) rfl)
theorem wd148 {Z : State} {a0 : Array Value} (hw : HW Z a0) : Jvm.Cond.before (Jvm.Cond.code ({ cls := "java/util/Arrays", name := "copyOfRangeByte", desc := "([BII)[B" } : Jvm.MethodName) jdk_65_method_133_code (5 : Nat) (Option.some (Jvm.ClassFile.FieldType.array Jvm.ClassFile.FieldType.byte))) a0 Z = true := hw _ (List.mem_of_getElem? (i := 148) rfl)
theorem wd149 {Z : State} {a0 : Array Value} (hw : HW Z a0) : Jvm.Cond.before (Jvm.Cond.methodLink "java/util/Arrays" (343 : Nat) ({ cls := "java/util/Arrays", name := "checkLength", desc := "(II)V" } : Jvm.MethodName)) a0 Z = true := hw _ (List.mem_of_getElem? (i := 149) rfl)
theorem wd150 {Z : State} {a0 : Array Value} (hw : HW Z a0) : Jvm.Cond.before (Jvm.Cond.static ({ cls := "java/util/Arrays", name := "checkLength", desc := "(II)V" } : Jvm.MethodName)) a0 Z = true := hw _ (List.mem_of_getElem? (i := 150) rfl)
theorem wd151 {Z : State} {a0 : Array Value} (hw : HW Z a0) : Jvm.Cond.before (Jvm.Cond.code ({ cls := "java/util/Arrays", name := "checkLength", desc := "(II)V" } : Jvm.MethodName) jdk_65_method_131_code (2 : Nat) (Option.none : Option Jvm.ClassFile.FieldType)) a0 Z = true := hw _ (List.mem_of_getElem? (i := 151) rfl)
theorem wd152 {Z : State} {a0 : Array Value} (hw : HW Z a0) : Jvm.Cond.before (Jvm.Cond.methodLink "java/util/Arrays" (304 : Nat) ({ cls := "java/lang/Math", name := "min", desc := "(II)I" } : Jvm.MethodName)) a0 Z = true := hw _ (List.mem_of_getElem? (i := 152) rfl)
theorem wd153 {Z : State} {a0 : Array Value} (hw : HW Z a0) : Jvm.Cond.before (Jvm.Cond.static ({ cls := "java/lang/Math", name := "min", desc := "(II)I" } : Jvm.MethodName)) a0 Z = true := hw _ (List.mem_of_getElem? (i := 153) rfl)
theorem wd154 {Z : State} {a0 : Array Value} (hw : HW Z a0) : Jvm.Cond.before (Jvm.Cond.initialized "java/lang/Math") a0 Z = true := hw _ (List.mem_of_getElem? (i := 154) rfl)
theorem wd155 {Z : State} {a0 : Array Value} (hw : HW Z a0) : Jvm.Cond.before (Jvm.Cond.code ({ cls := "java/lang/Math", name := "min", desc := "(II)I" } : Jvm.MethodName) jdk_29_method_69_code (2 : Nat) (Option.some Jvm.ClassFile.FieldType.int)) a0 Z = true := hw _ (List.mem_of_getElem? (i := 155) rfl)
theorem wd156 {Z : State} {a0 : Array Value} (hw : HW Z a0) : Jvm.Cond.before (Jvm.Cond.methodLink "java/util/Arrays" (150 : Nat) ({ cls := "java/lang/System", name := "arraycopy", desc := "(Ljava/lang/Object;ILjava/lang/Object;II)V" } : Jvm.MethodName)) a0 Z = true := hw _ (List.mem_of_getElem? (i := 156) rfl)
theorem wd157 {Z : State} {a0 : Array Value} (hw : HW Z a0) : Jvm.Cond.before (Jvm.Cond.static ({ cls := "java/lang/System", name := "arraycopy", desc := "(Ljava/lang/Object;ILjava/lang/Object;II)V" } : Jvm.MethodName)) a0 Z = true := hw _ (List.mem_of_getElem? (i := 157) rfl)
theorem wd158 {Z : State} {a0 : Array Value} (hw : HW Z a0) : Jvm.Cond.before (Jvm.Cond.initialized "java/lang/System") a0 Z = true := hw _ (List.mem_of_getElem? (i := 158) rfl)
theorem wd159 {Z : State} {a0 : Array Value} (hw : HW Z a0) : Jvm.Cond.before (Jvm.Cond.native ({ cls := "java/lang/System", name := "arraycopy", desc := "(Ljava/lang/Object;ILjava/lang/Object;II)V" } : Jvm.MethodName)) a0 Z = true := hw _ (List.mem_of_getElem? (i := 159) rfl)
theorem wd160 {Z : State} {a0 : Array Value} (hw : HW Z a0) : Jvm.Cond.before (Jvm.Cond.methodLink "java/lang/StringLatin1" (112 : Nat) ({ cls := "java/lang/String", name := "<init>", desc := "([BB)V" } : Jvm.MethodName)) a0 Z = true := hw _ (List.mem_of_getElem? (i := 160) rfl)
theorem wd161 {Z : State} {a0 : Array Value} (hw : HW Z a0) : Jvm.Cond.before (Jvm.Cond.instanceMethod ({ cls := "java/lang/String", name := "<init>", desc := "([BB)V" } : Jvm.MethodName)) a0 Z = true := hw _ (List.mem_of_getElem? (i := 161) rfl)
theorem wd162 {Z : State} {a0 : Array Value} (hw : HW Z a0) : Jvm.Cond.before (Jvm.Cond.code ({ cls := "java/lang/String", name := "<init>", desc := "([BB)V" } : Jvm.MethodName) jdk_42_method_151_code (3 : Nat) (Option.none : Option Jvm.ClassFile.FieldType)) a0 Z = true := hw _ (List.mem_of_getElem? (i := 162) rfl)
theorem wd163 {Z : State} {a0 : Array Value} (hw : HW Z a0) : Jvm.Cond.before (Jvm.Cond.stringLink "java/lang/StringLatin1" (151 : Nat) "") a0 Z = true := hw _ (List.mem_of_getElem? (i := 163) rfl)
theorem pn0 : plainName "java/lang/StringUTF16" = true := by first | (simp [plainName, overriddenIn]; done) | decide +kernel
theorem pn1 : plainName "java/lang/String" = true := by first | (simp [plainName, overriddenIn]; done) | decide +kernel
theorem pn2 : plainName "jdk/internal/util/Preconditions" = true := by first | (simp [plainName, overriddenIn]; done) | decide +kernel
theorem pn3 : plainName "java/lang/StringLatin1" = true := by first | (simp [plainName, overriddenIn]; done) | decide +kernel
theorem pn4 : plainName "com/example/markmint/markmint/core/store/FieldsHasNextPinLaw" = true := by first | (simp [plainName, overriddenIn]; done) | decide +kernel
theorem pn5 : plainName "com/example/markmint/markmint/core/store/Fields" = true := by first | (simp [plainName, overriddenIn]; done) | decide +kernel
theorem pn6 : plainName "java/util/Arrays" = true := by first | (simp [plainName, overriddenIn]; done) | decide +kernel
theorem pd0 : parseMethodDescriptor "([CI[BII)I" = some ⟨[(.array .char), .int, (.array .byte), .int, .int], some .int⟩ := by decide +kernel
theorem pd1 : parseMethodDescriptor "([CII)[B" = some ⟨[(.array .char), .int, .int], some (.array .byte)⟩ := by decide +kernel
theorem pd2 : parseMethodDescriptor "([BI)B" = some ⟨[(.array .byte), .int], some .byte⟩ := by decide +kernel
theorem pd3 : parseMethodDescriptor "([CIILjava/lang/Void;)V" = some ⟨[(.array .char), .int, .int, (.object "java/lang/Void")], none⟩ := by decide +kernel
theorem pd4 : parseMethodDescriptor "(IILjava/util/function/BiFunction;)I" = some ⟨[.int, .int, (.object "java/util/function/BiFunction")], some .int⟩ := by decide +kernel
theorem pd5 : parseMethodDescriptor "(II)V" = some ⟨[.int, .int], none⟩ := by decide +kernel
theorem pd6 : parseMethodDescriptor "()Z" = some ⟨[], some .boolean⟩ := by decide +kernel
theorem pd7 : parseMethodDescriptor "([BI)C" = some ⟨[(.array .byte), .int], some .char⟩ := by decide +kernel
theorem pd8 : parseMethodDescriptor "()B" = some ⟨[], some .byte⟩ := by decide +kernel
theorem pd9 : parseMethodDescriptor "()I" = some ⟨[], some .int⟩ := by decide +kernel
theorem pd10 : parseMethodDescriptor "(I)C" = some ⟨[.int], some .char⟩ := by decide +kernel
theorem pd11 : parseMethodDescriptor "(IIILjava/util/function/BiFunction;)I" = some ⟨[.int, .int, .int, (.object "java/util/function/BiFunction")], some .int⟩ := by decide +kernel
theorem pd12 : parseMethodDescriptor "(II)I" = some ⟨[.int, .int], some .int⟩ := by decide +kernel
theorem pd13 : parseMethodDescriptor "([BII)[B" = some ⟨[(.array .byte), .int, .int], some (.array .byte)⟩ := by decide +kernel
theorem pd14 : parseMethodDescriptor "([BB)V" = some ⟨[(.array .byte), .byte], none⟩ := by decide +kernel
theorem pd15 : parseMethodDescriptor "(III)V" = some ⟨[.int, .int, .int], none⟩ := by decide +kernel
theorem pd16 : parseMethodDescriptor "([BII)Ljava/lang/String;" = some ⟨[(.array .byte), .int, .int], some (.object "java/lang/String")⟩ := by decide +kernel
theorem pd17 : parseMethodDescriptor "(II)Ljava/lang/String;" = some ⟨[.int, .int], some (.object "java/lang/String")⟩ := by decide +kernel
theorem pd18 : parseMethodDescriptor "(I)I" = some ⟨[.int], some .int⟩ := by decide +kernel
theorem pd19 : parseMethodDescriptor "(II)Ljava/lang/CharSequence;" = some ⟨[.int, .int], some (.object "java/lang/CharSequence")⟩ := by decide +kernel
theorem pd20 : parseMethodDescriptor "()Ljava/lang/String;" = some ⟨[], some (.object "java/lang/String")⟩ := by decide +kernel
theorem pd21 : parseMethodDescriptor "(Ljava/lang/CharSequence;)V" = some ⟨[(.object "java/lang/CharSequence")], none⟩ := by decide +kernel
theorem pd22 : parseMethodDescriptor "([C)V" = some ⟨[(.array .char)], none⟩ := by decide +kernel
theorem pd23 : parseMethodDescriptor "(C)I" = some ⟨[.char], some .int⟩ := by decide +kernel
theorem d_jdk_29_method_69_code_0 : decode jdk_29_method_69_code 0 = .ok (.iload_n 0, 1) := by decide +kernel
theorem d_jdk_29_method_69_code_1 : decode jdk_29_method_69_code 1 = .ok (.iload_n 1, 1) := by decide +kernel
theorem d_jdk_29_method_69_code_2 : decode jdk_29_method_69_code 2 = .ok (.if_icmp .gt 7, 3) := by decide +kernel
theorem d_jdk_29_method_69_code_5 : decode jdk_29_method_69_code 5 = .ok (.iload_n 0, 1) := by decide +kernel
theorem d_jdk_29_method_69_code_6 : decode jdk_29_method_69_code 6 = .ok (.goto 4, 3) := by decide +kernel
theorem d_jdk_29_method_69_code_9 : decode jdk_29_method_69_code 9 = .ok (.iload_n 1, 1) := by decide +kernel
theorem d_jdk_29_method_69_code_10 : decode jdk_29_method_69_code 10 = .ok (.ireturn, 1) := by decide +kernel
theorem d_jdk_41_method_11_code_0 : decode jdk_41_method_11_code 0 = .ok (.iload_n 0, 1) := by decide +kernel
theorem d_jdk_41_method_11_code_1 : decode jdk_41_method_11_code 1 = .ok (.ifCond .lt 8, 3) := by decide +kernel
theorem d_jdk_41_method_11_code_4 : decode jdk_41_method_11_code 4 = .ok (.iload_n 0, 1) := by decide +kernel
theorem d_jdk_41_method_11_code_5 : decode jdk_41_method_11_code 5 = .ok (.iload_n 1, 1) := by decide +kernel
theorem d_jdk_41_method_11_code_6 : decode jdk_41_method_11_code 6 = .ok (.if_icmp .lt 10, 3) := by decide +kernel
theorem d_jdk_41_method_11_code_16 : decode jdk_41_method_11_code 16 = .ok (.iload_n 0, 1) := by decide +kernel
theorem d_jdk_41_method_11_code_17 : decode jdk_41_method_11_code 17 = .ok (.ireturn, 1) := by decide +kernel
theorem d_jdk_41_method_12_code_0 : decode jdk_41_method_12_code 0 = .ok (.iload_n 0, 1) := by decide +kernel
theorem d_jdk_41_method_12_code_1 : decode jdk_41_method_12_code 1 = .ok (.ifCond .lt 13, 3) := by decide +kernel
theorem d_jdk_41_method_12_code_4 : decode jdk_41_method_12_code 4 = .ok (.iload_n 0, 1) := by decide +kernel
theorem d_jdk_41_method_12_code_5 : decode jdk_41_method_12_code 5 = .ok (.iload_n 1, 1) := by decide +kernel
theorem d_jdk_41_method_12_code_6 : decode jdk_41_method_12_code 6 = .ok (.if_icmp .gt 8, 3) := by decide +kernel
theorem d_jdk_41_method_12_code_9 : decode jdk_41_method_12_code 9 = .ok (.iload_n 1, 1) := by decide +kernel
theorem d_jdk_41_method_12_code_10 : decode jdk_41_method_12_code 10 = .ok (.iload_n 2, 1) := by decide +kernel
theorem d_jdk_41_method_12_code_11 : decode jdk_41_method_12_code 11 = .ok (.if_icmp .le 11, 3) := by decide +kernel
theorem d_jdk_41_method_12_code_22 : decode jdk_41_method_12_code 22 = .ok (.iload_n 0, 1) := by decide +kernel
theorem d_jdk_41_method_12_code_23 : decode jdk_41_method_12_code 23 = .ok (.ireturn, 1) := by decide +kernel
theorem d_jdk_42_method_126_code_0 : decode jdk_42_method_126_code 0 = .ok (.aload_n 0, 1) := by decide +kernel
theorem d_jdk_42_method_126_code_1 : decode jdk_42_method_126_code 1 = .ok (.areturn, 1) := by decide +kernel
theorem d_jdk_42_method_149_code_0 : decode jdk_42_method_149_code 0 = .ok (.aload_n 0, 1) := by decide +kernel
theorem d_jdk_42_method_149_code_1 : decode jdk_42_method_149_code 1 = .ok (.invokespecial 1, 3) := by decide +kernel
theorem d_jdk_42_method_149_code_4 : decode jdk_42_method_149_code 4 = .ok (.iload_n 3, 1) := by decide +kernel
theorem d_jdk_42_method_149_code_5 : decode jdk_42_method_149_code 5 = .ok (.ifCond .ne 22, 3) := by decide +kernel
theorem d_jdk_42_method_149_code_8 : decode jdk_42_method_149_code 8 = .ok (.aload_n 0, 1) := by decide +kernel
theorem d_jdk_42_method_149_code_9 : decode jdk_42_method_149_code 9 = .ok (.ldc 7, 2) := by decide +kernel
theorem d_jdk_42_method_149_code_11 : decode jdk_42_method_149_code 11 = .ok (.getfield 9, 3) := by decide +kernel
theorem d_jdk_42_method_149_code_14 : decode jdk_42_method_149_code 14 = .ok (.putfield 9, 3) := by decide +kernel
theorem d_jdk_42_method_149_code_17 : decode jdk_42_method_149_code 17 = .ok (.aload_n 0, 1) := by decide +kernel
theorem d_jdk_42_method_149_code_18 : decode jdk_42_method_149_code 18 = .ok (.ldc 7, 2) := by decide +kernel
theorem d_jdk_42_method_149_code_20 : decode jdk_42_method_149_code 20 = .ok (.getfield 15, 3) := by decide +kernel
theorem d_jdk_42_method_149_code_23 : decode jdk_42_method_149_code 23 = .ok (.putfield 15, 3) := by decide +kernel
theorem d_jdk_42_method_149_code_26 : decode jdk_42_method_149_code 26 = .ok (.return_, 1) := by decide +kernel
theorem d_jdk_42_method_149_code_27 : decode jdk_42_method_149_code 27 = .ok (.getstatic 38, 3) := by decide +kernel
theorem d_jdk_42_method_149_code_30 : decode jdk_42_method_149_code 30 = .ok (.ifCond .eq 28, 3) := by decide +kernel
theorem d_jdk_42_method_149_code_33 : decode jdk_42_method_149_code 33 = .ok (.aload_n 1, 1) := by decide +kernel
theorem d_jdk_42_method_149_code_34 : decode jdk_42_method_149_code 34 = .ok (.iload_n 2, 1) := by decide +kernel
theorem d_jdk_42_method_149_code_35 : decode jdk_42_method_149_code 35 = .ok (.iload_n 3, 1) := by decide +kernel
theorem d_jdk_42_method_149_code_36 : decode jdk_42_method_149_code 36 = .ok (.invokestatic 177, 3) := by decide +kernel
theorem d_jdk_42_method_149_code_39 : decode jdk_42_method_149_code 39 = .ok (.astore 5, 2) := by decide +kernel
theorem d_jdk_42_method_149_code_41 : decode jdk_42_method_149_code 41 = .ok (.aload_n 0, 1) := by decide +kernel
theorem d_jdk_42_method_149_code_42 : decode jdk_42_method_149_code 42 = .ok (.aload 5, 2) := by decide +kernel
theorem d_jdk_42_method_149_code_44 : decode jdk_42_method_149_code 44 = .ok (.iload_n 3, 1) := by decide +kernel
theorem d_jdk_42_method_149_code_45 : decode jdk_42_method_149_code 45 = .ok (.invokestatic 47, 3) := by decide +kernel
theorem d_jdk_42_method_149_code_48 : decode jdk_42_method_149_code 48 = .ok (.putfield 15, 3) := by decide +kernel
theorem d_jdk_42_method_149_code_51 : decode jdk_42_method_149_code 51 = .ok (.aload_n 0, 1) := by decide +kernel
theorem d_jdk_42_method_149_code_52 : decode jdk_42_method_149_code 52 = .ok (.aload 5, 2) := by decide +kernel
theorem d_jdk_42_method_149_code_54 : decode jdk_42_method_149_code 54 = .ok (.putfield 9, 3) := by decide +kernel
theorem d_jdk_42_method_149_code_57 : decode jdk_42_method_149_code 57 = .ok (.return_, 1) := by decide +kernel
theorem d_jdk_42_method_151_code_0 : decode jdk_42_method_151_code 0 = .ok (.aload_n 0, 1) := by decide +kernel
theorem d_jdk_42_method_151_code_1 : decode jdk_42_method_151_code 1 = .ok (.invokespecial 1, 3) := by decide +kernel
theorem d_jdk_42_method_151_code_4 : decode jdk_42_method_151_code 4 = .ok (.aload_n 0, 1) := by decide +kernel
theorem d_jdk_42_method_151_code_5 : decode jdk_42_method_151_code 5 = .ok (.aload_n 1, 1) := by decide +kernel
theorem d_jdk_42_method_151_code_6 : decode jdk_42_method_151_code 6 = .ok (.putfield 9, 3) := by decide +kernel
theorem d_jdk_42_method_151_code_9 : decode jdk_42_method_151_code 9 = .ok (.aload_n 0, 1) := by decide +kernel
theorem d_jdk_42_method_151_code_10 : decode jdk_42_method_151_code 10 = .ok (.iload_n 2, 1) := by decide +kernel
theorem d_jdk_42_method_151_code_11 : decode jdk_42_method_151_code 11 = .ok (.putfield 15, 3) := by decide +kernel
theorem d_jdk_42_method_151_code_14 : decode jdk_42_method_151_code 14 = .ok (.return_, 1) := by decide +kernel
theorem d_jdk_42_method_152_code_0 : decode jdk_42_method_152_code 0 = .ok (.getstatic 38, 3) := by decide +kernel
theorem d_jdk_42_method_152_code_3 : decode jdk_42_method_152_code 3 = .ok (.ifCond .eq 10, 3) := by decide +kernel
theorem d_jdk_42_method_152_code_6 : decode jdk_42_method_152_code 6 = .ok (.aload_n 0, 1) := by decide +kernel
theorem d_jdk_42_method_152_code_7 : decode jdk_42_method_152_code 7 = .ok (.getfield 15, 3) := by decide +kernel
theorem d_jdk_42_method_152_code_10 : decode jdk_42_method_152_code 10 = .ok (.goto 4, 3) := by decide +kernel
theorem d_jdk_42_method_152_code_14 : decode jdk_42_method_152_code 14 = .ok (.ireturn, 1) := by decide +kernel
theorem d_jdk_42_method_154_code_0 : decode jdk_42_method_154_code 0 = .ok (.getstatic 38, 3) := by decide +kernel
theorem d_jdk_42_method_154_code_3 : decode jdk_42_method_154_code 3 = .ok (.ifCond .eq 14, 3) := by decide +kernel
theorem d_jdk_42_method_154_code_6 : decode jdk_42_method_154_code 6 = .ok (.aload_n 0, 1) := by decide +kernel
theorem d_jdk_42_method_154_code_7 : decode jdk_42_method_154_code 7 = .ok (.getfield 15, 3) := by decide +kernel
theorem d_jdk_42_method_154_code_10 : decode jdk_42_method_154_code 10 = .ok (.ifCond .ne 7, 3) := by decide +kernel
theorem d_jdk_42_method_154_code_13 : decode jdk_42_method_154_code 13 = .ok (.iconst 1, 1) := by decide +kernel
theorem d_jdk_42_method_154_code_14 : decode jdk_42_method_154_code 14 = .ok (.goto 4, 3) := by decide +kernel
theorem d_jdk_42_method_154_code_18 : decode jdk_42_method_154_code 18 = .ok (.ireturn, 1) := by decide +kernel
theorem d_jdk_42_method_155_code_0 : decode jdk_42_method_155_code 0 = .ok (.iload_n 0, 1) := by decide +kernel
theorem d_jdk_42_method_155_code_1 : decode jdk_42_method_155_code 1 = .ok (.iload_n 1, 1) := by decide +kernel
theorem d_jdk_42_method_155_code_2 : decode jdk_42_method_155_code 2 = .ok (.getstatic 1053, 3) := by decide +kernel
theorem d_jdk_42_method_155_code_5 : decode jdk_42_method_155_code 5 = .ok (.invokestatic 1059, 3) := by decide +kernel
theorem d_jdk_42_method_155_code_8 : decode jdk_42_method_155_code 8 = .ok (.pop, 1) := by decide +kernel
theorem d_jdk_42_method_155_code_9 : decode jdk_42_method_155_code 9 = .ok (.return_, 1) := by decide +kernel
theorem d_jdk_42_method_158_code_0 : decode jdk_42_method_158_code 0 = .ok (.iload_n 0, 1) := by decide +kernel
theorem d_jdk_42_method_158_code_1 : decode jdk_42_method_158_code 1 = .ok (.iload_n 1, 1) := by decide +kernel
theorem d_jdk_42_method_158_code_2 : decode jdk_42_method_158_code 2 = .ok (.iload_n 2, 1) := by decide +kernel
theorem d_jdk_42_method_158_code_3 : decode jdk_42_method_158_code 3 = .ok (.getstatic 1053, 3) := by decide +kernel
theorem d_jdk_42_method_158_code_6 : decode jdk_42_method_158_code 6 = .ok (.invokestatic 1062, 3) := by decide +kernel
theorem d_jdk_42_method_158_code_9 : decode jdk_42_method_158_code 9 = .ok (.pop, 1) := by decide +kernel
theorem d_jdk_42_method_158_code_10 : decode jdk_42_method_158_code 10 = .ok (.return_, 1) := by decide +kernel
theorem d_jdk_42_method_3_code_0 : decode jdk_42_method_3_code 0 = .ok (.aload_n 0, 1) := by decide +kernel
theorem d_jdk_42_method_3_code_1 : decode jdk_42_method_3_code 1 = .ok (.aload_n 1, 1) := by decide +kernel
theorem d_jdk_42_method_3_code_2 : decode jdk_42_method_3_code 2 = .ok (.iconst 0, 1) := by decide +kernel
theorem d_jdk_42_method_3_code_3 : decode jdk_42_method_3_code 3 = .ok (.aload_n 1, 1) := by decide +kernel
theorem d_jdk_42_method_3_code_4 : decode jdk_42_method_3_code 4 = .ok (.arraylength, 1) := by decide +kernel
theorem d_jdk_42_method_3_code_5 : decode jdk_42_method_3_code 5 = .ok (.aconst_null, 1) := by decide +kernel
theorem d_jdk_42_method_3_code_6 : decode jdk_42_method_3_code 6 = .ok (.invokespecial 27, 3) := by decide +kernel
theorem d_jdk_42_method_3_code_9 : decode jdk_42_method_3_code 9 = .ok (.return_, 1) := by decide +kernel
theorem d_jdk_42_method_54_code_0 : decode jdk_42_method_54_code 0 = .ok (.aload_n 0, 1) := by decide +kernel
theorem d_jdk_42_method_54_code_1 : decode jdk_42_method_54_code 1 = .ok (.getfield 9, 3) := by decide +kernel
theorem d_jdk_42_method_54_code_4 : decode jdk_42_method_54_code 4 = .ok (.arraylength, 1) := by decide +kernel
theorem d_jdk_42_method_54_code_5 : decode jdk_42_method_54_code 5 = .ok (.aload_n 0, 1) := by decide +kernel
theorem d_jdk_42_method_54_code_6 : decode jdk_42_method_54_code 6 = .ok (.invokevirtual 335, 3) := by decide +kernel
theorem d_jdk_42_method_54_code_9 : decode jdk_42_method_54_code 9 = .ok (.ishr, 1) := by decide +kernel
theorem d_jdk_42_method_54_code_10 : decode jdk_42_method_54_code 10 = .ok (.ireturn, 1) := by decide +kernel
theorem d_jdk_42_method_56_code_0 : decode jdk_42_method_56_code 0 = .ok (.aload_n 0, 1) := by decide +kernel
theorem d_jdk_42_method_56_code_1 : decode jdk_42_method_56_code 1 = .ok (.invokevirtual 492, 3) := by decide +kernel
theorem d_jdk_42_method_56_code_4 : decode jdk_42_method_56_code 4 = .ok (.ifCond .eq 12, 3) := by decide +kernel
theorem d_jdk_42_method_56_code_7 : decode jdk_42_method_56_code 7 = .ok (.aload_n 0, 1) := by decide +kernel
theorem d_jdk_42_method_56_code_8 : decode jdk_42_method_56_code 8 = .ok (.getfield 9, 3) := by decide +kernel
theorem d_jdk_42_method_56_code_11 : decode jdk_42_method_56_code 11 = .ok (.iload_n 1, 1) := by decide +kernel
theorem d_jdk_42_method_56_code_12 : decode jdk_42_method_56_code 12 = .ok (.invokestatic 495, 3) := by decide +kernel
theorem d_jdk_42_method_56_code_15 : decode jdk_42_method_56_code 15 = .ok (.ireturn, 1) := by decide +kernel
theorem d_jdk_42_method_92_code_0 : decode jdk_42_method_92_code 0 = .ok (.aload_n 0, 1) := by decide +kernel
theorem d_jdk_42_method_92_code_1 : decode jdk_42_method_92_code 1 = .ok (.invokevirtual 505, 3) := by decide +kernel
theorem d_jdk_42_method_92_code_4 : decode jdk_42_method_92_code 4 = .ok (.istore_n 3, 1) := by decide +kernel
theorem d_jdk_42_method_92_code_5 : decode jdk_42_method_92_code 5 = .ok (.iload_n 1, 1) := by decide +kernel
theorem d_jdk_42_method_92_code_6 : decode jdk_42_method_92_code 6 = .ok (.iload_n 2, 1) := by decide +kernel
theorem d_jdk_42_method_92_code_7 : decode jdk_42_method_92_code 7 = .ok (.iload_n 3, 1) := by decide +kernel
theorem d_jdk_42_method_92_code_8 : decode jdk_42_method_92_code 8 = .ok (.invokestatic 521, 3) := by decide +kernel
theorem d_jdk_42_method_92_code_11 : decode jdk_42_method_92_code 11 = .ok (.iload_n 1, 1) := by decide +kernel
theorem d_jdk_42_method_92_code_12 : decode jdk_42_method_92_code 12 = .ok (.ifCond .ne 10, 3) := by decide +kernel
theorem d_jdk_42_method_92_code_15 : decode jdk_42_method_92_code 15 = .ok (.iload_n 2, 1) := by decide +kernel
theorem d_jdk_42_method_92_code_16 : decode jdk_42_method_92_code 16 = .ok (.iload_n 3, 1) := by decide +kernel
theorem d_jdk_42_method_92_code_17 : decode jdk_42_method_92_code 17 = .ok (.if_icmp .ne 5, 3) := by decide +kernel
theorem d_jdk_42_method_92_code_20 : decode jdk_42_method_92_code 20 = .ok (.aload_n 0, 1) := by decide +kernel
theorem d_jdk_42_method_92_code_21 : decode jdk_42_method_92_code 21 = .ok (.areturn, 1) := by decide +kernel
theorem d_jdk_42_method_92_code_22 : decode jdk_42_method_92_code 22 = .ok (.iload_n 2, 1) := by decide +kernel
theorem d_jdk_42_method_92_code_23 : decode jdk_42_method_92_code 23 = .ok (.iload_n 1, 1) := by decide +kernel
theorem d_jdk_42_method_92_code_24 : decode jdk_42_method_92_code 24 = .ok (.isub, 1) := by decide +kernel
theorem d_jdk_42_method_92_code_25 : decode jdk_42_method_92_code 25 = .ok (.istore 4, 2) := by decide +kernel
theorem d_jdk_42_method_92_code_27 : decode jdk_42_method_92_code 27 = .ok (.aload_n 0, 1) := by decide +kernel
theorem d_jdk_42_method_92_code_28 : decode jdk_42_method_92_code 28 = .ok (.invokevirtual 492, 3) := by decide +kernel
theorem d_jdk_42_method_92_code_31 : decode jdk_42_method_92_code 31 = .ok (.ifCond .eq 16, 3) := by decide +kernel
theorem d_jdk_42_method_92_code_34 : decode jdk_42_method_92_code 34 = .ok (.aload_n 0, 1) := by decide +kernel
theorem d_jdk_42_method_92_code_35 : decode jdk_42_method_92_code 35 = .ok (.getfield 9, 3) := by decide +kernel
theorem d_jdk_42_method_92_code_38 : decode jdk_42_method_92_code 38 = .ok (.iload_n 1, 1) := by decide +kernel
theorem d_jdk_42_method_92_code_39 : decode jdk_42_method_92_code 39 = .ok (.iload 4, 2) := by decide +kernel
theorem d_jdk_42_method_92_code_41 : decode jdk_42_method_92_code 41 = .ok (.invokestatic 685, 3) := by decide +kernel
theorem d_jdk_42_method_92_code_44 : decode jdk_42_method_92_code 44 = .ok (.goto 13, 3) := by decide +kernel
theorem d_jdk_42_method_92_code_57 : decode jdk_42_method_92_code 57 = .ok (.areturn, 1) := by decide +kernel
theorem d_jdk_42_method_93_code_0 : decode jdk_42_method_93_code 0 = .ok (.aload_n 0, 1) := by decide +kernel
theorem d_jdk_42_method_93_code_1 : decode jdk_42_method_93_code 1 = .ok (.iload_n 1, 1) := by decide +kernel
theorem d_jdk_42_method_93_code_2 : decode jdk_42_method_93_code 2 = .ok (.iload_n 2, 1) := by decide +kernel
theorem d_jdk_42_method_93_code_3 : decode jdk_42_method_93_code 3 = .ok (.invokevirtual 681, 3) := by decide +kernel
theorem d_jdk_42_method_93_code_6 : decode jdk_42_method_93_code 6 = .ok (.areturn, 1) := by decide +kernel
theorem d_jdk_43_method_2_code_0 : decode jdk_43_method_2_code 0 = .ok (.iload_n 1, 1) := by decide +kernel
theorem d_jdk_43_method_2_code_1 : decode jdk_43_method_2_code 1 = .ok (.aload_n 0, 1) := by decide +kernel
theorem d_jdk_43_method_2_code_2 : decode jdk_43_method_2_code 2 = .ok (.arraylength, 1) := by decide +kernel
theorem d_jdk_43_method_2_code_3 : decode jdk_43_method_2_code 3 = .ok (.invokestatic 9, 3) := by decide +kernel
theorem d_jdk_43_method_2_code_6 : decode jdk_43_method_2_code 6 = .ok (.aload_n 0, 1) := by decide +kernel
theorem d_jdk_43_method_2_code_7 : decode jdk_43_method_2_code 7 = .ok (.iload_n 1, 1) := by decide +kernel
theorem d_jdk_43_method_2_code_8 : decode jdk_43_method_2_code 8 = .ok (.baload, 1) := by decide +kernel
theorem d_jdk_43_method_2_code_9 : decode jdk_43_method_2_code 9 = .ok (.sipush 255, 3) := by decide +kernel
theorem d_jdk_43_method_2_code_12 : decode jdk_43_method_2_code 12 = .ok (.iand, 1) := by decide +kernel
theorem d_jdk_43_method_2_code_13 : decode jdk_43_method_2_code 13 = .ok (.i2c, 1) := by decide +kernel
theorem d_jdk_43_method_2_code_14 : decode jdk_43_method_2_code 14 = .ok (.ireturn, 1) := by decide +kernel
theorem d_jdk_43_method_47_code_0 : decode jdk_43_method_47_code 0 = .ok (.iload_n 2, 1) := by decide +kernel
theorem d_jdk_43_method_47_code_1 : decode jdk_43_method_47_code 1 = .ok (.ifCond .ne 6, 3) := by decide +kernel
theorem d_jdk_43_method_47_code_4 : decode jdk_43_method_47_code 4 = .ok (.ldc 151, 2) := by decide +kernel
theorem d_jdk_43_method_47_code_6 : decode jdk_43_method_47_code 6 = .ok (.areturn, 1) := by decide +kernel
theorem d_jdk_43_method_47_code_7 : decode jdk_43_method_47_code 7 = .ok (.new 1, 3) := by decide +kernel
theorem d_jdk_43_method_47_code_10 : decode jdk_43_method_47_code 10 = .ok (.dup, 1) := by decide +kernel
theorem d_jdk_43_method_47_code_11 : decode jdk_43_method_47_code 11 = .ok (.aload_n 0, 1) := by decide +kernel
theorem d_jdk_43_method_47_code_12 : decode jdk_43_method_47_code 12 = .ok (.iload_n 1, 1) := by decide +kernel
theorem d_jdk_43_method_47_code_13 : decode jdk_43_method_47_code 13 = .ok (.iload_n 1, 1) := by decide +kernel
theorem d_jdk_43_method_47_code_14 : decode jdk_43_method_47_code 14 = .ok (.iload_n 2, 1) := by decide +kernel
theorem d_jdk_43_method_47_code_15 : decode jdk_43_method_47_code 15 = .ok (.iadd, 1) := by decide +kernel
theorem d_jdk_43_method_47_code_16 : decode jdk_43_method_47_code 16 = .ok (.invokestatic 232, 3) := by decide +kernel
theorem d_jdk_43_method_47_code_19 : decode jdk_43_method_47_code 19 = .ok (.iconst 0, 1) := by decide +kernel
theorem d_jdk_43_method_47_code_20 : decode jdk_43_method_47_code 20 = .ok (.invokespecial 112, 3) := by decide +kernel
theorem d_jdk_43_method_47_code_23 : decode jdk_43_method_47_code 23 = .ok (.areturn, 1) := by decide +kernel
theorem d_jdk_52_method_15_code_0 : decode jdk_52_method_15_code 0 = .ok (.iload_n 1, 1) := by decide +kernel
theorem d_jdk_52_method_15_code_1 : decode jdk_52_method_15_code 1 = .ok (.aload_n 0, 1) := by decide +kernel
theorem d_jdk_52_method_15_code_2 : decode jdk_52_method_15_code 2 = .ok (.arraylength, 1) := by decide +kernel
theorem d_jdk_52_method_15_code_3 : decode jdk_52_method_15_code 3 = .ok (.isub, 1) := by decide +kernel
theorem d_jdk_52_method_15_code_4 : decode jdk_52_method_15_code 4 = .ok (.bipush 31, 2) := by decide +kernel
theorem d_jdk_52_method_15_code_6 : decode jdk_52_method_15_code 6 = .ok (.iushr, 1) := by decide +kernel
theorem d_jdk_52_method_15_code_7 : decode jdk_52_method_15_code 7 = .ok (.i2b, 1) := by decide +kernel
theorem d_jdk_52_method_15_code_8 : decode jdk_52_method_15_code 8 = .ok (.ireturn, 1) := by decide +kernel
theorem d_jdk_52_method_16_code_0 : decode jdk_52_method_16_code 0 = .ok (.iload_n 2, 1) := by decide +kernel
theorem d_jdk_52_method_16_code_1 : decode jdk_52_method_16_code 1 = .ok (.newarray .byte, 2) := by decide +kernel
theorem d_jdk_52_method_16_code_3 : decode jdk_52_method_16_code 3 = .ok (.astore_n 3, 1) := by decide +kernel
theorem d_jdk_52_method_16_code_4 : decode jdk_52_method_16_code 4 = .ok (.aload_n 0, 1) := by decide +kernel
theorem d_jdk_52_method_16_code_5 : decode jdk_52_method_16_code 5 = .ok (.iload_n 1, 1) := by decide +kernel
theorem d_jdk_52_method_16_code_6 : decode jdk_52_method_16_code 6 = .ok (.aload_n 3, 1) := by decide +kernel
theorem d_jdk_52_method_16_code_7 : decode jdk_52_method_16_code 7 = .ok (.iconst 0, 1) := by decide +kernel
theorem d_jdk_52_method_16_code_8 : decode jdk_52_method_16_code 8 = .ok (.iload_n 2, 1) := by decide +kernel
theorem d_jdk_52_method_16_code_9 : decode jdk_52_method_16_code 9 = .ok (.invokestatic 115, 3) := by decide +kernel
theorem d_jdk_52_method_16_code_12 : decode jdk_52_method_16_code 12 = .ok (.istore 4, 2) := by decide +kernel
theorem d_jdk_52_method_16_code_14 : decode jdk_52_method_16_code 14 = .ok (.iload 4, 2) := by decide +kernel
theorem d_jdk_52_method_16_code_16 : decode jdk_52_method_16_code 16 = .ok (.iload_n 2, 1) := by decide +kernel
theorem d_jdk_52_method_16_code_17 : decode jdk_52_method_16_code 17 = .ok (.if_icmp .eq 40, 3) := by decide +kernel
theorem d_jdk_52_method_16_code_57 : decode jdk_52_method_16_code 57 = .ok (.aload_n 3, 1) := by decide +kernel
theorem d_jdk_52_method_16_code_58 : decode jdk_52_method_16_code 58 = .ok (.areturn, 1) := by decide +kernel
theorem d_jdk_52_method_21_code_0 : decode jdk_52_method_21_code 0 = .ok (.iconst 0, 1) := by decide +kernel
theorem d_jdk_52_method_21_code_1 : decode jdk_52_method_21_code 1 = .ok (.istore 5, 2) := by decide +kernel
theorem d_jdk_52_method_21_code_3 : decode jdk_52_method_21_code 3 = .ok (.iload 5, 2) := by decide +kernel
theorem d_jdk_52_method_21_code_5 : decode jdk_52_method_21_code 5 = .ok (.iload 4, 2) := by decide +kernel
theorem d_jdk_52_method_21_code_7 : decode jdk_52_method_21_code 7 = .ok (.if_icmp .ge 37, 3) := by decide +kernel
theorem d_jdk_52_method_21_code_10 : decode jdk_52_method_21_code 10 = .ok (.aload_n 0, 1) := by decide +kernel
theorem d_jdk_52_method_21_code_11 : decode jdk_52_method_21_code 11 = .ok (.iload_n 1, 1) := by decide +kernel
theorem d_jdk_52_method_21_code_12 : decode jdk_52_method_21_code 12 = .ok (.caload, 1) := by decide +kernel
theorem d_jdk_52_method_21_code_13 : decode jdk_52_method_21_code 13 = .ok (.istore 6, 2) := by decide +kernel
theorem d_jdk_52_method_21_code_15 : decode jdk_52_method_21_code 15 = .ok (.iload 6, 2) := by decide +kernel
theorem d_jdk_52_method_21_code_17 : decode jdk_52_method_21_code 17 = .ok (.sipush 255, 3) := by decide +kernel
theorem d_jdk_52_method_21_code_20 : decode jdk_52_method_21_code 20 = .ok (.if_icmp .le 6, 3) := by decide +kernel
theorem d_jdk_52_method_21_code_26 : decode jdk_52_method_21_code 26 = .ok (.aload_n 2, 1) := by decide +kernel
theorem d_jdk_52_method_21_code_27 : decode jdk_52_method_21_code 27 = .ok (.iload_n 3, 1) := by decide +kernel
theorem d_jdk_52_method_21_code_28 : decode jdk_52_method_21_code 28 = .ok (.iload 6, 2) := by decide +kernel
theorem d_jdk_52_method_21_code_30 : decode jdk_52_method_21_code 30 = .ok (.i2b, 1) := by decide +kernel
theorem d_jdk_52_method_21_code_31 : decode jdk_52_method_21_code 31 = .ok (.bastore, 1) := by decide +kernel
theorem d_jdk_52_method_21_code_32 : decode jdk_52_method_21_code 32 = .ok (.iinc 1 1, 3) := by decide +kernel
theorem d_jdk_52_method_21_code_35 : decode jdk_52_method_21_code 35 = .ok (.iinc 3 1, 3) := by decide +kernel
theorem d_jdk_52_method_21_code_38 : decode jdk_52_method_21_code 38 = .ok (.iinc 5 1, 3) := by decide +kernel
theorem d_jdk_52_method_21_code_41 : decode jdk_52_method_21_code 41 = .ok (.goto (-38), 3) := by decide +kernel
theorem d_jdk_52_method_21_code_44 : decode jdk_52_method_21_code 44 = .ok (.iload 4, 2) := by decide +kernel
theorem d_jdk_52_method_21_code_46 : decode jdk_52_method_21_code 46 = .ok (.ireturn, 1) := by decide +kernel
theorem d_jdk_65_method_131_code_0 : decode jdk_65_method_131_code 0 = .ok (.iload_n 1, 1) := by decide +kernel
theorem d_jdk_65_method_131_code_1 : decode jdk_65_method_131_code 1 = .ok (.iload_n 0, 1) := by decide +kernel
theorem d_jdk_65_method_131_code_2 : decode jdk_65_method_131_code 2 = .ok (.if_icmp .ge 35, 3) := by decide +kernel
theorem d_jdk_65_method_131_code_37 : decode jdk_65_method_131_code 37 = .ok (.return_, 1) := by decide +kernel
theorem d_jdk_65_method_132_code_0 : decode jdk_65_method_132_code 0 = .ok (.iload_n 1, 1) := by decide +kernel
theorem d_jdk_65_method_132_code_1 : decode jdk_65_method_132_code 1 = .ok (.ifCond .ne 9, 3) := by decide +kernel
theorem d_jdk_65_method_132_code_4 : decode jdk_65_method_132_code 4 = .ok (.iload_n 2, 1) := by decide +kernel
theorem d_jdk_65_method_132_code_5 : decode jdk_65_method_132_code 5 = .ok (.aload_n 0, 1) := by decide +kernel
theorem d_jdk_65_method_132_code_6 : decode jdk_65_method_132_code 6 = .ok (.arraylength, 1) := by decide +kernel
theorem d_jdk_65_method_132_code_7 : decode jdk_65_method_132_code 7 = .ok (.if_icmp .eq 10, 3) := by decide +kernel
theorem d_jdk_65_method_132_code_10 : decode jdk_65_method_132_code 10 = .ok (.aload_n 0, 1) := by decide +kernel
theorem d_jdk_65_method_132_code_11 : decode jdk_65_method_132_code 11 = .ok (.iload_n 1, 1) := by decide +kernel
theorem d_jdk_65_method_132_code_12 : decode jdk_65_method_132_code 12 = .ok (.iload_n 2, 1) := by decide +kernel
theorem d_jdk_65_method_132_code_13 : decode jdk_65_method_132_code 13 = .ok (.invokestatic 339, 3) := by decide +kernel
theorem d_jdk_65_method_132_code_16 : decode jdk_65_method_132_code 16 = .ok (.areturn, 1) := by decide +kernel
theorem d_jdk_65_method_133_code_0 : decode jdk_65_method_133_code 0 = .ok (.iload_n 1, 1) := by decide +kernel
theorem d_jdk_65_method_133_code_1 : decode jdk_65_method_133_code 1 = .ok (.iload_n 2, 1) := by decide +kernel
theorem d_jdk_65_method_133_code_2 : decode jdk_65_method_133_code 2 = .ok (.invokestatic 343, 3) := by decide +kernel
theorem d_jdk_65_method_133_code_5 : decode jdk_65_method_133_code 5 = .ok (.iload_n 2, 1) := by decide +kernel
theorem d_jdk_65_method_133_code_6 : decode jdk_65_method_133_code 6 = .ok (.iload_n 1, 1) := by decide +kernel
theorem d_jdk_65_method_133_code_7 : decode jdk_65_method_133_code 7 = .ok (.isub, 1) := by decide +kernel
theorem d_jdk_65_method_133_code_8 : decode jdk_65_method_133_code 8 = .ok (.istore_n 3, 1) := by decide +kernel
theorem d_jdk_65_method_133_code_9 : decode jdk_65_method_133_code 9 = .ok (.iload_n 3, 1) := by decide +kernel
theorem d_jdk_65_method_133_code_10 : decode jdk_65_method_133_code 10 = .ok (.newarray .byte, 2) := by decide +kernel
theorem d_jdk_65_method_133_code_12 : decode jdk_65_method_133_code 12 = .ok (.astore 4, 2) := by decide +kernel
theorem d_jdk_65_method_133_code_14 : decode jdk_65_method_133_code 14 = .ok (.aload_n 0, 1) := by decide +kernel
theorem d_jdk_65_method_133_code_15 : decode jdk_65_method_133_code 15 = .ok (.iload_n 1, 1) := by decide +kernel
theorem d_jdk_65_method_133_code_16 : decode jdk_65_method_133_code 16 = .ok (.aload 4, 2) := by decide +kernel
theorem d_jdk_65_method_133_code_18 : decode jdk_65_method_133_code 18 = .ok (.iconst 0, 1) := by decide +kernel
theorem d_jdk_65_method_133_code_19 : decode jdk_65_method_133_code 19 = .ok (.aload_n 0, 1) := by decide +kernel
theorem d_jdk_65_method_133_code_20 : decode jdk_65_method_133_code 20 = .ok (.arraylength, 1) := by decide +kernel
theorem d_jdk_65_method_133_code_21 : decode jdk_65_method_133_code 21 = .ok (.iload_n 1, 1) := by decide +kernel
theorem d_jdk_65_method_133_code_22 : decode jdk_65_method_133_code 22 = .ok (.isub, 1) := by decide +kernel
theorem d_jdk_65_method_133_code_23 : decode jdk_65_method_133_code 23 = .ok (.iload_n 3, 1) := by decide +kernel
theorem d_jdk_65_method_133_code_24 : decode jdk_65_method_133_code 24 = .ok (.invokestatic 304, 3) := by decide +kernel
theorem d_jdk_65_method_133_code_27 : decode jdk_65_method_133_code 27 = .ok (.invokestatic 150, 3) := by decide +kernel
theorem d_jdk_65_method_133_code_30 : decode jdk_65_method_133_code 30 = .ok (.aload 4, 2) := by decide +kernel
theorem d_jdk_65_method_133_code_32 : decode jdk_65_method_133_code 32 = .ok (.areturn, 1) := by decide +kernel
theorem d_method_2_code_0 : decode method_2_code 0 = .ok (.iload_n 0, 1) := by decide +kernel
theorem d_method_2_code_1 : decode method_2_code 1 = .ok (.sipush 256, 3) := by decide +kernel
theorem d_method_2_code_4 : decode method_2_code 4 = .ok (.iand, 1) := by decide +kernel
theorem d_method_2_code_5 : decode method_2_code 5 = .ok (.ifCond .eq 8, 3) := by decide +kernel
theorem d_method_2_code_8 : decode method_2_code 8 = .ok (.bipush 32, 2) := by decide +kernel
theorem d_method_2_code_10 : decode method_2_code 10 = .ok (.goto 9, 3) := by decide +kernel
theorem d_method_2_code_13 : decode method_2_code 13 = .ok (.iload_n 0, 1) := by decide +kernel
theorem d_method_2_code_14 : decode method_2_code 14 = .ok (.sipush 255, 3) := by decide +kernel
theorem d_method_2_code_17 : decode method_2_code 17 = .ok (.iand, 1) := by decide +kernel
theorem d_method_2_code_18 : decode method_2_code 18 = .ok (.i2c, 1) := by decide +kernel
theorem d_method_2_code_19 : decode method_2_code 19 = .ok (.ireturn, 1) := by decide +kernel
theorem d_method_3_code_0 : decode method_3_code 0 = .ok (.iload_n 0, 1) := by decide +kernel
theorem d_method_3_code_1 : decode method_3_code 1 = .ok (.bipush 32, 2) := by decide +kernel
theorem d_method_3_code_3 : decode method_3_code 3 = .ok (.if_icmp .ne 7, 3) := by decide +kernel
theorem d_method_3_code_6 : decode method_3_code 6 = .ok (.iconst 1, 1) := by decide +kernel
theorem d_method_3_code_7 : decode method_3_code 7 = .ok (.goto 4, 3) := by decide +kernel
theorem d_method_3_code_10 : decode method_3_code 10 = .ok (.iconst 0, 1) := by decide +kernel
theorem d_method_3_code_11 : decode method_3_code 11 = .ok (.ireturn, 1) := by decide +kernel
theorem d_prog_45_method_1_code_0 : decode prog_45_method_1_code 0 = .ok (.aload_n 0, 1) := by decide +kernel
theorem d_prog_45_method_1_code_1 : decode prog_45_method_1_code 1 = .ok (.invokespecial 1, 3) := by decide +kernel
theorem d_prog_45_method_1_code_4 : decode prog_45_method_1_code 4 = .ok (.aload_n 0, 1) := by decide +kernel
theorem d_prog_45_method_1_code_5 : decode prog_45_method_1_code 5 = .ok (.aload_n 1, 1) := by decide +kernel
theorem d_prog_45_method_1_code_6 : decode prog_45_method_1_code 6 = .ok (.putfield 7, 3) := by decide +kernel
theorem d_prog_45_method_1_code_9 : decode prog_45_method_1_code 9 = .ok (.return_, 1) := by decide +kernel
theorem d_prog_45_method_2_code_0 : decode prog_45_method_2_code 0 = .ok (.aload_n 0, 1) := by decide +kernel
theorem d_prog_45_method_2_code_1 : decode prog_45_method_2_code 1 = .ok (.getfield 13, 3) := by decide +kernel
theorem d_prog_45_method_2_code_4 : decode prog_45_method_2_code 4 = .ok (.ifCond .lt 7, 3) := by decide +kernel
theorem d_prog_45_method_2_code_7 : decode prog_45_method_2_code 7 = .ok (.iconst 1, 1) := by decide +kernel
theorem d_prog_45_method_2_code_8 : decode prog_45_method_2_code 8 = .ok (.goto 4, 3) := by decide +kernel
theorem d_prog_45_method_2_code_11 : decode prog_45_method_2_code 11 = .ok (.iconst 0, 1) := by decide +kernel
theorem d_prog_45_method_2_code_12 : decode prog_45_method_2_code 12 = .ok (.ireturn, 1) := by decide +kernel
theorem d_prog_45_method_3_code_0 : decode prog_45_method_3_code 0 = .ok (.aload_n 0, 1) := by decide +kernel
theorem d_prog_45_method_3_code_1 : decode prog_45_method_3_code 1 = .ok (.invokevirtual 17, 3) := by decide +kernel
theorem d_prog_45_method_3_code_4 : decode prog_45_method_3_code 4 = .ok (.istore_n 1, 1) := by decide +kernel
theorem d_prog_45_method_3_code_5 : decode prog_45_method_3_code 5 = .ok (.aload_n 0, 1) := by decide +kernel
theorem d_prog_45_method_3_code_6 : decode prog_45_method_3_code 6 = .ok (.iload_n 1, 1) := by decide +kernel
theorem d_prog_45_method_3_code_7 : decode prog_45_method_3_code 7 = .ok (.invokevirtual 21, 3) := by decide +kernel
theorem d_prog_45_method_3_code_10 : decode prog_45_method_3_code 10 = .ok (.istore_n 2, 1) := by decide +kernel
theorem d_prog_45_method_3_code_11 : decode prog_45_method_3_code 11 = .ok (.aload_n 0, 1) := by decide +kernel
theorem d_prog_45_method_3_code_12 : decode prog_45_method_3_code 12 = .ok (.iload_n 2, 1) := by decide +kernel
theorem d_prog_45_method_3_code_13 : decode prog_45_method_3_code 13 = .ok (.aload_n 0, 1) := by decide +kernel
theorem d_prog_45_method_3_code_14 : decode prog_45_method_3_code 14 = .ok (.getfield 7, 3) := by decide +kernel
theorem d_prog_45_method_3_code_17 : decode prog_45_method_3_code 17 = .ok (.invokeinterface 25 1, 5) := by decide +kernel
theorem d_prog_45_method_3_code_22 : decode prog_45_method_3_code 22 = .ok (.if_icmp .ge 9, 3) := by decide +kernel
theorem d_prog_45_method_3_code_25 : decode prog_45_method_3_code 25 = .ok (.iload_n 2, 1) := by decide +kernel
theorem d_prog_45_method_3_code_26 : decode prog_45_method_3_code 26 = .ok (.iconst 1, 1) := by decide +kernel
theorem d_prog_45_method_3_code_27 : decode prog_45_method_3_code 27 = .ok (.iadd, 1) := by decide +kernel
theorem d_prog_45_method_3_code_28 : decode prog_45_method_3_code 28 = .ok (.goto 4, 3) := by decide +kernel
theorem d_prog_45_method_3_code_31 : decode prog_45_method_3_code 31 = .ok (.iconst (-1), 1) := by decide +kernel
theorem d_prog_45_method_3_code_32 : decode prog_45_method_3_code 32 = .ok (.putfield 13, 3) := by decide +kernel
theorem d_prog_45_method_3_code_35 : decode prog_45_method_3_code 35 = .ok (.aload_n 0, 1) := by decide +kernel
theorem d_prog_45_method_3_code_36 : decode prog_45_method_3_code 36 = .ok (.getfield 7, 3) := by decide +kernel
theorem d_prog_45_method_3_code_39 : decode prog_45_method_3_code 39 = .ok (.iload_n 1, 1) := by decide +kernel
theorem d_prog_45_method_3_code_40 : decode prog_45_method_3_code 40 = .ok (.iload_n 2, 1) := by decide +kernel
theorem d_prog_45_method_3_code_41 : decode prog_45_method_3_code 41 = .ok (.invokeinterface 30 3, 5) := by decide +kernel
theorem d_prog_45_method_3_code_46 : decode prog_45_method_3_code 46 = .ok (.invokeinterface 34 1, 5) := by decide +kernel
theorem d_prog_45_method_3_code_51 : decode prog_45_method_3_code 51 = .ok (.areturn, 1) := by decide +kernel
theorem d_prog_45_method_5_code_0 : decode prog_45_method_5_code 0 = .ok (.aload_n 0, 1) := by decide +kernel
theorem d_prog_45_method_5_code_1 : decode prog_45_method_5_code 1 = .ok (.getfield 13, 3) := by decide +kernel
theorem d_prog_45_method_5_code_4 : decode prog_45_method_5_code 4 = .ok (.ifCond .ge 13, 3) := by decide +kernel
theorem d_prog_45_method_5_code_17 : decode prog_45_method_5_code 17 = .ok (.aload_n 0, 1) := by decide +kernel
theorem d_prog_45_method_5_code_18 : decode prog_45_method_5_code 18 = .ok (.getfield 13, 3) := by decide +kernel
theorem d_prog_45_method_5_code_21 : decode prog_45_method_5_code 21 = .ok (.ireturn, 1) := by decide +kernel
theorem d_prog_45_method_6_code_0 : decode prog_45_method_6_code 0 = .ok (.iload_n 1, 1) := by decide +kernel
theorem d_prog_45_method_6_code_1 : decode prog_45_method_6_code 1 = .ok (.istore_n 2, 1) := by decide +kernel
theorem d_prog_45_method_6_code_2 : decode prog_45_method_6_code 2 = .ok (.iload_n 2, 1) := by decide +kernel
theorem d_prog_45_method_6_code_3 : decode prog_45_method_6_code 3 = .ok (.aload_n 0, 1) := by decide +kernel
theorem d_prog_45_method_6_code_4 : decode prog_45_method_6_code 4 = .ok (.getfield 7, 3) := by decide +kernel
theorem d_prog_45_method_6_code_7 : decode prog_45_method_6_code 7 = .ok (.invokeinterface 25 1, 5) := by decide +kernel
theorem d_prog_45_method_6_code_12 : decode prog_45_method_6_code 12 = .ok (.if_icmp .ge 24, 3) := by decide +kernel
theorem d_prog_45_method_6_code_15 : decode prog_45_method_6_code 15 = .ok (.aload_n 0, 1) := by decide +kernel
theorem d_prog_45_method_6_code_16 : decode prog_45_method_6_code 16 = .ok (.getfield 7, 3) := by decide +kernel
theorem d_prog_45_method_6_code_19 : decode prog_45_method_6_code 19 = .ok (.iload_n 2, 1) := by decide +kernel
theorem d_prog_45_method_6_code_20 : decode prog_45_method_6_code 20 = .ok (.invokeinterface 52 2, 5) := by decide +kernel
theorem d_prog_45_method_6_code_25 : decode prog_45_method_6_code 25 = .ok (.bipush 32, 2) := by decide +kernel
theorem d_prog_45_method_6_code_27 : decode prog_45_method_6_code 27 = .ok (.if_icmp .eq 9, 3) := by decide +kernel
theorem d_prog_45_method_6_code_30 : decode prog_45_method_6_code 30 = .ok (.iinc 2 1, 3) := by decide +kernel
theorem d_prog_45_method_6_code_33 : decode prog_45_method_6_code 33 = .ok (.goto (-31), 3) := by decide +kernel
theorem d_prog_45_method_6_code_36 : decode prog_45_method_6_code 36 = .ok (.iload_n 2, 1) := by decide +kernel
theorem d_prog_45_method_6_code_37 : decode prog_45_method_6_code 37 = .ok (.ireturn, 1) := by decide +kernel
theorem own_toInt {i : Nat} (h : i < 2147483648) : i.toInt32.toInt = i := len_toInt (by omega)
theorem own_clamp {i : Nat} (h : i < 2147483648) : i.toInt32.toNatClampNeg = i := by
  simp only [Int32.toNatClampNeg]
  rw [own_toInt h]
  omega
theorem own_ltn {i n : Nat} (hi : i < 2147483648) (hn : n < 2147483648) : i.toInt32 < n.toInt32 ↔ i < n := by
  rw [Int32.lt_iff_toInt_lt, own_toInt hi, own_toInt hn]
  omega
theorem own_inb {i n : Nat} (h : i < n) (hn : n < 2147483648) : ¬ i.toInt32 < 0 ∧ i.toInt32 < n.toInt32 := by
  refine ⟨?_, (own_ltn (by omega) hn).mpr h⟩
  rw [Int32.lt_iff_toInt_lt, own_toInt (by omega)]
  have e0 : (0 : Int32).toInt = 0 := rfl
  omega
theorem own_incN {i : Nat} (h : i < 2147483647) : i.toInt32 + 1 = (i + 1).toInt32 := by
  rw [← Int32.toInt_inj, own_toInt (i := i + 1) (by omega)]
  have a := c_iadd i.toInt32 1
  have r := rng32 (i.toInt32 + 1)
  have e1 : (1 : Int32).toInt = 1 := rfl
  rw [own_toInt (i := i) (by omega), e1] at a
  omega
theorem own_getD (bs : List Int32) (i : Nat) : (bs.map Value.int).getD i (.int 0) = .int (bs.getD i 0) := by
  simp only [List.getD_eq_getElem?_getD, List.getElem?_map]
  cases bs[i]? <;> rfl
theorem own_at {bs : List Int32} {i : Nat} (h : i < 2147483648) : (bs.map Value.int).getD i.toInt32.toNatClampNeg (.int 0) = .int (bs.getD i 0) := by
  rw [own_clamp h, own_getD]
theorem own_take {a b : List Int32} {i : Nat} (h : a.take i = b.take i) (ha : i < a.length) (hb : i < b.length) (q : a.getD i 0 = b.getD i 0) : a.take (i + 1) = b.take (i + 1) := by
  rw [List.take_add_one, List.take_add_one, h]
  simp only [List.getD_eq_getElem?_getD, List.getElem?_eq_getElem ha, List.getElem?_eq_getElem hb, Option.getD_some] at q
  rw [List.getElem?_eq_getElem ha, List.getElem?_eq_getElem hb, q]
theorem own_sub {i n : Nat} (h : i ≤ n) (hn : n < 2147483648) : n.toInt32 - i.toInt32 = (n - i).toInt32 := by
  rw [← Int32.toInt_inj, own_toInt (i := n - i) (by omega)]
  have a := c_isub n.toInt32 i.toInt32
  have r := rng32 (n.toInt32 - i.toInt32)
  rw [own_toInt (i := i) (by omega), own_toInt hn] at a
  omega
/-- the byte of a char -/
def own_b (c : Int32) : Int32 := c.toInt8.toInt32
theorem own_byte (c : Int32) : nar .byte (c.toInt8.toInt32) = own_b c := by
  show (c.toInt8.toInt32).toInt8.toInt32 = c.toInt8.toInt32
  have q := Jvm.Free.XT.narrow_b c
  exact Value.int.inj q
/-- the String at a, its bytes at t -/
def StrAt (Z : State) (h : Heap) (a t : Addr) (kb : ClassId) (bs : List Int32) : Prop := Exa Z h a "java/lang/String" ∧ Fld Z h a "java/lang/String" "coder" "B" (.int 0) ∧ Fld Z h a "java/lang/String" "value" "[B" (.ref t) ∧ Arv Z h t kb .byte bs.length.toInt32 (bs.map Value.int) (.int 0) ∧ bs.length < 100
section
variable {Z : State} {h h' : Heap} {a t b : Addr} {kb : ClassId} {bs : List Int32} {ws : List Addr} {sl : Nat} {v : Value}
theorem StrAt.ext (F : StrAt Z h a t kb bs) (E : Ext h h') : StrAt Z h' a t kb bs := ⟨F.1.ext E, F.2.1.ext E, F.2.2.1.ext E, F.2.2.2.1.ext E, F.2.2.2.2⟩
theorem StrAt.keep (F : StrAt Z h a t kb bs) (K : Keep h h' ws) (qa : a ∉ ws) (qt : t ∉ ws) : StrAt Z h' a t kb bs := ⟨F.1.keep K, F.2.1.keep K qa, F.2.2.1.keep K qa, F.2.2.2.1.keep K qt, F.2.2.2.2⟩
theorem StrAt.other (F : StrAt Z h a t kb bs) (W : Wr h h' b sl v) (qa : a ≠ b) (qt : t ≠ b) : StrAt Z h' a t kb bs := ⟨F.1.wr W, F.2.1.other W (Or.inl qa), F.2.2.1.other W (Or.inl qa), F.2.2.2.1.other W qt, F.2.2.2.2⟩
theorem StrAt.lt (F : StrAt Z h a t kb bs) : a < h.size := F.1.lt
theorem StrAt.lt2 (F : StrAt Z h a t kb bs) : t < h.size := F.2.2.2.1.lt
end
/-- the bytes written so far -/
def own_dst (cl : List Int32) (i : Nat) : List Value := (List.range cl.length).map fun k => if k < i then Value.int (own_b (cl.getD k 0)) else .int 0
theorem own_dst_len (cl : List Int32) (i : Nat) : (own_dst cl i).length = cl.length := by simp [own_dst]
theorem own_dst_set (cl : List Int32) {i : Nat} (h : i < cl.length) : (own_dst cl i).set i (.int (own_b (cl.getD i 0))) = own_dst cl (i + 1) := by
  apply List.ext_getElem
  · simp [own_dst]
  · intro k h1 h2
    rw [List.getElem_set]
    simp only [own_dst, List.getElem_map, List.getElem_range]
    by_cases q : i = k
    · subst q
      simp
    · simp only [q, if_false]
      by_cases r : k < i
      · simp [r, show k < i + 1 by omega]
      · simp [r, show ¬ k < i + 1 by omega]
theorem own_dst_end (cl : List Int32) : own_dst cl cl.length = (cl.map own_b).map Value.int := by
  apply List.ext_getElem
  · simp [own_dst]
  · intro k h1 h2
    have h3 : k < cl.length := by simpa [own_dst] using h1
    simp [own_dst, h3, List.getD_eq_getElem?_getD]
theorem own_dst_zero (cl : List Int32) : ∀ n i : Nat, (own_dst cl 0).getD i (.int 0) = (List.replicate n (Value.int 0)).getD i (.int 0) := by
  intro n i
  have e1 : (own_dst cl 0)[i]? = none ∨ (own_dst cl 0)[i]? = some (.int 0) := by
    simp only [own_dst, List.getElem?_map, Nat.not_lt_zero, if_false]
    cases (List.range cl.length)[i]? <;> simp
  have e2 : (List.replicate n (Value.int 0))[i]? = none ∨ (List.replicate n (Value.int 0))[i]? = some (.int 0) := by
    rw [List.getElem?_replicate]
    split <;> simp
  simp only [List.getD_eq_getElem?_getD]
  rcases e1 with e1 | e1 <;> rcases e2 with e2 | e2 <;> rw [e1, e2] <;> rfl
theorem own_st6 {v0 v2 : Addr} {v1 v3 v4 v5 w : Int32} {sl : Slot} (h : One sl) : storeLocals #[.val (.ref v0), .val (.int v1), .val (.ref v2), .val (.int v3), .val (.int v4), .val (.int v5), sl] 6 (.int w) = some #[.val (.ref v0), .val (.int v1), .val (.ref v2), .val (.int v3), .val (.int v4), .val (.int v5), .val (.int w)] := by
  rcases h with rfl | ⟨w, rfl, hw⟩
  · rfl
  · cases w <;> first | rfl | (simp [Value.category] at hw)
theorem own_mem {cl : List Int32} {i : Nat} (h : i < cl.length) : cl.getD i 0 ∈ cl := by
  rw [List.getD_eq_getElem?_getD, List.getElem?_eq_getElem h]
  exact List.getElem_mem h
set_option maxRecDepth 65536 in
set_option maxHeartbeats 4000000 in
theorem own_comploop {p : Program} {l : Launch} {e : Env} {s : State} {m : MethodId} {args : Array Value} {below : List Frame} {meth : Method} {co : Code} {Z : State} {a0 : Array Value} (hw : HW Z a0) (a d : Addr) (ka kd : ClassId) (cl : List Int32) (hl : cl.length < 2147483647) (hc : ∀ z ∈ cl, ¬ 255 < z) {h0 : Heap} (hz : Z.heap.size ≤ d) (had : a ≠ d) (n : Nat) : ∀ (i : Nat) (sl : Slot), One sl → ∀ (T : State) (h : Heap) (locs : List Loc), St p l e ({ frames := 0, cells := 0, slots := 0, locals := 0 } : Room) s m args below meth co Z "java/lang/StringUTF16" jdk_52_method_21_code 7 (some .int) "compress" h0 [d] T h locs 0 0 → Arv Z h a ka .char cl.length.toInt32 (cl.map Value.int) (.int 0) → Arv Z h d kd .byte cl.length.toInt32 (own_dst cl i) (.int 0) → i + n = cl.length → Go p e below (PostOf Z s h0 [d] ({ frames := 0, cells := 0, slots := 0, locals := 0 } : Room).cells ({ frames := 0, cells := 0, slots := 0, locals := 0 } : Room).slots (fun v h => v = some (.int cl.length.toInt32) ∧ Arv Z h d kd .byte cl.length.toInt32 ((cl.map own_b).map Value.int) (.int 0))) T (mkF m 3 #[.val (.ref a), .val (.int i.toInt32), .val (.ref d), .val (.int i.toInt32), .val (.int cl.length.toInt32), .val (.int i.toInt32), sl] []) := by
  induction n with
  | zero =>
    intro i sl hsl T h locs S VS VT hn
    refine Go.iload S d_jdk_52_method_21_code_3 rfl (pc' := 5) rfl ?_
    refine Go.iload S d_jdk_52_method_21_code_5 rfl (pc' := 7) rfl ?_
    refine Go.icmp_ge S d_jdk_52_method_21_code_7 (pt := 44) (by decide) (pc' := 10) rfl ?_ ?_
    · intro c7
      refine Go.iload S d_jdk_52_method_21_code_44 rfl (pc' := 46) rfl ?_
      exact Go.ireturn S rfl d_jdk_52_method_21_code_46 (by decide) (by decide) (⟨rfl, by rw [show i = cl.length by omega, own_dst_end] at VT; exact VT⟩)
    · intro c7; exact absurd c7 (fun q => absurd ((own_ltn (by omega) (by omega)).mp q) (by omega))
  | succ n ih =>
    intro i sl hsl T h locs S VS VT hn
    have hi : i < cl.length := by omega
    refine Go.iload S d_jdk_52_method_21_code_3 rfl (pc' := 5) rfl ?_
    refine Go.iload S d_jdk_52_method_21_code_5 rfl (pc' := 7) rfl ?_
    refine Go.icmp_ge S d_jdk_52_method_21_code_7 (pt := 44) (by decide) (pc' := 10) rfl ?_ ?_
    · intro c7; exact absurd ((own_ltn (by omega) (by omega)).mpr hi) c7
    · intro c7
      refine Go.aloadN S d_jdk_52_method_21_code_10 rfl rfl (pc' := 11) rfl ?_
      refine Go.iloadN S d_jdk_52_method_21_code_11 rfl (pc' := 12) rfl ?_
      refine Go.caload S VS (own_inb hi (by omega)) (v := (.int (cl.getD i 0))) (own_at (i := i) (by omega)) d_jdk_52_method_21_code_12 (pc' := 13) rfl ?_
      refine Go.istore S d_jdk_52_method_21_code_13 (Ls' := #[.val (.ref a), .val (.int i.toInt32), .val (.ref d), .val (.int i.toInt32), .val (.int cl.length.toInt32), .val (.int i.toInt32), .val (.int (cl.getD i 0))]) (own_st6 hsl) (pc' := 15) rfl ?_
      refine Go.iload S d_jdk_52_method_21_code_15 rfl (pc' := 17) rfl ?_
      refine Go.sipush S (v := 255) d_jdk_52_method_21_code_17 rfl (pc' := 20) rfl ?_
      refine Go.icmp_le S d_jdk_52_method_21_code_20 (pt := 26) (by decide) (pc' := 23) rfl ?_ ?_
      · intro c20
        refine Go.aloadN S d_jdk_52_method_21_code_26 rfl rfl (pc' := 27) rfl ?_
        refine Go.iloadN S d_jdk_52_method_21_code_27 rfl (pc' := 28) rfl ?_
        refine Go.iload S d_jdk_52_method_21_code_28 rfl (pc' := 30) rfl ?_
        refine Go.i2b S d_jdk_52_method_21_code_30 (pc' := 31) rfl ?_
        refine Go.bastore S VT (own_inb hi (by omega)) (i := i) (own_clamp (by omega)) (by rw [own_dst_len]; exact hi) hz (Or.inl (List.mem_singleton.mpr rfl)) d_jdk_52_method_21_code_31 (pc' := 32) rfl ?_
        intro T1 h1 L1 S1 W1 V1
        rw [own_byte, own_dst_set cl hi] at V1
        have U1 := VS.other W1 had
        refine Go.iinc S1 d_jdk_52_method_21_code_32 rfl (Ls' := #[.val (.ref a), .val (.int (i.toInt32 + (1 : Int32))), .val (.ref d), .val (.int i.toInt32), .val (.int cl.length.toInt32), .val (.int i.toInt32), .val (.int (cl.getD i 0))]) rfl (pc' := 35) rfl ?_
        refine Go.iinc S1 d_jdk_52_method_21_code_35 rfl (Ls' := #[.val (.ref a), .val (.int (i.toInt32 + (1 : Int32))), .val (.ref d), .val (.int (i.toInt32 + (1 : Int32))), .val (.int cl.length.toInt32), .val (.int i.toInt32), .val (.int (cl.getD i 0))]) rfl (pc' := 38) rfl ?_
        refine Go.iinc S1 d_jdk_52_method_21_code_38 rfl (Ls' := #[.val (.ref a), .val (.int (i.toInt32 + (1 : Int32))), .val (.ref d), .val (.int (i.toInt32 + (1 : Int32))), .val (.int cl.length.toInt32), .val (.int (i.toInt32 + (1 : Int32))), .val (.int (cl.getD i 0))]) rfl (pc' := 41) rfl ?_
        refine Go.goto S1 d_jdk_52_method_21_code_41 (pc' := 3) (by decide) ?_
        rw [own_incN (by omega)]
        exact ih _ (.val (.int (cl.getD i 0))) (One.val rfl) _ _ _ S1 U1 V1 (by omega)
      · intro c20; exact absurd c20 (hc _ (own_mem hi))
set_option maxRecDepth 65536 in
set_option maxHeartbeats 4000000 in
theorem rm_comp5 {l : Launch} {Z : State} {a0 : Array Value} (hw : HW Z a0) (a : Addr) (d : Addr) (ka kd : ClassId) (cl : List Int32) (hl : cl.length < 2147483647) (hc : ∀ z ∈ cl, ¬ 255 < z) {h0 : Heap} (hE : Ext Z.heap h0) (hz : Z.heap.size ≤ d) (had : a ≠ d) (VS : Arv Z h0 a ka .char cl.length.toInt32 (cl.map Value.int) (.int 0)) (VT : Arv Z h0 d kd .byte cl.length.toInt32 (own_dst cl 0) (.int 0)) :
    OMeets l Z (⟨"java/lang/StringUTF16", "compress", "([CI[BII)I"⟩ : MethodName) jdk_52_method_21_code 7 (some .int) ({ frames := 0, cells := 0, slots := 0, locals := 0 } : Room) #[(.ref a), (.int (0 : Int32)), (.ref d), (.int (0 : Int32)), (.int cl.length.toInt32)] h0 [d] (fun v h => v = some (.int cl.length.toInt32) ∧ Arv Z h d kd .byte cl.length.toInt32 ((cl.map own_b).map Value.int) (.int 0)) := by
  refine OMeets.body (plainFor_of_name pn0) hE #[.val (.ref a), .val (.int (0 : Int32)), .val (.ref d), .val (.int (0 : Int32)), .val (.int cl.length.toInt32), .unset, .unset] (fun m => by first | rfl | (simp [entryFrame, mkF, argsToLocals, Value.category, maxLocals]; done)) ?_
  intro p e s m below meth co T S
  refine Go.iconst S (v := 0) d_jdk_52_method_21_code_0 rfl (pc' := 1) rfl ?_
  refine Go.istore S d_jdk_52_method_21_code_1 (Ls' := #[.val (.ref a), .val (.int (0 : Int32)), .val (.ref d), .val (.int (0 : Int32)), .val (.int cl.length.toInt32), .val (.int (0 : Int32)), .unset]) rfl (pc' := 3) rfl ?_
  exact own_comploop hw a d ka kd cl hl hc hz had cl.length 0 .unset One.u _ _ _ S VS VT (by omega)
set_option maxRecDepth 65536 in
set_option maxHeartbeats 4000000 in
theorem rm_comp3 {l : Launch} {Z : State} {a0 : Array Value} (hw : HW Z a0) (a : Addr) (ka : ClassId) (cl : List Int32) (hl : cl.length ≤ 3) (hc : ∀ z ∈ cl, ¬ 255 < z) {h0 : Heap} (hE : Ext Z.heap h0) (VS : Arv Z h0 a ka .char cl.length.toInt32 (cl.map Value.int) (.int 0)) :
    OMeets l Z (⟨"java/lang/StringUTF16", "compress", "([CII)[B"⟩ : MethodName) jdk_52_method_16_code 6 (some (.array .byte)) ({ frames := 1, cells := 1, slots := 3, locals := 23 } : Room) #[(.ref a), (.int (0 : Int32)), (.int cl.length.toInt32)] h0 [] (fun v h => ∃ d kd, v = some (.ref d) ∧ h0.size ≤ d ∧ Arv Z h d kd .byte cl.length.toInt32 ((cl.map own_b).map Value.int) (.int 0)) := by
  refine OMeets.body (plainFor_of_name pn0) hE #[.val (.ref a), .val (.int (0 : Int32)), .val (.int cl.length.toInt32), .unset, .unset, .unset] (fun m => by first | rfl | (simp [entryFrame, mkF, argsToLocals, Value.category, maxLocals]; done)) ?_
  intro p e s m below meth co T S
  have hpos : ¬ cl.length.toInt32 < 0 := by
    rw [Int32.lt_iff_toInt_lt, own_toInt (by omega)]
    have e0 : (0 : Int32).toInt = 0 := rfl
    omega
  refine Go.iloadN S d_jdk_52_method_16_code_0 rfl (pc' := 1) rfl ?_
  refine Go.newarray S (ty := .byte) (dv := (.int (0 : Int32))) rfl rfl (wd19 hw) d_jdk_52_method_16_code_1 hpos (cap := 3) (by rw [own_clamp (by omega)]; omega) (by decide) (by decide) (by decide) (pc' := 3) rfl ?_
  intro T1 h1 d kd S1 E1 hg1 hz1 hk1 V1
  have hd : a ≠ d := Nat.ne_of_lt (Nat.lt_of_lt_of_le VS.lt (Nat.le_of_eq hg1))
  replace VS := VS.ext E1
  replace V1 := V1.pad (own_dst_zero cl 3)
  refine Go.astoreN S1 d_jdk_52_method_16_code_3 rfl (Ls' := #[.val (.ref a), .val (.int (0 : Int32)), .val (.int cl.length.toInt32), .val (.ref d), .unset, .unset]) rfl (pc' := 4) rfl ?_
  refine Go.aloadN S1 d_jdk_52_method_16_code_4 rfl rfl (pc' := 5) rfl ?_
  refine Go.iloadN S1 d_jdk_52_method_16_code_5 rfl (pc' := 6) rfl ?_
  refine Go.aloadN S1 d_jdk_52_method_16_code_6 rfl rfl (pc' := 7) rfl ?_
  refine Go.iconst S1 (v := 0) d_jdk_52_method_16_code_7 rfl (pc' := 8) rfl ?_
  refine Go.iloadN S1 d_jdk_52_method_16_code_8 rfl (pc' := 9) rfl ?_
  refine Go.invokestatic S1 (y := ⟨"java/lang/StringUTF16", "compress", "([CI[BII)I"⟩) (rm_comp5 hw a d ka kd cl (by omega) hc S1.ext hz1 hd VS V1) (wd106 hw) (wd107 hw) (wd104 hw) (wd108 hw) (by decide) d_jdk_52_method_16_code_9 rfl pd0 (argsL := [(.ref a), (.int (0 : Int32)), (.ref d), (.int (0 : Int32)), (.int cl.length.toInt32)]) rfl rfl rfl (by decide) (W := 0) rfl (by decide) (by decide) (by decide) (allS (Or.inr hk1) all0) (pc' := 12) rfl ?_
  intro v2 T2 h2 L2 S2 K2 q2
  obtain ⟨rfl, V2⟩ := q2
  show Go _ _ _ _ T2 (mkF m 12 #[.val (.ref a), .val (.int (0 : Int32)), .val (.int cl.length.toInt32), .val (.ref d), .unset, .unset] [(.int cl.length.toInt32)])
  refine Go.istore S2 d_jdk_52_method_16_code_12 (Ls' := #[.val (.ref a), .val (.int (0 : Int32)), .val (.int cl.length.toInt32), .val (.ref d), .val (.int cl.length.toInt32), .unset]) rfl (pc' := 14) rfl ?_
  refine Go.iload S2 d_jdk_52_method_16_code_14 rfl (pc' := 16) rfl ?_
  refine Go.iloadN S2 d_jdk_52_method_16_code_16 rfl (pc' := 17) rfl ?_
  refine Go.icmp_eq S2 d_jdk_52_method_16_code_17 (pt := 57) (by decide) (pc' := 20) rfl ?_ ?_
  · intro c17
    refine Go.aloadN S2 d_jdk_52_method_16_code_57 rfl rfl (pc' := 58) rfl ?_
    exact Go.areturn S2 rfl rfl rfl d_jdk_52_method_16_code_58 (by decide) (by decide) (⟨d, kd, rfl, hk1, V2⟩)
  · intro c17; exact absurd rfl c17
theorem own_sh {n : Int32} : nar .byte ((((n - n).toUInt32 >>> ((31 : Int32) &&& 31).toUInt32).toInt32).toInt8.toInt32) = 0 := by
  rw [show n - n = 0 from by rw [← Int32.toInt_inj]; have := c_isub n n; have := rng32 (n - n); have e0 : (0 : Int32).toInt = 0 := rfl; omega]
  decide
set_option maxRecDepth 65536 in
set_option maxHeartbeats 4000000 in
theorem rm_cfal {l : Launch} {Z : State} {a0 : Array Value} (hw : HW Z a0) (d : Addr) (n : Int32) (kd : ClassId) (vs : List Value) {h0 : Heap} (hE : Ext Z.heap h0) (V1 : Arv Z h0 d kd .byte n vs (.int 0)) :
    OMeets l Z (⟨"java/lang/StringUTF16", "coderFromArrayLen", "([BI)B"⟩ : MethodName) jdk_52_method_15_code 2 (some .byte) ({ frames := 0, cells := 0, slots := 0, locals := 0 } : Room) #[(.ref d), (.int n)] h0 [] (fun v h => v = some (.int 0) ∧ h0 = h) := by
  refine OMeets.body (plainFor_of_name pn0) hE #[.val (.ref d), .val (.int n)] (fun m => by first | rfl | (simp [entryFrame, mkF, argsToLocals, Value.category, maxLocals]; done)) ?_
  intro p e s m below meth co T S
  refine Go.iloadN S d_jdk_52_method_15_code_0 rfl (pc' := 1) rfl ?_
  refine Go.aloadN S d_jdk_52_method_15_code_1 rfl rfl (pc' := 2) rfl ?_
  refine Go.arraylength S V1 d_jdk_52_method_15_code_2 (pc' := 3) rfl ?_
  refine Go.isub S d_jdk_52_method_15_code_3 (pc' := 4) rfl ?_
  refine Go.bipush S (v := 31) d_jdk_52_method_15_code_4 rfl (pc' := 6) rfl ?_
  refine Go.iushr S d_jdk_52_method_15_code_6 (pc' := 7) rfl ?_
  refine Go.i2b S d_jdk_52_method_15_code_7 (pc' := 8) rfl ?_
  exact Go.zreturn S rfl (by decide) d_jdk_52_method_15_code_8 (z' := 0) own_sh (by decide) (by decide) (⟨rfl, rfl⟩)
set_option maxRecDepth 65536 in
set_option maxHeartbeats 4000000 in
theorem rm_sinit4 {l : Launch} {Z : State} {a0 : Array Value} (hw : HW Z a0) (o : Addr) (a : Addr) (ka : ClassId) (cl : List Int32) (cs : Int32) (hl0 : 0 < cl.length) (hl : cl.length ≤ 3) (hc : ∀ z ∈ cl, ¬ 255 < z) {h0 : Heap} (hE : Ext Z.heap h0) (hz : Z.heap.size ≤ o) (E : Exa Z h0 o "java/lang/String") (Fv : Fld Z h0 o "java/lang/String" "value" "[B" .null) (Fc : Fld Z h0 o "java/lang/String" "coder" "B" (.int 0)) (hao : a ≠ o) (V1 : Arv Z h0 a ka .char cl.length.toInt32 (cl.map Value.int) (.int 0)) (Cs : Sta Z Z.heap "java/lang/String" "COMPACT_STRINGS" "Z" (.int cs)) (Cn : ¬ cs = 0) :
    OMeets l Z (⟨"java/lang/String", "<init>", "([CIILjava/lang/Void;)V"⟩ : MethodName) jdk_42_method_149_code 6 none ({ frames := 2, cells := 1, slots := 3, locals := 41 } : Room) #[(.ref o), (.ref a), (.int (0 : Int32)), (.int cl.length.toInt32), .null] h0 [o] (fun v h => v = none ∧ ∃ t kb, StrAt Z h o t kb (cl.map own_b) ∧ h0.size ≤ t) := by
  refine OMeets.body (plainFor_of_name pn1) hE #[.val (.ref o), .val (.ref a), .val (.int (0 : Int32)), .val (.int cl.length.toInt32), .val .null, .unset] (fun m => by first | rfl | (simp [entryFrame, mkF, argsToLocals, Value.category, maxLocals]; done)) ?_
  intro p e s m below meth co T S
  have ho := E.lt
  refine Go.aloadN S d_jdk_42_method_149_code_0 rfl rfl (pc' := 1) rfl ?_
  refine Go.initObject S (wd15 hw) (wd16 hw) (wd17 hw) d_jdk_42_method_149_code_1 rfl (by decide) (W := 0) rfl (by decide) (pc' := 4) rfl ?_
  intro T1 S1
  refine Go.iloadN S1 d_jdk_42_method_149_code_4 rfl (pc' := 5) rfl ?_
  refine Go.if_ne S1 d_jdk_42_method_149_code_5 (pt := 27) (by decide) (pc' := 8) rfl ?_ ?_
  · intro c5
    refine Go.getstatic S1 (host := "") (Or.inl (wd69 hw)) Via.refl Cs d_jdk_42_method_149_code_27 (pc' := 30) rfl ?_
    intro T2 S2
    refine Go.if_eq S2 d_jdk_42_method_149_code_30 (pt := 58) (by decide) (pc' := 33) rfl ?_ ?_
    · intro c30; exact absurd c30 Cn
    · intro c30
      refine Go.aloadN S2 d_jdk_42_method_149_code_33 rfl rfl (pc' := 34) rfl ?_
      refine Go.iloadN S2 d_jdk_42_method_149_code_34 rfl (pc' := 35) rfl ?_
      refine Go.iloadN S2 d_jdk_42_method_149_code_35 rfl (pc' := 36) rfl ?_
      refine Go.invokestatic S2 (y := ⟨"java/lang/StringUTF16", "compress", "([CII)[B"⟩) (rm_comp3 hw a ka cl hl hc S2.ext V1) (wd102 hw) (wd103 hw) (wd104 hw) (wd105 hw) (by decide) d_jdk_42_method_149_code_36 rfl pd1 (argsL := [(.ref a), (.int (0 : Int32)), (.int cl.length.toInt32)]) rfl rfl rfl (by decide) (W := 0) rfl (by decide) (by decide) (by decide) all0 (pc' := 39) rfl ?_
      intro v3 T3 h3 L3 S3 K3 q3
      obtain ⟨d3, kd3, rfl, hk3, V3⟩ := q3
      replace E := E.keep K3
      replace Fv := Fv.keep K3 nin0
      replace Fc := Fc.keep K3 nin0
      replace V1 := V1.keep K3 nin0
      show Go _ _ _ _ T3 (mkF m 39 #[.val (.ref o), .val (.ref a), .val (.int (0 : Int32)), .val (.int cl.length.toInt32), .val .null, .unset] [(.ref d3)])
      have nd3 : d3 ≠ o := fun q => absurd hk3 (by rw [q]; exact Nat.not_le.mpr ho)
      refine Go.astore S3 d_jdk_42_method_149_code_39 rfl (Ls' := #[.val (.ref o), .val (.ref a), .val (.int (0 : Int32)), .val (.int cl.length.toInt32), .val .null, .val (.ref d3)]) rfl (pc' := 41) rfl ?_
      refine Go.aloadN S3 d_jdk_42_method_149_code_41 rfl rfl (pc' := 42) rfl ?_
      refine Go.aload S3 d_jdk_42_method_149_code_42 rfl rfl (pc' := 44) rfl ?_
      refine Go.iloadN S3 d_jdk_42_method_149_code_44 rfl (pc' := 45) rfl ?_
      refine Go.invokestatic S3 (y := ⟨"java/lang/StringUTF16", "coderFromArrayLen", "([BI)B"⟩) (rm_cfal hw d3 cl.length.toInt32 kd3 _ S3.ext V3) (wd109 hw) (wd110 hw) (wd104 hw) (wd111 hw) (by decide) d_jdk_42_method_149_code_45 rfl pd2 (argsL := [(.ref d3), (.int cl.length.toInt32)]) rfl rfl rfl (by decide) (W := 1) rfl (by decide) (by decide) (by decide) all0 (pc' := 48) rfl ?_
      intro v4 T4 h4 L4 S4 K4 q4
      obtain ⟨rfl, rfl⟩ := q4
      show Go _ _ _ _ T4 (mkF m 48 #[.val (.ref o), .val (.ref a), .val (.int (0 : Int32)), .val (.int cl.length.toInt32), .val .null, .val (.ref d3)] [(.int (0 : Int32)), (.ref o)])
      refine Go.putfieldN S4 (wd25 hw) Via.refl Fc E (Or.inr ⟨(wd21 hw), rfl, rfl⟩) (wd6 hw) (ty := .byte) (by decide) (v' := (.int (0 : Int32))) rfl rfl hz (Or.inl (List.mem_singleton.mpr rfl)) d_jdk_42_method_149_code_48 (pc' := 51) rfl ?_
      intro T5 h5 L5 S5 W5
      have F5 := Fc.same W5
      replace Fv := Fv.other W5 (Or.inr (slot_ne (Or.inr (wd20 hw)) (Or.inr (wd21 hw)) (by decide) (t := (.array .byte)) (t' := .byte) (by decide) (by decide)))
      replace E := E.wr W5
      replace V1 := V1.other W5 (hao)
      replace V3 := V3.other W5 (nd3)
      refine Go.aloadN S5 d_jdk_42_method_149_code_51 rfl rfl (pc' := 52) rfl ?_
      refine Go.aload S5 d_jdk_42_method_149_code_52 rfl rfl (pc' := 54) rfl ?_
      refine Go.putfield S5 (host := "") (Or.inl (wd24 hw)) Via.refl Fv E (Or.inr ⟨(wd20 hw), rfl, rfl⟩) (wd6 hw) (ty := (.array .byte)) (by decide) rfl rfl hz (Or.inl (List.mem_singleton.mpr rfl)) d_jdk_42_method_149_code_54 (pc' := 57) rfl ?_
      intro T6 h6 L6 S6 W6
      have F6 := Fv.same W6
      replace F5 := F5.other W6 (Or.inr (slot_ne (Or.inr (wd21 hw)) (Or.inr (wd20 hw)) (by decide) (t := .byte) (t' := (.array .byte)) (by decide) (by decide)))
      replace E := E.wr W6
      replace V1 := V1.other W6 (hao)
      replace V3 := V3.other W6 (nd3)
      exact Go.vreturn S6 rfl d_jdk_42_method_149_code_57 (by decide) (by decide) (⟨rfl, d3, kd3, ⟨E, F5, F6, by rw [List.length_map]; exact V3, by rw [List.length_map]; omega⟩, hk3⟩)
  · intro c5; exact absurd c5 (fun q => by have z := congrArg Int32.toInt q; rw [own_toInt (by omega)] at z; have e0 : (0 : Int32).toInt = 0 := rfl; omega)
set_option maxRecDepth 65536 in
set_option maxHeartbeats 4000000 in
theorem rm_sinit {l : Launch} {Z : State} {a0 : Array Value} (hw : HW Z a0) (o : Addr) (a : Addr) (ka : ClassId) (cl : List Int32) (cs : Int32) (hl0 : 0 < cl.length) (hl : cl.length ≤ 3) (hc : ∀ z ∈ cl, ¬ 255 < z) {h0 : Heap} (hE : Ext Z.heap h0) (hz : Z.heap.size ≤ o) (E : Exa Z h0 o "java/lang/String") (Fv : Fld Z h0 o "java/lang/String" "value" "[B" .null) (Fc : Fld Z h0 o "java/lang/String" "coder" "B" (.int 0)) (hao : a ≠ o) (V1 : Arv Z h0 a ka .char cl.length.toInt32 (cl.map Value.int) (.int 0)) (Cs : Sta Z Z.heap "java/lang/String" "COMPACT_STRINGS" "Z" (.int cs)) (Cn : ¬ cs = 0) :
    OMeets l Z (⟨"java/lang/String", "<init>", "([C)V"⟩ : MethodName) jdk_42_method_3_code 2 none ({ frames := 3, cells := 1, slots := 3, locals := 58 } : Room) #[(.ref o), (.ref a)] h0 [o] (fun v h => v = none ∧ ∃ t kb, StrAt Z h o t kb (cl.map own_b) ∧ h0.size ≤ t) := by
  refine OMeets.body (plainFor_of_name pn1) hE #[.val (.ref o), .val (.ref a)] (fun m => by first | rfl | (simp [entryFrame, mkF, argsToLocals, Value.category, maxLocals]; done)) ?_
  intro p e s m below meth co T S
  refine Go.aloadN S d_jdk_42_method_3_code_0 rfl rfl (pc' := 1) rfl ?_
  refine Go.aloadN S d_jdk_42_method_3_code_1 rfl rfl (pc' := 2) rfl ?_
  refine Go.iconst S (v := 0) d_jdk_42_method_3_code_2 rfl (pc' := 3) rfl ?_
  refine Go.aloadN S d_jdk_42_method_3_code_3 rfl rfl (pc' := 4) rfl ?_
  refine Go.arraylength S V1 d_jdk_42_method_3_code_4 (pc' := 5) rfl ?_
  refine Go.aconst_null S d_jdk_42_method_3_code_5 (pc' := 6) rfl ?_
  refine Go.invokespecial S (y := ⟨"java/lang/String", "<init>", "([CIILjava/lang/Void;)V"⟩) (rm_sinit4 hw o a ka cl cs hl0 hl hc S.ext hz E Fv Fc hao V1 Cs Cn) rfl rfl (wd11 hw) (wd12 hw) (wd7 hw) (wd14 hw) (by decide) d_jdk_42_method_3_code_6 rfl pd3 (argsL := [(.ref a), (.int (0 : Int32)), (.int cl.length.toInt32), .null]) rfl rfl rfl (by decide) (W := 0) rfl (by decide) (by decide) (by decide) (allS (Or.inl (List.mem_singleton.mpr rfl)) all0) (pc' := 9) rfl ?_
  intro v1 T1 h1 L1 S1 K1 q1
  obtain ⟨rfl, t, kb, A, ht⟩ := q1
  show Go _ _ _ _ T1 (mkF m 9 #[.val (.ref o), .val (.ref a)] [])
  exact Go.vreturn S1 rfl d_jdk_42_method_3_code_9 (by decide) (by decide) (⟨rfl, t, kb, A, ht⟩)
theorem own_sat {Z : State} {a0 : Array Value} (hw : HW Z a0) : ∀ a ∈ Bundle.stringAtoms, a.before a0 Z = true := by
  intro a ha
  simp only [Bundle.stringAtoms, List.mem_cons, List.not_mem_nil, or_false] at ha
  rcases ha with rfl | rfl | rfl | rfl | rfl | rfl | rfl
  · exact (wd7 hw)
  · exact (wd6 hw)
  · exact (wd19 hw)
  · exact (wd20 hw)
  · exact (wd21 hw)
  · exact (wd22 hw)
  · exact (wd23 hw)
set_option maxRecDepth 65536 in
set_option maxHeartbeats 4000000 in
theorem rm_sinitE4 {l : Launch} {Z : State} {a0 : Array Value} (hw : HW Z a0) (o : Addr) (a : Addr)  {h0 : Heap} (hE : Ext Z.heap h0) (hz : Z.heap.size ≤ o) (E : Exa Z h0 o "java/lang/String") (Fv : Fld Z h0 o "java/lang/String" "value" "[B" .null) (Fc : Fld Z h0 o "java/lang/String" "coder" "B" (.int 0)) (hh : Jvm.Lit.constHeld Z "java/lang/String" 7) (hcw : Jvm.Lit.compactW.before a0 Z = true) :
    OMeetsW l Z (⟨"java/lang/String", "<init>", "([CIILjava/lang/Void;)V"⟩ : MethodName) jdk_42_method_149_code 6 none ({ frames := 1, cells := 2, slots := 4, locals := 12 } : Room) #[(.ref o), (.ref a), (.int (0 : Int32)), (.int (0 : Int32)), .null] h0 [o] (fun vm => IB Z vm []) (fun v h vm => v = none ∧ ∃ t kb, StrAt Z h o t kb []) := by
  refine OMeetsW.body (plainFor_of_name pn1) hE #[.val (.ref o), .val (.ref a), .val (.int (0 : Int32)), .val (.int (0 : Int32)), .val .null, .unset] (fun m => by first | rfl | (simp [entryFrame, mkF, argsToLocals, Value.category, maxLocals]; done)) ?_
  intro p e s m below meth co T S hvp hsh
  have N := Sn.start s h0.size
  have hn : h0.size ≤ h0.size := Nat.le_refl _
  refine Go.aloadN S d_jdk_42_method_149_code_0 rfl rfl (pc' := 1) rfl ?_
  refine Go.initObject S (wd15 hw) (wd16 hw) (wd17 hw) d_jdk_42_method_149_code_1 rfl (by decide) (W := 0) rfl (by decide) (pc' := 4) rfl ?_
  intro T1 S1
  refine Go.iloadN S1 d_jdk_42_method_149_code_4 rfl (pc' := 5) rfl ?_
  refine Go.if_ne S1 d_jdk_42_method_149_code_5 (pt := 27) (by decide) (pc' := 8) rfl ?_ ?_
  · intro c5; exact absurd (by decide) c5
  · intro c5
    refine Go.aloadN S1 d_jdk_42_method_149_code_8 rfl rfl (pc' := 9) rfl ?_
    refine Go.ldcFirst S1 N hn (text := "") (cap := 0) (vs := []) (z := 0) (wd18 hw) (own_sat hw) (Fr.nil _) (by rw [hsh]; exact hE) hvp (by decide) hh hcw ⟨by decide, by first | rfl | decide⟩ (by decide) rfl d_jdk_42_method_149_code_9 (by decide) (by decide) (by decide) (by decide) (pc' := 11) rfl ?_
    intro a2 b2 kb2 sb2 T2 h2 n2 S2 N2 hn2 E2 X2 Fc2 Fv2 V2 I2 L2
    replace E := E.ext E2
    replace Fv := Fv.ext E2
    replace Fc := Fc.ext E2
    replace hn := hn2
    have nao2 : a2 ≠ o := Fld.ne Fv2 Fv nofun
    have nbo2 : b2 ≠ o := Arv.nex V2 (wd6 hw) E
    refine Go.getfield S2 (host := "") (Or.inl (wd24 hw)) Via.refl Fv2 d_jdk_42_method_149_code_11 (pc' := 14) rfl ?_
    intro T3 S3
    refine Go.putfield S3 (host := "") (Or.inl (wd24 hw)) Via.refl Fv E (Or.inr ⟨(wd20 hw), rfl, rfl⟩) (wd6 hw) (ty := (.array .byte)) (by decide) rfl rfl hz (Or.inl (List.mem_singleton.mpr rfl)) d_jdk_42_method_149_code_14 (pc' := 17) rfl ?_
    intro T4 h4 L4 S4 W4
    have F4 := Fv.same W4
    replace Fc := Fc.other W4 (Or.inr (slot_ne (Or.inr (wd21 hw)) (Or.inr (wd20 hw)) (by decide) (t := .byte) (t' := (.array .byte)) (by decide) (by decide)))
    replace hn := Nat.le_trans hn (Nat.le_of_eq W4.size.symm)
    replace E := E.wr W4
    replace X2 := X2.wr W4
    replace Fc2 := Fc2.other W4 (Or.inl (nao2))
    replace Fv2 := Fv2.other W4 (Or.inl (nao2))
    replace V2 := V2.other W4 (nbo2)
    refine Go.aloadN S4 d_jdk_42_method_149_code_17 rfl rfl (pc' := 18) rfl ?_
    refine Go.ldcAgain S4 (wd18 hw) L2 d_jdk_42_method_149_code_18 (pc' := 20) rfl ?_
    refine Go.getfield S4 (host := "") (Or.inl (wd25 hw)) Via.refl Fc2 d_jdk_42_method_149_code_20 (pc' := 23) rfl ?_
    intro T5 S5
    refine Go.putfieldN S5 (wd25 hw) Via.refl Fc E (Or.inr ⟨(wd21 hw), rfl, rfl⟩) (wd6 hw) (ty := .byte) (by decide) (v' := (.int (0 : Int32))) rfl rfl hz (Or.inl (List.mem_singleton.mpr rfl)) d_jdk_42_method_149_code_23 (pc' := 26) rfl ?_
    intro T6 h6 L6 S6 W6
    have F6 := Fc.same W6
    replace F4 := F4.other W6 (Or.inr (slot_ne (Or.inr (wd20 hw)) (Or.inr (wd21 hw)) (by decide) (t := (.array .byte)) (t' := .byte) (by decide) (by decide)))
    replace hn := Nat.le_trans hn (Nat.le_of_eq W6.size.symm)
    replace E := E.wr W6
    replace X2 := X2.wr W6
    replace Fc2 := Fc2.other W6 (Or.inl (nao2))
    replace Fv2 := Fv2.other W6 (Or.inl (nao2))
    replace V2 := V2.other W6 (nbo2)
    exact Go.vreturnW S6 N2 hn rfl d_jdk_42_method_149_code_26 (by decide) (by decide) (⟨rfl, b2, kb2, E, F6, F4, V2, by decide⟩)
set_option maxRecDepth 65536 in
set_option maxHeartbeats 4000000 in
theorem rm_sinitE {l : Launch} {Z : State} {a0 : Array Value} (hw : HW Z a0) (o : Addr) (a : Addr) (ka : ClassId) {h0 : Heap} (hE : Ext Z.heap h0) (hz : Z.heap.size ≤ o) (E : Exa Z h0 o "java/lang/String") (Fv : Fld Z h0 o "java/lang/String" "value" "[B" .null) (Fc : Fld Z h0 o "java/lang/String" "coder" "B" (.int 0)) (hh : Jvm.Lit.constHeld Z "java/lang/String" 7) (hcw : Jvm.Lit.compactW.before a0 Z = true) (V1 : Arv Z h0 a ka .char 0 [] (.int 0)) :
    OMeetsW l Z (⟨"java/lang/String", "<init>", "([C)V"⟩ : MethodName) jdk_42_method_3_code 2 none ({ frames := 2, cells := 2, slots := 4, locals := 29 } : Room) #[(.ref o), (.ref a)] h0 [o] (fun vm => IB Z vm []) (fun v h vm => v = none ∧ ∃ t kb, StrAt Z h o t kb []) := by
  refine OMeetsW.body (plainFor_of_name pn1) hE #[.val (.ref o), .val (.ref a)] (fun m => by first | rfl | (simp [entryFrame, mkF, argsToLocals, Value.category, maxLocals]; done)) ?_
  intro p e s m below meth co T S hvp hsh
  have N := Sn.start s h0.size
  have hn : h0.size ≤ h0.size := Nat.le_refl _
  refine Go.aloadN S d_jdk_42_method_3_code_0 rfl rfl (pc' := 1) rfl ?_
  refine Go.aloadN S d_jdk_42_method_3_code_1 rfl rfl (pc' := 2) rfl ?_
  refine Go.iconst S (v := 0) d_jdk_42_method_3_code_2 rfl (pc' := 3) rfl ?_
  refine Go.aloadN S d_jdk_42_method_3_code_3 rfl rfl (pc' := 4) rfl ?_
  refine Go.arraylength S V1 d_jdk_42_method_3_code_4 (pc' := 5) rfl ?_
  refine Go.aconst_null S d_jdk_42_method_3_code_5 (pc' := 6) rfl ?_
  refine Go.invokespecialW S (y := ⟨"java/lang/String", "<init>", "([CIILjava/lang/Void;)V"⟩) (rm_sinitE4 hw o a S.ext hz E Fv Fc hh hcw) N hn (fun vm hv => IB.warm hvp hv) rfl rfl (wd11 hw) (wd12 hw) (wd7 hw) (wd14 hw) (by decide) d_jdk_42_method_3_code_6 rfl pd3 (argsL := [(.ref a), (.int (0 : Int32)), (.int (0 : Int32)), .null]) rfl rfl rfl (by decide) (W := 0) rfl (by decide) (by decide) (by decide) (allS (Or.inl (List.mem_singleton.mpr rfl)) all0) (pc' := 9) rfl ?_
  intro v1 sb1 T1 h1 L1 S1 N1 K1 q1
  obtain ⟨rfl, t, kb, A⟩ := q1
  replace hn : h1.size ≤ h1.size := Nat.le_refl _
  show Go _ _ _ _ T1 (mkF m 9 #[.val (.ref o), .val (.ref a)] [])
  exact Go.vreturnW S1 N1 hn rfl d_jdk_42_method_3_code_9 (by decide) (by decide) (⟨rfl, t, kb, A⟩)
theorem own_ub {z : Int32} (h0 : ¬ z < 0) (h1 : ¬ 255 < z) : nar .char (((own_b z) &&& 255).toUInt32.toUInt16.toUInt32.toInt32) = z := by
  have a := c_i2b z
  have b := c_mask (z.toInt8.toInt32) 255 8 (by decide) (by decide)
  have d := c_i2c ((z.toInt8.toInt32) &&& 255)
  have e := c_i2c (((z.toInt8.toInt32) &&& 255).toUInt32.toUInt16.toUInt32.toInt32)
  have e0 : (0 : Int32).toInt = 0 := rfl
  have e255 : (255 : Int32).toInt = 255 := rfl
  rw [Int32.lt_iff_toInt_lt] at h0 h1
  rw [← Int32.toInt_inj]
  show ((((z.toInt8.toInt32) &&& 255).toUInt32.toUInt16.toUInt32.toInt32).toUInt32.toUInt16.toUInt32.toInt32).toInt = _
  omega
set_option maxRecDepth 65536 in
set_option maxHeartbeats 4000000 in
theorem rm_isl1 {l : Launch} {Z : State} {a0 : Array Value} (hw : HW Z a0) (o : Addr) (cs : Int32) {h0 : Heap} (hE : Ext Z.heap h0) (Fc : Fld Z h0 o "java/lang/String" "coder" "B" (.int 0)) (Cs : Sta Z Z.heap "java/lang/String" "COMPACT_STRINGS" "Z" (.int cs)) (Cn : ¬ cs = 0) :
    OMeets l Z (⟨"java/lang/String", "isLatin1", "()Z"⟩ : MethodName) jdk_42_method_154_code 1 (some .boolean) ({ frames := 0, cells := 0, slots := 0, locals := 0 } : Room) #[(.ref o)] h0 [] (fun v h => v = some (.int 1) ∧ h0 = h) := by
  refine OMeets.body (plainFor_of_name pn1) hE #[.val (.ref o)] (fun m => by first | rfl | (simp [entryFrame, mkF, argsToLocals, Value.category, maxLocals]; done)) ?_
  intro p e s m below meth co T S
  refine Go.getstatic S (host := "") (Or.inl (wd69 hw)) Via.refl Cs d_jdk_42_method_154_code_0 (pc' := 3) rfl ?_
  intro T1 S1
  refine Go.if_eq S1 d_jdk_42_method_154_code_3 (pt := 17) (by decide) (pc' := 6) rfl ?_ ?_
  · intro c3; exact absurd c3 Cn
  · intro c3
    refine Go.aloadN S1 d_jdk_42_method_154_code_6 rfl rfl (pc' := 7) rfl ?_
    refine Go.getfield S1 (host := "") (Or.inl (wd25 hw)) Via.refl Fc d_jdk_42_method_154_code_7 (pc' := 10) rfl ?_
    intro T2 S2
    refine Go.if_ne S2 d_jdk_42_method_154_code_10 (pt := 17) (by decide) (pc' := 13) rfl ?_ ?_
    · intro c10; exact absurd (by decide) c10
    · intro c10
      refine Go.iconst S2 (v := 1) d_jdk_42_method_154_code_13 rfl (pc' := 14) rfl ?_
      refine Go.goto S2 d_jdk_42_method_154_code_14 (pc' := 18) (by decide) ?_
      exact Go.zreturn S2 rfl (by decide) d_jdk_42_method_154_code_18 (z' := (1 : Int32)) rfl (by decide) (by decide) (⟨rfl, rfl⟩)
set_option maxRecDepth 65536 in
set_option maxHeartbeats 4000000 in
theorem rm_pci {l : Launch} {Z : State} {a0 : Array Value} (hw : HW Z a0) (j : Int32) (n : Int32) (fw : Value)  {h0 : Heap} (hE : Ext Z.heap h0) (hj : ¬ j < 0 ∧ j < n) (Fr : fw.isRef = true) :
    OMeets l Z (⟨"jdk/internal/util/Preconditions", "checkIndex", "(IILjava/util/function/BiFunction;)I"⟩ : MethodName) jdk_41_method_11_code 3 (some .int) ({ frames := 0, cells := 0, slots := 0, locals := 0 } : Room) #[(.int j), (.int n), fw] h0 [] (fun v h => v = some (.int j) ∧ h0 = h) := by
  refine OMeets.body (plainFor_of_name pn2) hE #[.val (.int j), .val (.int n), .val fw] (fun m => by rcases ref_cases Fr with rfl | ⟨a, rfl⟩ <;> rfl) ?_
  intro p e s m below meth co T S
  refine Go.iloadN S d_jdk_41_method_11_code_0 rfl (pc' := 1) rfl ?_
  refine Go.if_lt S d_jdk_41_method_11_code_1 (pt := 9) (by decide) (pc' := 4) rfl ?_ ?_
  · intro c1; exact absurd c1 hj.1
  · intro c1
    refine Go.iloadN S d_jdk_41_method_11_code_4 rfl (pc' := 5) rfl ?_
    refine Go.iloadN S d_jdk_41_method_11_code_5 rfl (pc' := 6) rfl ?_
    refine Go.icmp_lt S d_jdk_41_method_11_code_6 (pt := 16) (by decide) (pc' := 9) rfl ?_ ?_
    · intro c6
      refine Go.iloadN S d_jdk_41_method_11_code_16 rfl (pc' := 17) rfl ?_
      exact Go.ireturn S rfl d_jdk_41_method_11_code_17 (by decide) (by decide) (⟨rfl, rfl⟩)
    · intro c6; exact absurd hj.2 c6
set_option maxRecDepth 65536 in
set_option maxHeartbeats 4000000 in
theorem rm_ci {l : Launch} {Z : State} {a0 : Array Value} (hw : HW Z a0) (j : Int32) (n : Int32) (fw : Value) {h0 : Heap} (hE : Ext Z.heap h0) (hj : ¬ j < 0 ∧ j < n) (Ff : Sta Z Z.heap "jdk/internal/util/Preconditions" "SIOOBE_FORMATTER" "Ljava/util/function/BiFunction;" fw) (Fr : fw.isRef = true) :
    OMeets l Z (⟨"java/lang/String", "checkIndex", "(II)V"⟩ : MethodName) jdk_42_method_155_code 2 none ({ frames := 1, cells := 0, slots := 0, locals := 14 } : Room) #[(.int j), (.int n)] h0 [] (fun v h => v = none ∧ h0 = h) := by
  refine OMeets.body (plainFor_of_name pn1) hE #[.val (.int j), .val (.int n)] (fun m => by first | rfl | (simp [entryFrame, mkF, argsToLocals, Value.category, maxLocals]; done)) ?_
  intro p e s m below meth co T S
  refine Go.iloadN S d_jdk_42_method_155_code_0 rfl (pc' := 1) rfl ?_
  refine Go.iloadN S d_jdk_42_method_155_code_1 rfl (pc' := 2) rfl ?_
  refine Go.getstatic S (host := "") (Or.inl (wd89 hw)) Via.refl Ff d_jdk_42_method_155_code_2 (pc' := 5) rfl ?_
  intro T1 S1
  refine Go.invokestatic S1 (y := ⟨"jdk/internal/util/Preconditions", "checkIndex", "(IILjava/util/function/BiFunction;)I"⟩) (rm_pci hw j n fw S1.ext hj Fr) (wd135 hw) (wd136 hw) (wd90 hw) (wd137 hw) (by decide) d_jdk_42_method_155_code_5 rfl pd4 (argsL := [(.int j), (.int n), fw]) rfl rfl rfl (by decide) (W := 0) rfl (by decide) (by decide) (by decide) all0 (pc' := 8) rfl ?_
  intro v2 T2 h2 L2 S2 K2 q2
  obtain ⟨rfl, rfl⟩ := q2
  show Go _ _ _ _ T2 (mkF m 8 #[.val (.int j), .val (.int n)] [(.int j)])
  refine Go.pop S2 d_jdk_42_method_155_code_8 rfl (pc' := 9) rfl ?_
  exact Go.vreturn S2 rfl d_jdk_42_method_155_code_9 (by decide) (by decide) (⟨rfl, rfl⟩)
theorem own_bat {cl : List Int32} {i : Nat} (h : i < cl.length) : (cl.map own_b).getD i 0 = own_b (cl.getD i 0) := by
  simp [List.getD_eq_getElem?_getD, List.getElem?_eq_getElem h]
theorem own_mem' {cl : List Int32} {i : Nat} (h : i < cl.length) : cl.getD i 0 ∈ cl := by
  rw [List.getD_eq_getElem?_getD, List.getElem?_eq_getElem h]
  exact List.getElem_mem h
set_option maxRecDepth 65536 in
set_option maxHeartbeats 4000000 in
theorem rm_l1ca {l : Launch} {Z : State} {a0 : Array Value} (hw : HW Z a0) (t : Addr) (kb : ClassId) (cl : List Int32) (i : Nat) (hi : i < cl.length) (hl : cl.length < 100) (hc : ∀ z ∈ cl, ¬ z < 0 ∧ ¬ 255 < z) (fw : Value) {h0 : Heap} (hE : Ext Z.heap h0) (VS : Arv Z h0 t kb .byte cl.length.toInt32 ((cl.map own_b).map Value.int) (.int 0)) (Ff : Sta Z Z.heap "jdk/internal/util/Preconditions" "SIOOBE_FORMATTER" "Ljava/util/function/BiFunction;" fw) (Fr : fw.isRef = true) :
    OMeets l Z (⟨"java/lang/StringLatin1", "charAt", "([BI)C"⟩ : MethodName) jdk_43_method_2_code 2 (some .char) ({ frames := 2, cells := 0, slots := 0, locals := 27 } : Room) #[(.ref t), (.int i.toInt32)] h0 [] (fun v h => v = some (.int (cl.getD i 0)) ∧ h0 = h) := by
  refine OMeets.body (plainFor_of_name pn3) hE #[.val (.ref t), .val (.int i.toInt32)] (fun m => by first | rfl | (simp [entryFrame, mkF, argsToLocals, Value.category, maxLocals]; done)) ?_
  intro p e s m below meth co T S
  refine Go.iloadN S d_jdk_43_method_2_code_0 rfl (pc' := 1) rfl ?_
  refine Go.aloadN S d_jdk_43_method_2_code_1 rfl rfl (pc' := 2) rfl ?_
  refine Go.arraylength S VS d_jdk_43_method_2_code_2 (pc' := 3) rfl ?_
  refine Go.invokestatic S (y := ⟨"java/lang/String", "checkIndex", "(II)V"⟩) (rm_ci hw i.toInt32 cl.length.toInt32 fw S.ext (own_inb hi (by omega)) Ff Fr) (wd132 hw) (wd133 hw) (wd7 hw) (wd134 hw) (by decide) d_jdk_43_method_2_code_3 rfl pd5 (argsL := [(.int i.toInt32), (.int cl.length.toInt32)]) rfl rfl rfl (by decide) (W := 0) rfl (by decide) (by decide) (by decide) all0 (pc' := 6) rfl ?_
  intro v1 T1 h1 L1 S1 K1 q1
  obtain ⟨rfl, rfl⟩ := q1
  show Go _ _ _ _ T1 (mkF m 6 #[.val (.ref t), .val (.int i.toInt32)] [])
  refine Go.aloadN S1 d_jdk_43_method_2_code_6 rfl rfl (pc' := 7) rfl ?_
  refine Go.iloadN S1 d_jdk_43_method_2_code_7 rfl (pc' := 8) rfl ?_
  refine Go.baload S1 VS (own_inb hi (by omega)) (v := (.int (own_b (cl.getD i 0)))) ((own_at (i := i) (by omega)).trans (congrArg Value.int (own_bat hi))) d_jdk_43_method_2_code_8 (pc' := 9) rfl ?_
  refine Go.sipush S1 (v := 255) d_jdk_43_method_2_code_9 rfl (pc' := 12) rfl ?_
  refine Go.iand S1 d_jdk_43_method_2_code_12 (pc' := 13) rfl ?_
  refine Go.i2c S1 d_jdk_43_method_2_code_13 (pc' := 14) rfl ?_
  exact Go.zreturn S1 rfl (by decide) d_jdk_43_method_2_code_14 (z' := (cl.getD i 0)) (own_ub (hc _ (own_mem' hi)).1 (hc _ (own_mem' hi)).2) (by decide) (by decide) (⟨rfl, rfl⟩)
theorem own_narc {z : Int32} (h0 : ¬ z < 0) (h1 : ¬ 65535 < z) : nar .char z = z := by
  have d := c_i2c z
  have e0 : (0 : Int32).toInt = 0 := rfl
  have e255 : (65535 : Int32).toInt = 65535 := rfl
  rw [Int32.lt_iff_toInt_lt] at h0 h1
  rw [← Int32.toInt_inj]
  show (z.toUInt32.toUInt16.toUInt32.toInt32).toInt = _
  omega
theorem own_big {z : Int32} (h : ¬ 255 < z) : ¬ 65535 < z := by
  have e1 : (255 : Int32).toInt = 255 := rfl
  have e2 : (65535 : Int32).toInt = 65535 := rfl
  rw [Int32.lt_iff_toInt_lt] at *
  omega
set_option maxRecDepth 65536 in
set_option maxHeartbeats 4000000 in
theorem rm_charAt {l : Launch} {Z : State} {a0 : Array Value} (hw : HW Z a0) (o : Addr) (t : Addr) (kb : ClassId) (cl : List Int32) (i : Nat) (hi : i < cl.length) (hl : cl.length < 100) (hc : ∀ z ∈ cl, ¬ z < 0 ∧ ¬ 255 < z) (fw : Value) (cs : Int32) {h0 : Heap} (hE : Ext Z.heap h0) (A : StrAt Z h0 o t kb (cl.map own_b)) (Ff : Sta Z Z.heap "jdk/internal/util/Preconditions" "SIOOBE_FORMATTER" "Ljava/util/function/BiFunction;" fw) (Fr : fw.isRef = true) (Cs : Sta Z Z.heap "java/lang/String" "COMPACT_STRINGS" "Z" (.int cs)) (Cn : ¬ cs = 0) :
    OMeets l Z (⟨"java/lang/String", "charAt", "(I)C"⟩ : MethodName) jdk_42_method_56_code 2 (some .char) ({ frames := 3, cells := 0, slots := 0, locals := 41 } : Room) #[(.ref o), (.int i.toInt32)] h0 [] (fun v h => v = some (.int (cl.getD i 0)) ∧ h0 = h) := by
  refine OMeets.body (plainFor_of_name pn1) hE #[.val (.ref o), .val (.int i.toInt32)] (fun m => by first | rfl | (simp [entryFrame, mkF, argsToLocals, Value.category, maxLocals]; done)) ?_
  intro p e s m below meth co T S
  refine Go.aloadN S d_jdk_42_method_56_code_0 rfl rfl (pc' := 1) rfl ?_
  refine Go.invokevirtual S (y := ⟨"java/lang/String", "isLatin1", "()Z"⟩) (rm_isl1 hw o cs S.ext A.2.1 Cs Cn) (wd123 hw) (wd124 hw) (S.nf (wd126 hw)) (wd126 hw) (wd125 hw) (wd7 hw) (wd127 hw) (by decide) A.1 d_jdk_42_method_56_code_1 rfl pd6 (argsL := []) rfl rfl rfl (by decide) (W := 0) rfl (by decide) (by decide) (by decide) all0 (pc' := 4) rfl ?_
  intro v1 T1 h1 L1 S1 K1 q1
  obtain ⟨rfl, rfl⟩ := q1
  show Go _ _ _ _ T1 (mkF m 4 #[.val (.ref o), .val (.int i.toInt32)] [(.int (1 : Int32))])
  refine Go.if_eq S1 d_jdk_42_method_56_code_4 (pt := 16) (by decide) (pc' := 7) rfl ?_ ?_
  · intro c4; exact absurd c4 (by decide)
  · intro c4
    refine Go.aloadN S1 d_jdk_42_method_56_code_7 rfl rfl (pc' := 8) rfl ?_
    refine Go.getfield S1 (host := "") (Or.inl (wd24 hw)) Via.refl A.2.2.1 d_jdk_42_method_56_code_8 (pc' := 11) rfl ?_
    intro T2 S2
    refine Go.iloadN S2 d_jdk_42_method_56_code_11 rfl (pc' := 12) rfl ?_
    refine Go.invokestatic S2 (y := ⟨"java/lang/StringLatin1", "charAt", "([BI)C"⟩) (rm_l1ca hw t kb cl i hi hl hc fw S2.ext (by have q := A.2.2.2.1; rw [List.length_map] at q; exact q) Ff Fr) (wd128 hw) (wd129 hw) (wd130 hw) (wd131 hw) (by decide) d_jdk_42_method_56_code_12 rfl pd7 (argsL := [(.ref t), (.int i.toInt32)]) rfl rfl rfl (by decide) (W := 0) rfl (by decide) (by decide) (by decide) all0 (pc' := 15) rfl ?_
    intro v3 T3 h3 L3 S3 K3 q3
    obtain ⟨rfl, rfl⟩ := q3
    show Go _ _ _ _ T3 (mkF m 15 #[.val (.ref o), .val (.int i.toInt32)] [(.int (cl.getD i 0))])
    exact Go.zreturn S3 rfl (by decide) d_jdk_42_method_56_code_15 (z' := (cl.getD i 0)) (own_narc (hc _ (own_mem' hi)).1 (own_big (hc _ (own_mem' hi)).2)) (by decide) (by decide) (⟨rfl, rfl⟩)
set_option maxRecDepth 65536 in
set_option maxHeartbeats 4000000 in
theorem rm_coder {l : Launch} {Z : State} {a0 : Array Value} (hw : HW Z a0) (o : Addr) (cs : Int32) {h0 : Heap} (hE : Ext Z.heap h0) (Fc : Fld Z h0 o "java/lang/String" "coder" "B" (.int 0)) (Cs : Sta Z Z.heap "java/lang/String" "COMPACT_STRINGS" "Z" (.int cs)) (Cn : ¬ cs = 0) :
    OMeets l Z (⟨"java/lang/String", "coder", "()B"⟩ : MethodName) jdk_42_method_152_code 1 (some .byte) ({ frames := 0, cells := 0, slots := 0, locals := 0 } : Room) #[(.ref o)] h0 [] (fun v h => v = some (.int 0) ∧ h0 = h) := by
  refine OMeets.body (plainFor_of_name pn1) hE #[.val (.ref o)] (fun m => by first | rfl | (simp [entryFrame, mkF, argsToLocals, Value.category, maxLocals]; done)) ?_
  intro p e s m below meth co T S
  refine Go.getstatic S (host := "") (Or.inl (wd69 hw)) Via.refl Cs d_jdk_42_method_152_code_0 (pc' := 3) rfl ?_
  intro T1 S1
  refine Go.if_eq S1 d_jdk_42_method_152_code_3 (pt := 13) (by decide) (pc' := 6) rfl ?_ ?_
  · intro c3; exact absurd c3 Cn
  · intro c3
    refine Go.aloadN S1 d_jdk_42_method_152_code_6 rfl rfl (pc' := 7) rfl ?_
    refine Go.getfield S1 (host := "") (Or.inl (wd25 hw)) Via.refl Fc d_jdk_42_method_152_code_7 (pc' := 10) rfl ?_
    intro T2 S2
    refine Go.goto S2 d_jdk_42_method_152_code_10 (pc' := 14) (by decide) ?_
    exact Go.zreturn S2 rfl (by decide) d_jdk_42_method_152_code_14 (z' := (0 : Int32)) rfl (by decide) (by decide) (⟨rfl, rfl⟩)
theorem own_cc (z : Int32) : ¬ (z &&& 255).toUInt32.toUInt16.toUInt32.toInt32 < 0 ∧ ¬ 255 < (z &&& 255).toUInt32.toUInt16.toUInt32.toInt32 := by
  have b := c_mask z 255 8 (by decide) (by decide)
  have d := c_i2c (z &&& 255)
  have e0 : (0 : Int32).toInt = 0 := rfl
  have e255 : (255 : Int32).toInt = 255 := rfl
  simp only [Int32.lt_iff_toInt_lt]
  omega
theorem own_nc {z : Int32} (h : ¬ z < 0 ∧ ¬ 255 < z) : nar .char z = z := by
  have d := c_i2c z
  have e0 : (0 : Int32).toInt = 0 := rfl
  have e255 : (255 : Int32).toInt = 255 := rfl
  obtain ⟨h0, h1⟩ := h
  rw [Int32.lt_iff_toInt_lt] at h0 h1
  rw [← Int32.toInt_inj]
  show (z.toUInt32.toUInt16.toUInt32.toInt32).toInt = _
  omega
theorem own_b91 : own_b 91 = 91 := by decide
theorem own_b93 : own_b 93 = 93 := by decide
theorem own_b32 : own_b 32 = 32 := by decide
theorem own_shr0 (n : Int32) : n >>> ((0 : Int32) &&& 31) = n := by
  have a := c_ishr n 0 0 (by decide)
  rw [← Int32.toInt_inj, a]
  simp
theorem own_addN {a b : Nat} (h : a + b < 2147483648) : a.toInt32 + b.toInt32 = (a + b).toInt32 := by
  rw [← Int32.toInt_inj, own_toInt h]
  have q := c_iadd a.toInt32 b.toInt32
  have r := rng32 (a.toInt32 + b.toInt32)
  rw [own_toInt (i := a) (by omega), own_toInt (i := b) (by omega)] at q
  omega
theorem own_nn {i : Nat} (h : i < 2147483648) : ¬ i.toInt32 < 0 := by
  rw [Int32.lt_iff_toInt_lt, own_toInt h]
  have e0 : (0 : Int32).toInt = 0 := rfl
  omega
theorem own_nl {i j : Nat} (h : j ≤ i) (hi : i < 2147483648) : ¬ i.toInt32 < j.toInt32 := fun q => absurd ((own_ltn (by omega) (by omega)).mp q) (by omega)
theorem own_ft {i j n : Nat} (h1 : i ≤ j) (h2 : j ≤ n) (h : n < 2147483648) : ¬ i.toInt32 < 0 ∧ ¬ j.toInt32 < i.toInt32 ∧ ¬ n.toInt32 < j.toInt32 := ⟨own_nn (by omega), own_nl h1 (by omega), own_nl h2 h⟩
theorem own_inj {i j : Nat} (hi : i < 2147483648) (hj : j < 2147483648) (q : i.toInt32 = j.toInt32) : i = j := by
  have z := congrArg Int32.toInt q
  rw [own_toInt hi, own_toInt hj] at z
  omega
theorem own_ns {i j k : Nat} (h1 : i ≤ j) (h2 : j ≤ k) (c : ¬ (i.toInt32 = 0 ∧ j.toInt32 = k.toInt32)) : k ≠ 0 ∧ j - i ≠ k := by
  have z : ¬ (i = 0 ∧ j = k) := fun ⟨a, b⟩ => c ⟨by rw [a]; rfl, by rw [b]⟩
  omega
theorem own_ne7 {i n k : Nat} (h : i + n < 2147483648) (hk : k < 2147483648) (c : i.toInt32 = 0) (hne : n ≠ k) : ¬ (i + n).toInt32 = k.toInt32 := fun q => by
  have a := own_inj h hk q
  have b := own_inj (i := i) (j := 0) (by omega) (by omega) c
  omega
theorem own_subA {i n : Nat} (h : i + n < 2147483648) : (i + n).toInt32 - i.toInt32 = n.toInt32 := by
  rw [own_sub (by omega) h, Nat.add_sub_cancel_left]
theorem own_asym {a b : Int32} (h : ¬ a < b) (h' : ¬ b < a) : a = b := by
  rw [Int32.lt_iff_toInt_lt] at h h'
  rw [← Int32.toInt_inj]
  omega
theorem own_zeros (n k i : Nat) : (List.replicate k (Value.int 0)).getD i (.int 0) = (List.replicate n (Value.int 0)).getD i (.int 0) := by
  simp only [List.getD_eq_getElem?_getD, List.getElem?_replicate]
  split <;> split <;> rfl
theorem own_m3 {z k : Int32} (h : z &&& 3 = k) (h0 : ¬ k = 0) (h1 : ¬ k = 1) (h2 : ¬ k = 2) : k = 3 := by
  have b := c_mask z 3 2 (by decide) (by decide)
  rw [h] at b
  rw [← Int32.toInt_inj] at *
  have e0 : (0 : Int32).toInt = 0 := rfl
  have e1 : (1 : Int32).toInt = 1 := rfl
  have e2 : (2 : Int32).toInt = 2 := rfl
  have e3 : (3 : Int32).toInt = 3 := rfl
  omega
/-- the spaces of a line -/
def own_sp : List Int32 → Nat
  | [] => 0
  | u :: us => (if u = 32 then 1 else 0) + own_sp us
def own_s (u : Int32) : Int32 := if u = 32 then 1 else 0
theorem own_sp_le (cl : List Int32) : own_sp cl ≤ cl.length := by
  induction cl with
  | nil => exact Nat.le_refl _
  | cons u us ih =>
    simp only [own_sp, List.length_cons]
    split <;> omega
theorem own_sp_at {cl : List Int32} {j : Nat} (h : j < cl.length) : own_sp (cl.drop j) = (if cl.getD j 0 = 32 then 1 else 0) + own_sp (cl.drop (j + 1)) := by
  rw [List.drop_eq_getElem_cons h, List.getD_eq_getElem?_getD, List.getElem?_eq_getElem h]
  rfl
theorem own_sp_end {cl : List Int32} {j : Nat} (h : cl.length ≤ j) : own_sp (cl.drop j) = 0 := by
  rw [List.drop_eq_nil_of_le h]
  rfl
/-- newString's empty text is not interned yet, or its entry is loaded -/
def Elt (Z : State) (vm : Vm) (h : Heap) : Prop := IB Z vm [] ∨ ∃ a, LitV Z vm "java/lang/StringLatin1" 151 a ∧ Exa Z h a "java/lang/String"
/-- the same, or the line is empty -/
def Elv (Z : State) (vm : Vm) (h : Heap) (bs : List Int32) : Prop := bs = [] ∨ Elt Z vm h
section
variable {Z sb : State} {vm : Vm} {h h' : Heap} {bs : List Int32} {ws : List Addr} {b : Addr} {sl : Nat} {w : Value}
theorem Elt.warm (E : Elt Z sb.vm h) (q : sb.WarmedH vm) : Elt Z vm h := by
  rcases E with I | ⟨a, L, X⟩
  · exact Or.inl (IB.warm I q)
  · exact Or.inr ⟨a, L.warm q, X⟩
theorem Elt.ext (E : Elt Z vm h) (q : Ext h h') : Elt Z vm h' := E.imp id fun ⟨a, L, X⟩ => ⟨a, L, X.ext q⟩
theorem Elt.wr (E : Elt Z vm h) (q : Wr h h' b sl w) : Elt Z vm h' := E.imp id fun ⟨a, L, X⟩ => ⟨a, L, X.wr q⟩
theorem Elt.keep (E : Elt Z vm h) (q : Keep h h' ws) : Elt Z vm h' := E.imp id fun ⟨a, L, X⟩ => ⟨a, L, X.keep q⟩
theorem Elv.warm (E : Elv Z sb.vm h bs) (q : sb.WarmedH vm) : Elv Z vm h bs := E.imp id fun z => z.warm q
theorem Elv.ext (E : Elv Z vm h bs) (q : Ext h h') : Elv Z vm h' bs := E.imp id fun z => z.ext q
theorem Elv.wr (E : Elv Z vm h bs) (q : Wr h h' b sl w) : Elv Z vm h' bs := E.imp id fun z => z.wr q
theorem Elv.keep (E : Elv Z vm h bs) (q : Keep h h' ws) : Elv Z vm h' bs := E.imp id fun z => z.keep q
end
set_option maxRecDepth 65536 in
set_option maxHeartbeats 4000000 in
theorem rm_slen {l : Launch} {Z : State} {a0 : Array Value} (hw : HW Z a0) (so : Addr) (ts : Addr) (kb : ClassId) (xs : List Int32) (cs : Int32) {h0 : Heap} (hE : Ext Z.heap h0) (A : StrAt Z h0 so ts kb xs) (Cs : Sta Z Z.heap "java/lang/String" "COMPACT_STRINGS" "Z" (.int cs)) (Cn : ¬ cs = 0) :
    OMeets l Z (⟨"java/lang/String", "length", "()I"⟩ : MethodName) jdk_42_method_54_code 1 (some .int) ({ frames := 1, cells := 0, slots := 0, locals := 13 } : Room) #[(.ref so)] h0 [] (fun v h => v = some (.int xs.length.toInt32) ∧ h0 = h) := by
  refine OMeets.body (plainFor_of_name pn1) hE #[.val (.ref so)] (fun m => by first | rfl | (simp [entryFrame, mkF, argsToLocals, Value.category, maxLocals]; done)) ?_
  intro p e s m below meth co T S
  refine Go.aloadN S d_jdk_42_method_54_code_0 rfl rfl (pc' := 1) rfl ?_
  refine Go.getfield S (host := "") (Or.inl (wd24 hw)) Via.refl A.2.2.1 d_jdk_42_method_54_code_1 (pc' := 4) rfl ?_
  intro T1 S1
  refine Go.arraylength S1 A.2.2.2.1 d_jdk_42_method_54_code_4 (pc' := 5) rfl ?_
  refine Go.aloadN S1 d_jdk_42_method_54_code_5 rfl rfl (pc' := 6) rfl ?_
  refine Go.invokevirtual S1 (y := ⟨"java/lang/String", "coder", "()B"⟩) (rm_coder hw so cs S1.ext A.2.1 Cs Cn) (wd64 hw) (wd65 hw) (S1.nf (wd67 hw)) (wd67 hw) (wd66 hw) (wd7 hw) (wd68 hw) (by decide) A.1 d_jdk_42_method_54_code_6 rfl pd8 (argsL := []) rfl rfl rfl (by decide) (W := 1) rfl (by decide) (by decide) (by decide) all0 (pc' := 9) rfl ?_
  intro v2 T2 h2 L2 S2 K2 q2
  obtain ⟨rfl, rfl⟩ := q2
  show Go _ _ _ _ T2 (mkF m 9 #[.val (.ref so)] [(.int (0 : Int32)), (.int xs.length.toInt32)])
  refine Go.ishr S2 d_jdk_42_method_54_code_9 (pc' := 10) rfl ?_
  exact Go.ireturn S2 rfl d_jdk_42_method_54_code_10 (by decide) (by decide) (⟨by rw [own_shr0], rfl⟩)
set_option maxRecDepth 65536 in
set_option maxHeartbeats 4000000 in
theorem rm_draw {l : Launch} {Z : State} {a0 : Array Value} (hw : HW Z a0) (z0 : Int32)  {h0 : Heap} (hE : Ext Z.heap h0) :
    OMeets l Z (⟨"com/example/markmint/markmint/core/store/FieldsHasNextPinLaw", "draw", "(I)C"⟩ : MethodName) method_2_code 1 (some .char) ({ frames := 0, cells := 0, slots := 0, locals := 0 } : Room) #[(.int z0)] h0 [] (fun v h => (∃ w, v = some (.int w) ∧ ¬ w < 0 ∧ ¬ 255 < w) ∧ h0 = h) := by
  refine OMeets.body (plainFor_of_name pn4) hE #[.val (.int z0)] (fun m => by first | rfl | (simp [entryFrame, mkF, argsToLocals, Value.category, maxLocals]; done)) ?_
  intro p e s m below meth co T S
  refine Go.iloadN S d_method_2_code_0 rfl (pc' := 1) rfl ?_
  refine Go.sipush S (v := 256) d_method_2_code_1 rfl (pc' := 4) rfl ?_
  refine Go.iand S d_method_2_code_4 (pc' := 5) rfl ?_
  refine Go.if_eq S d_method_2_code_5 (pt := 13) (by decide) (pc' := 8) rfl ?_ ?_
  · intro c5
    refine Go.iloadN S d_method_2_code_13 rfl (pc' := 14) rfl ?_
    refine Go.sipush S (v := 255) d_method_2_code_14 rfl (pc' := 17) rfl ?_
    refine Go.iand S d_method_2_code_17 (pc' := 18) rfl ?_
    refine Go.i2c S d_method_2_code_18 (pc' := 19) rfl ?_
    exact Go.zreturn S rfl (by decide) d_method_2_code_19 (z' := ((z0 &&& (255 : Int32)).toUInt32.toUInt16.toUInt32.toInt32)) (own_nc (own_cc z0)) (by decide) (by decide) (⟨⟨_, rfl, own_cc z0⟩, rfl⟩)
  · intro c5
    refine Go.bipush S (v := 32) d_method_2_code_8 rfl (pc' := 10) rfl ?_
    refine Go.goto S d_method_2_code_10 (pc' := 19) (by decide) ?_
    exact Go.zreturn S rfl (by decide) d_method_2_code_19 (z' := (32 : Int32)) (by decide) (by decide) (by decide) (⟨⟨_, rfl, by decide⟩, rfl⟩)
set_option maxRecDepth 65536 in
set_option maxHeartbeats 4000000 in
theorem rm_sp {l : Launch} {Z : State} {a0 : Array Value} (hw : HW Z a0) (u0 : Int32)  {h0 : Heap} (hE : Ext Z.heap h0) :
    OMeets l Z (⟨"com/example/markmint/markmint/core/store/FieldsHasNextPinLaw", "sp", "(C)I"⟩ : MethodName) method_3_code 1 (some .int) ({ frames := 0, cells := 0, slots := 0, locals := 0 } : Room) #[(.int u0)] h0 [] (fun v h => v = some (.int (own_s u0)) ∧ h0 = h) := by
  refine OMeets.body (plainFor_of_name pn4) hE #[.val (.int u0)] (fun m => by first | rfl | (simp [entryFrame, mkF, argsToLocals, Value.category, maxLocals]; done)) ?_
  intro p e s m below meth co T S
  refine Go.iloadN S d_method_3_code_0 rfl (pc' := 1) rfl ?_
  refine Go.bipush S (v := 32) d_method_3_code_1 rfl (pc' := 3) rfl ?_
  refine Go.icmp_ne S d_method_3_code_3 (pt := 10) (by decide) (pc' := 6) rfl ?_ ?_
  · intro c3
    refine Go.iconst S (v := 0) d_method_3_code_10 rfl (pc' := 11) rfl ?_
    exact Go.ireturn S rfl d_method_3_code_11 (by decide) (by decide) (⟨by unfold own_s; rw [if_neg c3], rfl⟩)
  · intro c3
    refine Go.iconst S (v := 1) d_method_3_code_6 rfl (pc' := 7) rfl ?_
    refine Go.goto S d_method_3_code_7 (pc' := 11) (by decide) ?_
    exact Go.ireturn S rfl d_method_3_code_11 (by decide) (by decide) (⟨by unfold own_s; rw [if_pos c3], rfl⟩)
set_option maxRecDepth 65536 in
set_option maxHeartbeats 4000000 in
theorem rm_finit {l : Launch} {Z : State} {a0 : Array Value} (hw : HW Z a0) (fo : Addr) (o : Addr)  {h0 : Heap} (hE : Ext Z.heap h0) (hz : Z.heap.size ≤ fo) (E : Exa Z h0 fo "com/example/markmint/markmint/core/store/Fields") (Fl : Fld Z h0 fo "com/example/markmint/markmint/core/store/Fields" "line" "Ljava/lang/CharSequence;" .null) (Fn : Fld Z h0 fo "com/example/markmint/markmint/core/store/Fields" "next" "I" (.int 0)) :
    OMeets l Z (⟨"com/example/markmint/markmint/core/store/Fields", "<init>", "(Ljava/lang/CharSequence;)V"⟩ : MethodName) prog_45_method_1_code 2 none ({ frames := 1, cells := 0, slots := 0, locals := 12 } : Room) #[(.ref fo), (.ref o)] h0 [fo] (fun v h => v = none ∧ Fld Z h fo "com/example/markmint/markmint/core/store/Fields" "line" "Ljava/lang/CharSequence;" (.ref o) ∧ Fld Z h fo "com/example/markmint/markmint/core/store/Fields" "next" "I" (.int 0)) := by
  refine OMeets.body (plainFor_of_name pn5) hE #[.val (.ref fo), .val (.ref o)] (fun m => by first | rfl | (simp [entryFrame, mkF, argsToLocals, Value.category, maxLocals]; done)) ?_
  intro p e s m below meth co T S
  refine Go.aloadN S d_prog_45_method_1_code_0 rfl rfl (pc' := 1) rfl ?_
  refine Go.initObject S (wd32 hw) (wd16 hw) (wd17 hw) d_prog_45_method_1_code_1 rfl (by decide) (W := 0) rfl (by decide) (pc' := 4) rfl ?_
  intro T1 S1
  refine Go.aloadN S1 d_prog_45_method_1_code_4 rfl rfl (pc' := 5) rfl ?_
  refine Go.aloadN S1 d_prog_45_method_1_code_5 rfl rfl (pc' := 6) rfl ?_
  refine Go.putfield S1 (host := "") (Or.inl (wd33 hw)) Via.refl Fl E (Or.inr ⟨(wd34 hw), rfl, rfl⟩) (wd27 hw) (ty := (.object "java/lang/CharSequence")) (by decide) rfl rfl hz (Or.inl (List.mem_singleton.mpr rfl)) d_prog_45_method_1_code_6 (pc' := 9) rfl ?_
  intro T2 h2 L2 S2 W2
  have F2 := Fl.same W2
  replace Fn := Fn.other W2 (Or.inr (slot_ne (Or.inl (wd41 hw)) (Or.inr (wd34 hw)) (by decide) (t := .int) (t' := (.object "java/lang/CharSequence")) (by decide) (by decide)))
  replace E := E.wr W2
  exact Go.vreturn S2 rfl d_prog_45_method_1_code_9 (by decide) (by decide) (⟨rfl, F2, Fn⟩)
set_option maxRecDepth 65536 in
set_option maxHeartbeats 4000000 in
theorem rm_hasNext {l : Launch} {Z : State} {a0 : Array Value} (hw : HW Z a0) (fo : Addr) (nx : Int32) {h0 : Heap} (hE : Ext Z.heap h0) (Fn : Fld Z h0 fo "com/example/markmint/markmint/core/store/Fields" "next" "I" (.int nx)) :
    OMeets l Z (⟨"com/example/markmint/markmint/core/store/Fields", "hasNext", "()Z"⟩ : MethodName) prog_45_method_2_code 1 (some .boolean) ({ frames := 0, cells := 0, slots := 0, locals := 0 } : Room) #[(.ref fo)] h0 [] (fun v h => v = some (.int (if nx < 0 then 0 else 1)) ∧ h0 = h) := by
  refine OMeets.body (plainFor_of_name pn5) hE #[.val (.ref fo)] (fun m => by first | rfl | (simp [entryFrame, mkF, argsToLocals, Value.category, maxLocals]; done)) ?_
  intro p e s m below meth co T S
  refine Go.aloadN S d_prog_45_method_2_code_0 rfl rfl (pc' := 1) rfl ?_
  refine Go.getfield S (host := "") (Or.inl (wd40 hw)) Via.refl Fn d_prog_45_method_2_code_1 (pc' := 4) rfl ?_
  intro T1 S1
  refine Go.if_lt S1 d_prog_45_method_2_code_4 (pt := 11) (by decide) (pc' := 7) rfl ?_ ?_
  · intro c4
    refine Go.iconst S1 (v := 0) d_prog_45_method_2_code_11 rfl (pc' := 12) rfl ?_
    exact Go.zreturn S1 rfl (by decide) d_prog_45_method_2_code_12 (z' := (0 : Int32)) rfl (by decide) (by decide) (⟨by rw [if_pos c4], rfl⟩)
  · intro c4
    refine Go.iconst S1 (v := 1) d_prog_45_method_2_code_7 rfl (pc' := 8) rfl ?_
    refine Go.goto S1 d_prog_45_method_2_code_8 (pc' := 12) (by decide) ?_
    exact Go.zreturn S1 rfl (by decide) d_prog_45_method_2_code_12 (z' := (1 : Int32)) rfl (by decide) (by decide) (⟨by rw [if_neg c4], rfl⟩)
set_option maxRecDepth 65536 in
set_option maxHeartbeats 4000000 in
theorem rm_start {l : Launch} {Z : State} {a0 : Array Value} (hw : HW Z a0) (fo : Addr) (i : Nat) {h0 : Heap} (hE : Ext Z.heap h0) (Fn : Fld Z h0 fo "com/example/markmint/markmint/core/store/Fields" "next" "I" (.int i.toInt32)) (hnn : ¬ i.toInt32 < 0) :
    OMeets l Z (⟨"com/example/markmint/markmint/core/store/Fields", "start", "()I"⟩ : MethodName) prog_45_method_5_code 1 (some .int) ({ frames := 0, cells := 0, slots := 0, locals := 0 } : Room) #[(.ref fo)] h0 [] (fun v h => v = some (.int i.toInt32) ∧ h0 = h) := by
  refine OMeets.body (plainFor_of_name pn5) hE #[.val (.ref fo)] (fun m => by first | rfl | (simp [entryFrame, mkF, argsToLocals, Value.category, maxLocals]; done)) ?_
  intro p e s m below meth co T S
  refine Go.aloadN S d_prog_45_method_5_code_0 rfl rfl (pc' := 1) rfl ?_
  refine Go.getfield S (host := "") (Or.inl (wd40 hw)) Via.refl Fn d_prog_45_method_5_code_1 (pc' := 4) rfl ?_
  intro T1 S1
  refine Go.if_ge S1 d_prog_45_method_5_code_4 (pt := 17) (by decide) (pc' := 7) rfl ?_ ?_
  · intro c4
    refine Go.aloadN S1 d_prog_45_method_5_code_17 rfl rfl (pc' := 18) rfl ?_
    refine Go.getfield S1 (host := "") (Or.inl (wd40 hw)) Via.refl Fn d_prog_45_method_5_code_18 (pc' := 21) rfl ?_
    intro T2 S2
    exact Go.ireturn S2 rfl d_prog_45_method_5_code_21 (by decide) (by decide) (⟨rfl, rfl⟩)
  · intro c4; exact absurd c4 hnn
set_option maxRecDepth 65536 in
set_option maxHeartbeats 4000000 in
theorem own_endloop {p : Program} {l : Launch} {e : Env} {s : State} {m : MethodId} {args : Array Value} {below : List Frame} {meth : Method} {co : Code} {Z : State} {a0 : Array Value} (hw : HW Z a0) (fo : Addr) (o t : Addr) (kb : ClassId) (cl : List Int32) (i : Nat) (fw : Value) (cs : Int32) {h0 : Heap} (hl : cl.length ≤ 3) (hcl : ∀ z ∈ cl, ¬ z < 0 ∧ ¬ 255 < z) (Fl : Fld Z h0 fo "com/example/markmint/markmint/core/store/Fields" "line" "Ljava/lang/CharSequence;" (.ref o)) (A : StrAt Z h0 o t kb (cl.map own_b)) (Ff : Sta Z Z.heap "jdk/internal/util/Preconditions" "SIOOBE_FORMATTER" "Ljava/util/function/BiFunction;" fw) (Fr : fw.isRef = true) (Cs : Sta Z Z.heap "java/lang/String" "COMPACT_STRINGS" "Z" (.int cs)) (Cn : ¬ cs = 0) (n : Nat) : ∀ (j : Nat) (T : State) (locs : List Loc), St p l e ({ frames := 4, cells := 0, slots := 0, locals := 54 } : Room) s m args below meth co Z "com/example/markmint/markmint/core/store/Fields" prog_45_method_6_code 3 (some .int) "end" h0 [] T h0 locs 0 0 → j + n = cl.length → i ≤ j → own_sp (cl.drop i) = own_sp (cl.drop j) → Go p e below (PostOf Z s h0 [] ({ frames := 4, cells := 0, slots := 0, locals := 54 } : Room).cells ({ frames := 4, cells := 0, slots := 0, locals := 54 } : Room).slots (fun v h => (∃ qe : Nat, v = some (.int qe.toInt32) ∧ i ≤ qe ∧ qe ≤ cl.length ∧ ((qe < cl.length ∧ own_sp (cl.drop i) = 1 + own_sp (cl.drop (qe + 1))) ∨ (qe = cl.length ∧ own_sp (cl.drop i) = 0))) ∧ h0 = h)) T (mkF m 2 #[.val (.ref fo), .val (.int i.toInt32), .val (.int j.toInt32)] []) := by
  induction n with
  | zero =>
    intro j T locs S hn hij ht
    refine Go.iloadN S d_prog_45_method_6_code_2 rfl (pc' := 3) rfl ?_
    refine Go.aloadN S d_prog_45_method_6_code_3 rfl rfl (pc' := 4) rfl ?_
    refine Go.getfield S (host := "") (Or.inl (wd33 hw)) Via.refl Fl d_prog_45_method_6_code_4 (pc' := 7) rfl ?_
    intro T1 S1
    refine Go.invokeinterface S1 (y := ⟨"java/lang/String", "length", "()I"⟩) (rm_slen hw o t kb (cl.map own_b) cs S1.ext A Cs Cn) (wd55 hw) (wd56 hw) (wd57 hw) (by first | rfl | decide) (wd58 hw) (wd59 hw) (wd60 hw) (wd61 hw) (wd62 hw) (wd7 hw) (wd63 hw) (by decide) A.1 d_prog_45_method_6_code_7 rfl pd9 (argsL := []) rfl rfl rfl (by decide) (W := 1) rfl (by decide) (by decide) (by decide) all0 (pc' := 12) rfl ?_
    intro v2 T2 h2 L2 S2 K2 q2
    rw [List.length_map] at q2
    obtain ⟨rfl, rfl⟩ := q2
    show Go _ _ _ _ T2 (mkF m 12 #[.val (.ref fo), .val (.int i.toInt32), .val (.int j.toInt32)] [(.int cl.length.toInt32), (.int j.toInt32)])
    refine Go.icmp_ge S2 d_prog_45_method_6_code_12 (pt := 36) (by decide) (pc' := 15) rfl ?_ ?_
    · intro c12
      refine Go.iloadN S2 d_prog_45_method_6_code_36 rfl (pc' := 37) rfl ?_
      exact Go.ireturn S2 rfl d_prog_45_method_6_code_37 (by decide) (by decide) (⟨⟨j, rfl, hij, by omega, Or.inr ⟨by omega, by rw [ht]; exact own_sp_end (by omega)⟩⟩, rfl⟩)
    · intro c12; exact absurd c12 (own_nl (by omega) (by omega))
  | succ n ih =>
    intro j T locs S hn hij ht
    have hj : j < cl.length := by omega
    refine Go.iloadN S d_prog_45_method_6_code_2 rfl (pc' := 3) rfl ?_
    refine Go.aloadN S d_prog_45_method_6_code_3 rfl rfl (pc' := 4) rfl ?_
    refine Go.getfield S (host := "") (Or.inl (wd33 hw)) Via.refl Fl d_prog_45_method_6_code_4 (pc' := 7) rfl ?_
    intro T1 S1
    refine Go.invokeinterface S1 (y := ⟨"java/lang/String", "length", "()I"⟩) (rm_slen hw o t kb (cl.map own_b) cs S1.ext A Cs Cn) (wd55 hw) (wd56 hw) (wd57 hw) (by first | rfl | decide) (wd58 hw) (wd59 hw) (wd60 hw) (wd61 hw) (wd62 hw) (wd7 hw) (wd63 hw) (by decide) A.1 d_prog_45_method_6_code_7 rfl pd9 (argsL := []) rfl rfl rfl (by decide) (W := 1) rfl (by decide) (by decide) (by decide) all0 (pc' := 12) rfl ?_
    intro v2 T2 h2 L2 S2 K2 q2
    rw [List.length_map] at q2
    obtain ⟨rfl, rfl⟩ := q2
    show Go _ _ _ _ T2 (mkF m 12 #[.val (.ref fo), .val (.int i.toInt32), .val (.int j.toInt32)] [(.int cl.length.toInt32), (.int j.toInt32)])
    refine Go.icmp_ge S2 d_prog_45_method_6_code_12 (pt := 36) (by decide) (pc' := 15) rfl ?_ ?_
    · intro c12; exact absurd ((own_ltn (by omega) (by omega)).mpr hj) c12
    · intro c12
      refine Go.aloadN S2 d_prog_45_method_6_code_15 rfl rfl (pc' := 16) rfl ?_
      refine Go.getfield S2 (host := "") (Or.inl (wd33 hw)) Via.refl Fl d_prog_45_method_6_code_16 (pc' := 19) rfl ?_
      intro T3 S3
      refine Go.iloadN S3 d_prog_45_method_6_code_19 rfl (pc' := 20) rfl ?_
      refine Go.invokeinterface S3 (y := ⟨"java/lang/String", "charAt", "(I)C"⟩) (rm_charAt hw o t kb cl j hj (by omega) hcl fw cs S3.ext A Ff Fr Cs Cn) (wd115 hw) (wd116 hw) (wd117 hw) (by first | rfl | decide) (wd118 hw) (wd119 hw) (wd120 hw) (wd121 hw) (wd62 hw) (wd7 hw) (wd122 hw) (by decide) A.1 d_prog_45_method_6_code_20 rfl pd10 (argsL := [(.int j.toInt32)]) rfl rfl rfl (by decide) (W := 0) rfl (by decide) (by decide) (by decide) all0 (pc' := 25) rfl ?_
      intro v4 T4 h4 L4 S4 K4 q4
      obtain ⟨rfl, rfl⟩ := q4
      show Go _ _ _ _ T4 (mkF m 25 #[.val (.ref fo), .val (.int i.toInt32), .val (.int j.toInt32)] [(.int (cl.getD j 0))])
      refine Go.bipush S4 (v := 32) d_prog_45_method_6_code_25 rfl (pc' := 27) rfl ?_
      refine Go.icmp_eq S4 d_prog_45_method_6_code_27 (pt := 36) (by decide) (pc' := 30) rfl ?_ ?_
      · intro c27
        refine Go.iloadN S4 d_prog_45_method_6_code_36 rfl (pc' := 37) rfl ?_
        exact Go.ireturn S4 rfl d_prog_45_method_6_code_37 (by decide) (by decide) (⟨⟨j, rfl, hij, by omega, Or.inl ⟨hj, by rw [ht, own_sp_at hj, if_pos c27]⟩⟩, rfl⟩)
      · intro c27
        refine Go.iinc S4 d_prog_45_method_6_code_30 rfl (Ls' := #[.val (.ref fo), .val (.int i.toInt32), .val (.int (j.toInt32 + (1 : Int32)))]) rfl (pc' := 33) rfl ?_
        refine Go.goto S4 d_prog_45_method_6_code_33 (pc' := 2) (by decide) ?_
        rw [own_incN (by omega)]
        exact ih _ _ _ S4 (by omega) (by omega) (by rw [ht, own_sp_at hj, if_neg c27, Nat.zero_add])
set_option maxRecDepth 65536 in
set_option maxHeartbeats 4000000 in
theorem rm_end {l : Launch} {Z : State} {a0 : Array Value} (hw : HW Z a0) (fo : Addr) (o t : Addr) (kb : ClassId) (cl : List Int32) (i : Nat) (fw : Value) (cs : Int32) {h0 : Heap} (hE : Ext Z.heap h0) (hl : cl.length ≤ 3) (hcl : ∀ z ∈ cl, ¬ z < 0 ∧ ¬ 255 < z) (Fl : Fld Z h0 fo "com/example/markmint/markmint/core/store/Fields" "line" "Ljava/lang/CharSequence;" (.ref o)) (A : StrAt Z h0 o t kb (cl.map own_b)) (Ff : Sta Z Z.heap "jdk/internal/util/Preconditions" "SIOOBE_FORMATTER" "Ljava/util/function/BiFunction;" fw) (Fr : fw.isRef = true) (Cs : Sta Z Z.heap "java/lang/String" "COMPACT_STRINGS" "Z" (.int cs)) (Cn : ¬ cs = 0) (hi : i ≤ cl.length) :
    OMeets l Z (⟨"com/example/markmint/markmint/core/store/Fields", "end", "(I)I"⟩ : MethodName) prog_45_method_6_code 3 (some .int) ({ frames := 4, cells := 0, slots := 0, locals := 54 } : Room) #[(.ref fo), (.int i.toInt32)] h0 [] (fun v h => (∃ qe : Nat, v = some (.int qe.toInt32) ∧ i ≤ qe ∧ qe ≤ cl.length ∧ ((qe < cl.length ∧ own_sp (cl.drop i) = 1 + own_sp (cl.drop (qe + 1))) ∨ (qe = cl.length ∧ own_sp (cl.drop i) = 0))) ∧ h0 = h) := by
  refine OMeets.body (plainFor_of_name pn5) hE #[.val (.ref fo), .val (.int i.toInt32), .unset] (fun m => by first | rfl | (simp [entryFrame, mkF, argsToLocals, Value.category, maxLocals]; done)) ?_
  intro p e s m below meth co T S
  refine Go.iloadN S d_prog_45_method_6_code_0 rfl (pc' := 1) rfl ?_
  refine Go.istoreN S d_prog_45_method_6_code_1 (Ls' := #[.val (.ref fo), .val (.int i.toInt32), .val (.int i.toInt32)]) rfl (pc' := 2) rfl ?_
  exact own_endloop hw fo o t kb cl i fw cs hl hcl Fl A Ff Fr Cs Cn (cl.length - i) i _ _ S (by omega) (Nat.le_refl _) rfl
set_option maxRecDepth 65536 in
set_option maxHeartbeats 4000000 in
theorem rm_cft {l : Launch} {Z : State} {a0 : Array Value} (hw : HW Z a0) (j0 : Int32) (j1 : Int32) (j2 : Int32) (fw : Value)  {h0 : Heap} (hE : Ext Z.heap h0) (hj : ¬ j0 < 0 ∧ ¬ j1 < j0 ∧ ¬ j2 < j1) (Fr : fw.isRef = true) :
    OMeets l Z (⟨"jdk/internal/util/Preconditions", "checkFromToIndex", "(IIILjava/util/function/BiFunction;)I"⟩ : MethodName) jdk_41_method_12_code 4 (some .int) ({ frames := 0, cells := 0, slots := 0, locals := 0 } : Room) #[(.int j0), (.int j1), (.int j2), fw] h0 [] (fun v h => v = some (.int j0) ∧ h0 = h) := by
  refine OMeets.body (plainFor_of_name pn2) hE #[.val (.int j0), .val (.int j1), .val (.int j2), .val fw] (fun m => by rcases ref_cases Fr with rfl | ⟨a, rfl⟩ <;> rfl) ?_
  intro p e s m below meth co T S
  refine Go.iloadN S d_jdk_41_method_12_code_0 rfl (pc' := 1) rfl ?_
  refine Go.if_lt S d_jdk_41_method_12_code_1 (pt := 14) (by decide) (pc' := 4) rfl ?_ ?_
  · intro c1; exact absurd c1 hj.1
  · intro c1
    refine Go.iloadN S d_jdk_41_method_12_code_4 rfl (pc' := 5) rfl ?_
    refine Go.iloadN S d_jdk_41_method_12_code_5 rfl (pc' := 6) rfl ?_
    refine Go.icmp_gt S d_jdk_41_method_12_code_6 (pt := 14) (by decide) (pc' := 9) rfl ?_ ?_
    · intro c6; exact absurd c6 hj.2.1
    · intro c6
      refine Go.iloadN S d_jdk_41_method_12_code_9 rfl (pc' := 10) rfl ?_
      refine Go.iloadN S d_jdk_41_method_12_code_10 rfl (pc' := 11) rfl ?_
      refine Go.icmp_le S d_jdk_41_method_12_code_11 (pt := 22) (by decide) (pc' := 14) rfl ?_ ?_
      · intro c11
        refine Go.iloadN S d_jdk_41_method_12_code_22 rfl (pc' := 23) rfl ?_
        exact Go.ireturn S rfl d_jdk_41_method_12_code_23 (by decide) (by decide) (⟨rfl, rfl⟩)
      · intro c11; exact absurd c11 hj.2.2
set_option maxRecDepth 65536 in
set_option maxHeartbeats 4000000 in
theorem rm_cbe {l : Launch} {Z : State} {a0 : Array Value} (hw : HW Z a0) (j0 : Int32) (j1 : Int32) (j2 : Int32) (fw : Value) {h0 : Heap} (hE : Ext Z.heap h0) (hj : ¬ j0 < 0 ∧ ¬ j1 < j0 ∧ ¬ j2 < j1) (Ff : Sta Z Z.heap "jdk/internal/util/Preconditions" "SIOOBE_FORMATTER" "Ljava/util/function/BiFunction;" fw) (Fr : fw.isRef = true) :
    OMeets l Z (⟨"java/lang/String", "checkBoundsBeginEnd", "(III)V"⟩ : MethodName) jdk_42_method_158_code 3 none ({ frames := 1, cells := 0, slots := 0, locals := 15 } : Room) #[(.int j0), (.int j1), (.int j2)] h0 [] (fun v h => v = none ∧ h0 = h) := by
  refine OMeets.body (plainFor_of_name pn1) hE #[.val (.int j0), .val (.int j1), .val (.int j2)] (fun m => by first | rfl | (simp [entryFrame, mkF, argsToLocals, Value.category, maxLocals]; done)) ?_
  intro p e s m below meth co T S
  refine Go.iloadN S d_jdk_42_method_158_code_0 rfl (pc' := 1) rfl ?_
  refine Go.iloadN S d_jdk_42_method_158_code_1 rfl (pc' := 2) rfl ?_
  refine Go.iloadN S d_jdk_42_method_158_code_2 rfl (pc' := 3) rfl ?_
  refine Go.getstatic S (host := "") (Or.inl (wd89 hw)) Via.refl Ff d_jdk_42_method_158_code_3 (pc' := 6) rfl ?_
  intro T1 S1
  refine Go.invokestatic S1 (y := ⟨"jdk/internal/util/Preconditions", "checkFromToIndex", "(IIILjava/util/function/BiFunction;)I"⟩) (rm_cft hw j0 j1 j2 fw S1.ext hj Fr) (wd91 hw) (wd92 hw) (wd90 hw) (wd93 hw) (by decide) d_jdk_42_method_158_code_6 rfl pd11 (argsL := [(.int j0), (.int j1), (.int j2), fw]) rfl rfl rfl (by decide) (W := 0) rfl (by decide) (by decide) (by decide) all0 (pc' := 9) rfl ?_
  intro v2 T2 h2 L2 S2 K2 q2
  obtain ⟨rfl, rfl⟩ := q2
  show Go _ _ _ _ T2 (mkF m 9 #[.val (.int j0), .val (.int j1), .val (.int j2)] [(.int j0)])
  refine Go.pop S2 d_jdk_42_method_158_code_9 rfl (pc' := 10) rfl ?_
  exact Go.vreturn S2 rfl d_jdk_42_method_158_code_10 (by decide) (by decide) (⟨rfl, rfl⟩)
set_option maxRecDepth 65536 in
set_option maxHeartbeats 4000000 in
theorem rm_chkLen {l : Launch} {Z : State} {a0 : Array Value} (hw : HW Z a0) (j0 : Int32) (j1 : Int32)  {h0 : Heap} (hE : Ext Z.heap h0) (hj : ¬ j1 < j0) :
    OMeets l Z (⟨"java/util/Arrays", "checkLength", "(II)V"⟩ : MethodName) jdk_65_method_131_code 2 none ({ frames := 0, cells := 0, slots := 0, locals := 0 } : Room) #[(.int j0), (.int j1)] h0 [] (fun v h => v = none ∧ h0 = h) := by
  refine OMeets.body (plainFor_of_name pn6) hE #[.val (.int j0), .val (.int j1)] (fun m => by first | rfl | (simp [entryFrame, mkF, argsToLocals, Value.category, maxLocals]; done)) ?_
  intro p e s m below meth co T S
  refine Go.iloadN S d_jdk_65_method_131_code_0 rfl (pc' := 1) rfl ?_
  refine Go.iloadN S d_jdk_65_method_131_code_1 rfl (pc' := 2) rfl ?_
  refine Go.icmp_ge S d_jdk_65_method_131_code_2 (pt := 37) (by decide) (pc' := 5) rfl ?_ ?_
  · intro c2
    exact Go.vreturn S rfl d_jdk_65_method_131_code_37 (by decide) (by decide) (⟨rfl, rfl⟩)
  · intro c2; exact absurd c2 hj
set_option maxRecDepth 65536 in
set_option maxHeartbeats 4000000 in
theorem rm_min {l : Launch} {Z : State} {a0 : Array Value} (hw : HW Z a0) (p1 : Int32) (p2 : Int32)  {h0 : Heap} (hE : Ext Z.heap h0) (hp : ¬ p1 < p2) :
    OMeets l Z (⟨"java/lang/Math", "min", "(II)I"⟩ : MethodName) jdk_29_method_69_code 2 (some .int) ({ frames := 0, cells := 0, slots := 0, locals := 0 } : Room) #[(.int p1), (.int p2)] h0 [] (fun v h => v = some (.int p2) ∧ h0 = h) := by
  refine OMeets.body (Jvm.Free.JP.mathPlain rfl (by decide +kernel)) hE #[.val (.int p1), .val (.int p2)] (fun m => by first | rfl | (simp [entryFrame, mkF, argsToLocals, Value.category, maxLocals]; done)) ?_
  intro p e s m below meth co T S
  refine Go.iloadN S d_jdk_29_method_69_code_0 rfl (pc' := 1) rfl ?_
  refine Go.iloadN S d_jdk_29_method_69_code_1 rfl (pc' := 2) rfl ?_
  refine Go.icmp_gt S d_jdk_29_method_69_code_2 (pt := 9) (by decide) (pc' := 5) rfl ?_ ?_
  · intro c2
    refine Go.iloadN S d_jdk_29_method_69_code_9 rfl (pc' := 10) rfl ?_
    exact Go.ireturn S rfl d_jdk_29_method_69_code_10 (by decide) (by decide) (⟨rfl, rfl⟩)
  · intro c2
    refine Go.iloadN S d_jdk_29_method_69_code_5 rfl (pc' := 6) rfl ?_
    refine Go.goto S d_jdk_29_method_69_code_6 (pc' := 10) (by decide) ?_
    exact Go.ireturn S rfl d_jdk_29_method_69_code_10 (by decide) (by decide) (⟨by rw [own_asym hp c2], rfl⟩)
set_option maxRecDepth 65536 in
set_option maxHeartbeats 4000000 in
theorem rm_copyRB {l : Launch} {Z : State} {a0 : Array Value} (hw : HW Z a0) (t : Addr) (kb : ClassId) (bs : List Int32) (i nn : Nat) {h0 : Heap} (hE : Ext Z.heap h0) (VB : Arv Z h0 t kb .byte bs.length.toInt32 (bs.map Value.int) (.int 0)) (hin : i + nn ≤ bs.length) (hb3 : bs.length ≤ 3) :
    OMeets l Z (⟨"java/util/Arrays", "copyOfRangeByte", "([BII)[B"⟩ : MethodName) jdk_65_method_133_code 5 (some (.array .byte)) ({ frames := 1, cells := 1, slots := 3, locals := 18 } : Room) #[(.ref t), (.int i.toInt32), (.int (i + nn).toInt32)] h0 [] (fun v h => ∃ d, v = some (.ref d)) := by
  refine OMeets.body (plainFor_of_name pn6) hE #[.val (.ref t), .val (.int i.toInt32), .val (.int (i + nn).toInt32), .unset, .unset] (fun m => by first | rfl | (simp [entryFrame, mkF, argsToLocals, Value.category, maxLocals]; done)) ?_
  intro p e s m below meth co T S
  refine Go.iloadN S d_jdk_65_method_133_code_0 rfl (pc' := 1) rfl ?_
  refine Go.iloadN S d_jdk_65_method_133_code_1 rfl (pc' := 2) rfl ?_
  refine Go.invokestatic S (y := ⟨"java/util/Arrays", "checkLength", "(II)V"⟩) (rm_chkLen hw i.toInt32 (i + nn).toInt32 S.ext (own_nl (by omega) (by omega))) (wd149 hw) (wd150 hw) (wd144 hw) (wd151 hw) (by decide) d_jdk_65_method_133_code_2 rfl pd5 (argsL := [(.int i.toInt32), (.int (i + nn).toInt32)]) rfl rfl rfl (by decide) (W := 0) rfl (by decide) (by decide) (by decide) all0 (pc' := 5) rfl ?_
  intro v1 T1 h1 L1 S1 K1 q1
  obtain ⟨rfl, rfl⟩ := q1
  show Go _ _ _ _ T1 (mkF m 5 #[.val (.ref t), .val (.int i.toInt32), .val (.int (i + nn).toInt32), .unset, .unset] [])
  refine Go.iloadN S1 d_jdk_65_method_133_code_5 rfl (pc' := 6) rfl ?_
  refine Go.iloadN S1 d_jdk_65_method_133_code_6 rfl (pc' := 7) rfl ?_
  refine Go.isub S1 d_jdk_65_method_133_code_7 (pc' := 8) rfl ?_
  rw [own_subA (by omega)]
  show Go _ _ _ _ T1 (mkF m 8 #[.val (.ref t), .val (.int i.toInt32), .val (.int (i + nn).toInt32), .unset, .unset] [(.int nn.toInt32)])
  refine Go.istoreN S1 d_jdk_65_method_133_code_8 (Ls' := #[.val (.ref t), .val (.int i.toInt32), .val (.int (i + nn).toInt32), .val (.int nn.toInt32), .unset]) rfl (pc' := 9) rfl ?_
  refine Go.iloadN S1 d_jdk_65_method_133_code_9 rfl (pc' := 10) rfl ?_
  refine Go.newarray S1 (ty := .byte) (dv := (.int (0 : Int32))) rfl rfl (wd19 hw) d_jdk_65_method_133_code_10 (own_nn (by omega)) (cap := 3) (by rw [own_clamp (by omega)]; omega) (by decide) (by decide) (by decide) (pc' := 12) rfl ?_
  intro T2 h2 d kd S2 E2 hg2 hzd hkd V2
  replace VB := VB.ext E2
  replace V2 := V2.pad (own_zeros 3 nn)
  refine Go.astore S2 d_jdk_65_method_133_code_12 rfl (Ls' := #[.val (.ref t), .val (.int i.toInt32), .val (.int (i + nn).toInt32), .val (.int nn.toInt32), .val (.ref d)]) rfl (pc' := 14) rfl ?_
  refine Go.aloadN S2 d_jdk_65_method_133_code_14 rfl rfl (pc' := 15) rfl ?_
  refine Go.iloadN S2 d_jdk_65_method_133_code_15 rfl (pc' := 16) rfl ?_
  refine Go.aload S2 d_jdk_65_method_133_code_16 rfl rfl (pc' := 18) rfl ?_
  refine Go.iconst S2 (v := 0) d_jdk_65_method_133_code_18 rfl (pc' := 19) rfl ?_
  refine Go.aloadN S2 d_jdk_65_method_133_code_19 rfl rfl (pc' := 20) rfl ?_
  refine Go.arraylength S2 VB d_jdk_65_method_133_code_20 (pc' := 21) rfl ?_
  refine Go.iloadN S2 d_jdk_65_method_133_code_21 rfl (pc' := 22) rfl ?_
  refine Go.isub S2 d_jdk_65_method_133_code_22 (pc' := 23) rfl ?_
  rw [own_sub (by omega) (by omega)]
  show Go _ _ _ _ T2 (mkF m 23 #[.val (.ref t), .val (.int i.toInt32), .val (.int (i + nn).toInt32), .val (.int nn.toInt32), .val (.ref d)] [(.int (bs.length - i).toInt32), (.int (0 : Int32)), (.ref d), (.int i.toInt32), (.ref t)])
  refine Go.iloadN S2 d_jdk_65_method_133_code_23 rfl (pc' := 24) rfl ?_
  refine Go.invokestatic S2 (y := ⟨"java/lang/Math", "min", "(II)I"⟩) (rm_min hw (bs.length - i).toInt32 nn.toInt32 S2.ext (own_nl (by omega) (by omega))) (wd152 hw) (wd153 hw) (wd154 hw) (wd155 hw) (by decide) d_jdk_65_method_133_code_24 rfl pd12 (argsL := [(.int (bs.length - i).toInt32), (.int nn.toInt32)]) rfl rfl rfl (by decide) (W := 4) rfl (by decide) (by decide) (by decide) all0 (pc' := 27) rfl ?_
  intro v3 T3 h3 L3 S3 K3 q3
  obtain ⟨rfl, rfl⟩ := q3
  show Go _ _ _ _ T3 (mkF m 27 #[.val (.ref t), .val (.int i.toInt32), .val (.int (i + nn).toInt32), .val (.int nn.toInt32), .val (.ref d)] [(.int nn.toInt32), (.int (0 : Int32)), (.ref d), (.int i.toInt32), (.ref t)])
  refine Go.arraycopyB S3 (wd156 hw) (wd159 hw) (wd157 hw) (wd158 hw) VB V2 (own_nn (by omega)) (by decide) (own_nn (by omega)) (by rw [own_clamp (by omega), own_clamp (by omega), own_clamp (by omega)]; omega) (by rw [own_clamp (by omega)] <;> exact Nat.le_of_eq (Nat.zero_add _)) (us := ((List.range nn).map fun k => (bs.map Value.int).getD (i + k) (.int 0))) (by rw [own_clamp (by omega), own_clamp (by omega)]) (by rw [own_clamp (by omega)]; show 0 + nn ≤ (List.replicate nn (Value.int 0)).length; rw [List.length_replicate]; omega) (ue := _) rfl hzd (Or.inr hkd) d_jdk_65_method_133_code_27 rfl (by decide) (W := 0) rfl (by decide) (pc' := 30) rfl ?_
  intro T4 h4 L4 S4 K4 V4
  show Go _ _ _ _ T4 (mkF m 30 #[.val (.ref t), .val (.int i.toInt32), .val (.int (i + nn).toInt32), .val (.int nn.toInt32), .val (.ref d)] [])
  refine Go.aload S4 d_jdk_65_method_133_code_30 rfl rfl (pc' := 32) rfl ?_
  exact Go.areturn S4 rfl rfl rfl d_jdk_65_method_133_code_32 (by decide) (by decide) (⟨d, rfl⟩)
set_option maxRecDepth 65536 in
set_option maxHeartbeats 4000000 in
theorem rm_copyR {l : Launch} {Z : State} {a0 : Array Value} (hw : HW Z a0) (t : Addr) (kb : ClassId) (bs : List Int32) (i nn : Nat) {h0 : Heap} (hE : Ext Z.heap h0) (VB : Arv Z h0 t kb .byte bs.length.toInt32 (bs.map Value.int) (.int 0)) (hin : i + nn ≤ bs.length) (hb3 : bs.length ≤ 3) (hne : nn ≠ bs.length) :
    OMeets l Z (⟨"java/util/Arrays", "copyOfRange", "([BII)[B"⟩ : MethodName) jdk_65_method_132_code 3 (some (.array .byte)) ({ frames := 2, cells := 1, slots := 3, locals := 34 } : Room) #[(.ref t), (.int i.toInt32), (.int (i + nn).toInt32)] h0 [] (fun v h => ∃ d, v = some (.ref d)) := by
  refine OMeets.body (plainFor_of_name pn6) hE #[.val (.ref t), .val (.int i.toInt32), .val (.int (i + nn).toInt32)] (fun m => by first | rfl | (simp [entryFrame, mkF, argsToLocals, Value.category, maxLocals]; done)) ?_
  intro p e s m below meth co T S
  refine Go.iloadN S d_jdk_65_method_132_code_0 rfl (pc' := 1) rfl ?_
  refine Go.if_ne S d_jdk_65_method_132_code_1 (pt := 10) (by decide) (pc' := 4) rfl ?_ ?_
  · intro c1
    refine Go.aloadN S d_jdk_65_method_132_code_10 rfl rfl (pc' := 11) rfl ?_
    refine Go.iloadN S d_jdk_65_method_132_code_11 rfl (pc' := 12) rfl ?_
    refine Go.iloadN S d_jdk_65_method_132_code_12 rfl (pc' := 13) rfl ?_
    refine Go.invokestatic S (y := ⟨"java/util/Arrays", "copyOfRangeByte", "([BII)[B"⟩) (rm_copyRB hw t kb bs i nn S.ext VB hin hb3) (wd146 hw) (wd147 hw) (wd144 hw) (wd148 hw) (by decide) d_jdk_65_method_132_code_13 rfl pd13 (argsL := [(.ref t), (.int i.toInt32), (.int (i + nn).toInt32)]) rfl rfl rfl (by decide) (W := 0) rfl (by decide) (by decide) (by decide) all0 (pc' := 16) rfl ?_
    intro v1 T1 h1 L1 S1 K1 q1
    obtain ⟨d, rfl⟩ := q1
    show Go _ _ _ _ T1 (mkF m 16 #[.val (.ref t), .val (.int i.toInt32), .val (.int (i + nn).toInt32)] [(.ref d)])
    exact Go.areturn S1 rfl rfl rfl d_jdk_65_method_132_code_16 (by decide) (by decide) (⟨d, rfl⟩)
  · intro c1
    refine Go.iloadN S d_jdk_65_method_132_code_4 rfl (pc' := 5) rfl ?_
    refine Go.aloadN S d_jdk_65_method_132_code_5 rfl rfl (pc' := 6) rfl ?_
    refine Go.arraylength S VB d_jdk_65_method_132_code_6 (pc' := 7) rfl ?_
    refine Go.icmp_eq S d_jdk_65_method_132_code_7 (pt := 17) (by decide) (pc' := 10) rfl ?_ ?_
    · intro c7; exact absurd c7 (own_ne7 (by omega) (by omega) c1 hne)
    · intro c7
      refine Go.aloadN S d_jdk_65_method_132_code_10 rfl rfl (pc' := 11) rfl ?_
      refine Go.iloadN S d_jdk_65_method_132_code_11 rfl (pc' := 12) rfl ?_
      refine Go.iloadN S d_jdk_65_method_132_code_12 rfl (pc' := 13) rfl ?_
      refine Go.invokestatic S (y := ⟨"java/util/Arrays", "copyOfRangeByte", "([BII)[B"⟩) (rm_copyRB hw t kb bs i nn S.ext VB hin hb3) (wd146 hw) (wd147 hw) (wd144 hw) (wd148 hw) (by decide) d_jdk_65_method_132_code_13 rfl pd13 (argsL := [(.ref t), (.int i.toInt32), (.int (i + nn).toInt32)]) rfl rfl rfl (by decide) (W := 0) rfl (by decide) (by decide) (by decide) all0 (pc' := 16) rfl ?_
      intro v2 T2 h2 L2 S2 K2 q2
      obtain ⟨d, rfl⟩ := q2
      show Go _ _ _ _ T2 (mkF m 16 #[.val (.ref t), .val (.int i.toInt32), .val (.int (i + nn).toInt32)] [(.ref d)])
      exact Go.areturn S2 rfl rfl rfl d_jdk_65_method_132_code_16 (by decide) (by decide) (⟨d, rfl⟩)
set_option maxRecDepth 65536 in
set_option maxHeartbeats 4000000 in
theorem rm_sinitB {l : Launch} {Z : State} {a0 : Array Value} (hw : HW Z a0) (q : Addr) (d : Addr)  {h0 : Heap} (hE : Ext Z.heap h0) (hz : Z.heap.size ≤ q) (E : Exa Z h0 q "java/lang/String") (Fv : Fld Z h0 q "java/lang/String" "value" "[B" .null) (Fc : Fld Z h0 q "java/lang/String" "coder" "B" (.int 0)) :
    OMeets l Z (⟨"java/lang/String", "<init>", "([BB)V"⟩ : MethodName) jdk_42_method_151_code 3 none ({ frames := 1, cells := 0, slots := 0, locals := 12 } : Room) #[(.ref q), (.ref d), (.int (0 : Int32))] h0 [q] (fun v h => v = none) := by
  refine OMeets.body (plainFor_of_name pn1) hE #[.val (.ref q), .val (.ref d), .val (.int (0 : Int32))] (fun m => by first | rfl | (simp [entryFrame, mkF, argsToLocals, Value.category, maxLocals]; done)) ?_
  intro p e s m below meth co T S
  refine Go.aloadN S d_jdk_42_method_151_code_0 rfl rfl (pc' := 1) rfl ?_
  refine Go.initObject S (wd15 hw) (wd16 hw) (wd17 hw) d_jdk_42_method_151_code_1 rfl (by decide) (W := 0) rfl (by decide) (pc' := 4) rfl ?_
  intro T1 S1
  refine Go.aloadN S1 d_jdk_42_method_151_code_4 rfl rfl (pc' := 5) rfl ?_
  refine Go.aloadN S1 d_jdk_42_method_151_code_5 rfl rfl (pc' := 6) rfl ?_
  refine Go.putfield S1 (host := "") (Or.inl (wd24 hw)) Via.refl Fv E (Or.inr ⟨(wd20 hw), rfl, rfl⟩) (wd6 hw) (ty := (.array .byte)) (by decide) rfl rfl hz (Or.inl (List.mem_singleton.mpr rfl)) d_jdk_42_method_151_code_6 (pc' := 9) rfl ?_
  intro T2 h2 L2 S2 W2
  have F2 := Fv.same W2
  replace Fc := Fc.other W2 (Or.inr (slot_ne (Or.inr (wd21 hw)) (Or.inr (wd20 hw)) (by decide) (t := .byte) (t' := (.array .byte)) (by decide) (by decide)))
  replace E := E.wr W2
  refine Go.aloadN S2 d_jdk_42_method_151_code_9 rfl rfl (pc' := 10) rfl ?_
  refine Go.iloadN S2 d_jdk_42_method_151_code_10 rfl (pc' := 11) rfl ?_
  refine Go.putfieldN S2 (wd25 hw) Via.refl Fc E (Or.inr ⟨(wd21 hw), rfl, rfl⟩) (wd6 hw) (ty := .byte) (by decide) (v' := (.int (0 : Int32))) rfl rfl hz (Or.inl (List.mem_singleton.mpr rfl)) d_jdk_42_method_151_code_11 (pc' := 14) rfl ?_
  intro T3 h3 L3 S3 W3
  have F3 := Fc.same W3
  replace F2 := F2.other W3 (Or.inr (slot_ne (Or.inr (wd20 hw)) (Or.inr (wd21 hw)) (by decide) (t := (.array .byte)) (t' := .byte) (by decide) (by decide)))
  replace E := E.wr W3
  exact Go.vreturn S3 rfl d_jdk_42_method_151_code_14 (by decide) (by decide) (rfl)
set_option maxRecDepth 65536 in
set_option maxHeartbeats 4000000 in
theorem rm_newStr {l : Launch} {Z : State} {a0 : Array Value} (hw : HW Z a0) (t : Addr) (kb : ClassId) (bs : List Int32) (i nn : Nat) {h0 : Heap} (hE : Ext Z.heap h0) (VB : Arv Z h0 t kb .byte bs.length.toInt32 (bs.map Value.int) (.int 0)) (hin : i + nn ≤ bs.length) (hb3 : bs.length ≤ 3) (hne : nn ≠ bs.length) (hh1 : Jvm.Lit.constHeld Z "java/lang/StringLatin1" 151) (hcw : Jvm.Lit.compactW.before a0 Z = true) :
    OMeetsW l Z (⟨"java/lang/StringLatin1", "newString", "([BII)Ljava/lang/String;"⟩ : MethodName) jdk_43_method_47_code 3 (some (.object "java/lang/String")) ({ frames := 3, cells := 2, slots := 7, locals := 50 } : Room) #[(.ref t), (.int i.toInt32), (.int nn.toInt32)] h0 [] (fun vm => Elt Z vm h0) (fun v h vm => (∃ q, v = some (.ref q) ∧ Exa Z h q "java/lang/String") ∧ Elt Z vm h) := by
  refine OMeetsW.body (plainFor_of_name pn3) hE #[.val (.ref t), .val (.int i.toInt32), .val (.int nn.toInt32)] (fun m => by first | rfl | (simp [entryFrame, mkF, argsToLocals, Value.category, maxLocals]; done)) ?_
  intro p e s m below meth co T S hvp hsh
  have N := Sn.start s h0.size
  have hn : h0.size ≤ h0.size := Nat.le_refl _
  refine Go.iloadN S d_jdk_43_method_47_code_0 rfl (pc' := 1) rfl ?_
  refine Go.if_ne S d_jdk_43_method_47_code_1 (pt := 7) (by decide) (pc' := 4) rfl ?_ ?_
  · intro c1
    refine Go.new S (wd141 hw) (wd6 hw) (wd7 hw) d_jdk_43_method_47_code_7 (by decide) (by decide) (pc' := 10) rfl ?_
    intro T1 h1 a1 S1 E1 hg1 hz1 hk1 X1 D1
    have n_t_a1 : t ≠ a1 := Nat.ne_of_lt (Nat.lt_of_lt_of_le VB.lt (Nat.le_of_eq hg1))
    replace hn := Nat.le_trans hn E1.1
    replace VB := VB.ext E1
    replace hvp := hvp.ext E1
    have F1_value : Fld Z h1 a1 "java/lang/String" "value" "[B" .null := D1 (Or.inr (wd20 hw)) (ty := (.array .byte)) (by decide)
    have F1_coder : Fld Z h1 a1 "java/lang/String" "coder" "B" (.int (0 : Int32)) := D1 (Or.inr (wd21 hw)) (ty := .byte) (by decide)
    refine Go.dup S1 d_jdk_43_method_47_code_10 rfl (pc' := 11) rfl ?_
    refine Go.aloadN S1 d_jdk_43_method_47_code_11 rfl rfl (pc' := 12) rfl ?_
    refine Go.iloadN S1 d_jdk_43_method_47_code_12 rfl (pc' := 13) rfl ?_
    refine Go.iloadN S1 d_jdk_43_method_47_code_13 rfl (pc' := 14) rfl ?_
    refine Go.iloadN S1 d_jdk_43_method_47_code_14 rfl (pc' := 15) rfl ?_
    refine Go.iadd S1 d_jdk_43_method_47_code_15 (pc' := 16) rfl ?_
    rw [own_addN (by omega)]
    show Go _ _ _ _ T1 (mkF m 16 #[.val (.ref t), .val (.int i.toInt32), .val (.int nn.toInt32)] [(.int (i + nn).toInt32), (.int i.toInt32), (.ref t), (.ref a1), (.ref a1)])
    refine Go.invokestatic S1 (y := ⟨"java/util/Arrays", "copyOfRange", "([BII)[B"⟩) (rm_copyR hw t kb bs i nn S1.ext VB hin hb3 hne) (wd142 hw) (wd143 hw) (wd144 hw) (wd145 hw) (by decide) d_jdk_43_method_47_code_16 rfl pd13 (argsL := [(.ref t), (.int i.toInt32), (.int (i + nn).toInt32)]) rfl rfl rfl (by decide) (W := 2) rfl (by decide) (by decide) (by decide) all0 (pc' := 19) rfl ?_
    intro v2 T2 h2 L2 S2 K2 q2
    obtain ⟨d2, rfl⟩ := q2
    replace hn := Nat.le_trans hn K2.1
    replace VB := VB.keep K2 nin0
    replace hvp := hvp.keep K2
    replace X1 := X1.keep K2
    replace F1_value := F1_value.keep K2 nin0
    replace F1_coder := F1_coder.keep K2 nin0
    show Go _ _ _ _ T2 (mkF m 19 #[.val (.ref t), .val (.int i.toInt32), .val (.int nn.toInt32)] [(.ref d2), (.ref a1), (.ref a1)])
    refine Go.iconst S2 (v := 0) d_jdk_43_method_47_code_19 rfl (pc' := 20) rfl ?_
    refine Go.invokespecial S2 (y := ⟨"java/lang/String", "<init>", "([BB)V"⟩) (rm_sinitB hw a1 d2 S2.ext hz1 X1 F1_value F1_coder) rfl rfl (wd160 hw) (wd161 hw) (wd7 hw) (wd162 hw) (by decide) d_jdk_43_method_47_code_20 rfl pd14 (argsL := [(.ref d2), (.int (0 : Int32))]) rfl rfl rfl (by decide) (W := 1) rfl (by decide) (by decide) (by decide) (allS (Or.inr hk1) all0) (pc' := 23) rfl ?_
    intro v3 T3 h3 L3 S3 K3 q3
    obtain rfl := q3
    replace hn := Nat.le_trans hn K3.1
    replace VB := VB.keep K3 (ninS n_t_a1 nin0)
    replace hvp := hvp.keep K3
    replace X1 := X1.keep K3
    show Go _ _ _ _ T3 (mkF m 23 #[.val (.ref t), .val (.int i.toInt32), .val (.int nn.toInt32)] [(.ref a1)])
    exact Go.areturnW S3 N hn rfl rfl rfl d_jdk_43_method_47_code_23 (by decide) (by decide) (⟨⟨a1, rfl, X1⟩, Elt.warm (sb := s) hvp S3.X.warmed⟩)
  · intro c1
    rcases hvp with hvp | ⟨la, Ll, Xl⟩
    ·
      refine Go.ldcFirst S N hn (text := "") (cap := 0) (vs := []) (z := 0) (wd163 hw) (own_sat hw) (Fr.nil _) (by rw [hsh]; exact hE) hvp (by decide) hh1 hcw ⟨by decide, by first | rfl | decide⟩ (by decide) rfl d_jdk_43_method_47_code_4 (by decide) (by decide) (by decide) (by decide) (pc' := 6) rfl ?_
      intro a4 b4 kb4 sb4 T4 h4 n4 S4 N4 hn4 E4 X4 Fc4 Fv4 V4 I4 L4
      replace VB := VB.ext E4
      replace hn := hn4
      exact Go.areturnW S4 N4 hn rfl rfl rfl d_jdk_43_method_47_code_6 (by decide) (by decide) (⟨⟨a4, rfl, X4⟩, Elt.warm (sb := sb4) (Or.inr ⟨a4, LitV.of L4, X4⟩) S4.X.warmed⟩)
    ·
      refine Go.ldcAgain S (wd163 hw) (LitV.lit (sb := s) Ll) d_jdk_43_method_47_code_4 (pc' := 6) rfl ?_
      exact Go.areturnW S N hn rfl rfl rfl d_jdk_43_method_47_code_6 (by decide) (by decide) (⟨⟨la, rfl, Xl⟩, Elt.warm (sb := s) (Or.inr ⟨la, Ll, Xl⟩) S.X.warmed⟩)
set_option maxRecDepth 65536 in
set_option maxHeartbeats 4000000 in
theorem rm_substr {l : Launch} {Z : State} {a0 : Array Value} (hw : HW Z a0) (o : Addr) (t : Addr) (kb : ClassId) (bs : List Int32) (i j : Nat) (fw : Value) (cs : Int32) {h0 : Heap} (hE : Ext Z.heap h0) (A : StrAt Z h0 o t kb bs) (hij : i ≤ j) (hjl : j ≤ bs.length) (hb3 : bs.length ≤ 3) (Ff : Sta Z Z.heap "jdk/internal/util/Preconditions" "SIOOBE_FORMATTER" "Ljava/util/function/BiFunction;" fw) (Fr : fw.isRef = true) (Cs : Sta Z Z.heap "java/lang/String" "COMPACT_STRINGS" "Z" (.int cs)) (Cn : ¬ cs = 0) (hh1 : Jvm.Lit.constHeld Z "java/lang/StringLatin1" 151) (hcw : Jvm.Lit.compactW.before a0 Z = true) :
    OMeetsW l Z (⟨"java/lang/String", "substring", "(II)Ljava/lang/String;"⟩ : MethodName) jdk_42_method_92_code 5 (some (.object "java/lang/String")) ({ frames := 4, cells := 2, slots := 7, locals := 64 } : Room) #[(.ref o), (.int i.toInt32), (.int j.toInt32)] h0 [] (fun vm => Elv Z vm h0 bs) (fun v h vm => (∃ q, v = some (.ref q) ∧ Exa Z h q "java/lang/String") ∧ Elv Z vm h bs) := by
  refine OMeetsW.body (plainFor_of_name pn1) hE #[.val (.ref o), .val (.int i.toInt32), .val (.int j.toInt32), .unset, .unset] (fun m => by first | rfl | (simp [entryFrame, mkF, argsToLocals, Value.category, maxLocals]; done)) ?_
  intro p e s m below meth co T S hvp hsh
  have N := Sn.start s h0.size
  have hn : h0.size ≤ h0.size := Nat.le_refl _
  refine Go.aloadN S d_jdk_42_method_92_code_0 rfl rfl (pc' := 1) rfl ?_
  refine Go.invokevirtual S (y := ⟨"java/lang/String", "length", "()I"⟩) (rm_slen hw o t kb bs cs S.ext A Cs Cn) (wd83 hw) (wd84 hw) (S.nf (wd85 hw)) (wd85 hw) (wd59 hw) (wd7 hw) (wd63 hw) (by decide) A.1 d_jdk_42_method_92_code_1 rfl pd9 (argsL := []) rfl rfl rfl (by decide) (W := 0) rfl (by decide) (by decide) (by decide) all0 (pc' := 4) rfl ?_
  intro v1 T1 h1 L1 S1 K1 q1
  obtain ⟨rfl, rfl⟩ := q1
  show Go _ _ _ _ T1 (mkF m 4 #[.val (.ref o), .val (.int i.toInt32), .val (.int j.toInt32), .unset, .unset] [(.int bs.length.toInt32)])
  refine Go.istoreN S1 d_jdk_42_method_92_code_4 (Ls' := #[.val (.ref o), .val (.int i.toInt32), .val (.int j.toInt32), .val (.int bs.length.toInt32), .unset]) rfl (pc' := 5) rfl ?_
  refine Go.iloadN S1 d_jdk_42_method_92_code_5 rfl (pc' := 6) rfl ?_
  refine Go.iloadN S1 d_jdk_42_method_92_code_6 rfl (pc' := 7) rfl ?_
  refine Go.iloadN S1 d_jdk_42_method_92_code_7 rfl (pc' := 8) rfl ?_
  refine Go.invokestatic S1 (y := ⟨"java/lang/String", "checkBoundsBeginEnd", "(III)V"⟩) (rm_cbe hw i.toInt32 j.toInt32 bs.length.toInt32 fw S1.ext (own_ft hij hjl (by omega)) Ff Fr) (wd86 hw) (wd87 hw) (wd7 hw) (wd88 hw) (by decide) d_jdk_42_method_92_code_8 rfl pd15 (argsL := [(.int i.toInt32), (.int j.toInt32), (.int bs.length.toInt32)]) rfl rfl rfl (by decide) (W := 0) rfl (by decide) (by decide) (by decide) all0 (pc' := 11) rfl ?_
  intro v2 T2 h2 L2 S2 K2 q2
  obtain ⟨rfl, rfl⟩ := q2
  show Go _ _ _ _ T2 (mkF m 11 #[.val (.ref o), .val (.int i.toInt32), .val (.int j.toInt32), .val (.int bs.length.toInt32), .unset] [])
  refine Go.iloadN S2 d_jdk_42_method_92_code_11 rfl (pc' := 12) rfl ?_
  refine Go.if_ne S2 d_jdk_42_method_92_code_12 (pt := 22) (by decide) (pc' := 15) rfl ?_ ?_
  · intro c12
    refine Go.iloadN S2 d_jdk_42_method_92_code_22 rfl (pc' := 23) rfl ?_
    refine Go.iloadN S2 d_jdk_42_method_92_code_23 rfl (pc' := 24) rfl ?_
    refine Go.isub S2 d_jdk_42_method_92_code_24 (pc' := 25) rfl ?_
    rw [own_sub (by omega) (by omega)]
    show Go _ _ _ _ T2 (mkF m 25 #[.val (.ref o), .val (.int i.toInt32), .val (.int j.toInt32), .val (.int bs.length.toInt32), .unset] [(.int (j - i).toInt32)])
    refine Go.istore S2 d_jdk_42_method_92_code_25 (Ls' := #[.val (.ref o), .val (.int i.toInt32), .val (.int j.toInt32), .val (.int bs.length.toInt32), .val (.int (j - i).toInt32)]) rfl (pc' := 27) rfl ?_
    refine Go.aloadN S2 d_jdk_42_method_92_code_27 rfl rfl (pc' := 28) rfl ?_
    refine Go.invokevirtual S2 (y := ⟨"java/lang/String", "isLatin1", "()Z"⟩) (rm_isl1 hw o cs S2.ext A.2.1 Cs Cn) (wd123 hw) (wd124 hw) (S2.nf (wd126 hw)) (wd126 hw) (wd125 hw) (wd7 hw) (wd127 hw) (by decide) A.1 d_jdk_42_method_92_code_28 rfl pd6 (argsL := []) rfl rfl rfl (by decide) (W := 0) rfl (by decide) (by decide) (by decide) all0 (pc' := 31) rfl ?_
    intro v3 T3 h3 L3 S3 K3 q3
    obtain ⟨rfl, rfl⟩ := q3
    show Go _ _ _ _ T3 (mkF m 31 #[.val (.ref o), .val (.int i.toInt32), .val (.int j.toInt32), .val (.int bs.length.toInt32), .val (.int (j - i).toInt32)] [(.int (1 : Int32))])
    refine Go.if_eq S3 d_jdk_42_method_92_code_31 (pt := 47) (by decide) (pc' := 34) rfl ?_ ?_
    · intro c31; exact absurd c31 (by decide)
    · intro c31
      refine Go.aloadN S3 d_jdk_42_method_92_code_34 rfl rfl (pc' := 35) rfl ?_
      refine Go.getfield S3 (host := "") (Or.inl (wd24 hw)) Via.refl A.2.2.1 d_jdk_42_method_92_code_35 (pc' := 38) rfl ?_
      intro T4 S4
      refine Go.iloadN S4 d_jdk_42_method_92_code_38 rfl (pc' := 39) rfl ?_
      refine Go.iload S4 d_jdk_42_method_92_code_39 rfl (pc' := 41) rfl ?_
      have hns := own_ns hij hjl (fun z => c12 z.1)
      have hEl : Elt Z s.vm h0 := hvp.resolve_left (fun z => hns.1 (congrArg List.length z))
      refine Go.invokestaticW S4 (y := ⟨"java/lang/StringLatin1", "newString", "([BII)Ljava/lang/String;"⟩) (rm_newStr hw t kb bs i (j - i) S4.ext A.2.2.2.1 (by omega) hb3 hns.2 hh1 hcw) N hn (fun vm hv => Elt.warm (sb := s) hEl hv) (wd138 hw) (wd139 hw) (wd130 hw) (wd140 hw) (by decide) d_jdk_42_method_92_code_41 rfl pd16 (argsL := [(.ref t), (.int i.toInt32), (.int (j - i).toInt32)]) rfl rfl rfl (by decide) (W := 0) rfl (by decide) (by decide) (by decide) all0 (pc' := 44) rfl ?_
      intro v5 sb5 T5 h5 L5 S5 N5 K5 q5
      obtain ⟨⟨r, rfl, XR⟩, El⟩ := q5
      replace hn : h5.size ≤ h5.size := Nat.le_refl _
      show Go _ _ _ _ T5 (mkF m 44 #[.val (.ref o), .val (.int i.toInt32), .val (.int j.toInt32), .val (.int bs.length.toInt32), .val (.int (j - i).toInt32)] [(.ref r)])
      refine Go.goto S5 d_jdk_42_method_92_code_44 (pc' := 57) (by decide) ?_
      exact Go.areturnW S5 N5 hn rfl rfl rfl d_jdk_42_method_92_code_57 (by decide) (by decide) (⟨⟨r, rfl, XR⟩, Or.inr (Elt.warm (sb := sb5) El S5.X.warmed)⟩)
  · intro c12
    refine Go.iloadN S2 d_jdk_42_method_92_code_15 rfl (pc' := 16) rfl ?_
    refine Go.iloadN S2 d_jdk_42_method_92_code_16 rfl (pc' := 17) rfl ?_
    refine Go.icmp_ne S2 d_jdk_42_method_92_code_17 (pt := 22) (by decide) (pc' := 20) rfl ?_ ?_
    · intro c17
      refine Go.iloadN S2 d_jdk_42_method_92_code_22 rfl (pc' := 23) rfl ?_
      refine Go.iloadN S2 d_jdk_42_method_92_code_23 rfl (pc' := 24) rfl ?_
      refine Go.isub S2 d_jdk_42_method_92_code_24 (pc' := 25) rfl ?_
      rw [own_sub (by omega) (by omega)]
      show Go _ _ _ _ T2 (mkF m 25 #[.val (.ref o), .val (.int i.toInt32), .val (.int j.toInt32), .val (.int bs.length.toInt32), .unset] [(.int (j - i).toInt32)])
      refine Go.istore S2 d_jdk_42_method_92_code_25 (Ls' := #[.val (.ref o), .val (.int i.toInt32), .val (.int j.toInt32), .val (.int bs.length.toInt32), .val (.int (j - i).toInt32)]) rfl (pc' := 27) rfl ?_
      refine Go.aloadN S2 d_jdk_42_method_92_code_27 rfl rfl (pc' := 28) rfl ?_
      refine Go.invokevirtual S2 (y := ⟨"java/lang/String", "isLatin1", "()Z"⟩) (rm_isl1 hw o cs S2.ext A.2.1 Cs Cn) (wd123 hw) (wd124 hw) (S2.nf (wd126 hw)) (wd126 hw) (wd125 hw) (wd7 hw) (wd127 hw) (by decide) A.1 d_jdk_42_method_92_code_28 rfl pd6 (argsL := []) rfl rfl rfl (by decide) (W := 0) rfl (by decide) (by decide) (by decide) all0 (pc' := 31) rfl ?_
      intro v6 T6 h6 L6 S6 K6 q6
      obtain ⟨rfl, rfl⟩ := q6
      show Go _ _ _ _ T6 (mkF m 31 #[.val (.ref o), .val (.int i.toInt32), .val (.int j.toInt32), .val (.int bs.length.toInt32), .val (.int (j - i).toInt32)] [(.int (1 : Int32))])
      refine Go.if_eq S6 d_jdk_42_method_92_code_31 (pt := 47) (by decide) (pc' := 34) rfl ?_ ?_
      · intro c31; exact absurd c31 (by decide)
      · intro c31
        refine Go.aloadN S6 d_jdk_42_method_92_code_34 rfl rfl (pc' := 35) rfl ?_
        refine Go.getfield S6 (host := "") (Or.inl (wd24 hw)) Via.refl A.2.2.1 d_jdk_42_method_92_code_35 (pc' := 38) rfl ?_
        intro T7 S7
        refine Go.iloadN S7 d_jdk_42_method_92_code_38 rfl (pc' := 39) rfl ?_
        refine Go.iload S7 d_jdk_42_method_92_code_39 rfl (pc' := 41) rfl ?_
        have hns := own_ns hij hjl (fun z => c17 z.2)
        have hEl : Elt Z s.vm h0 := hvp.resolve_left (fun z => hns.1 (congrArg List.length z))
        refine Go.invokestaticW S7 (y := ⟨"java/lang/StringLatin1", "newString", "([BII)Ljava/lang/String;"⟩) (rm_newStr hw t kb bs i (j - i) S7.ext A.2.2.2.1 (by omega) hb3 hns.2 hh1 hcw) N hn (fun vm hv => Elt.warm (sb := s) hEl hv) (wd138 hw) (wd139 hw) (wd130 hw) (wd140 hw) (by decide) d_jdk_42_method_92_code_41 rfl pd16 (argsL := [(.ref t), (.int i.toInt32), (.int (j - i).toInt32)]) rfl rfl rfl (by decide) (W := 0) rfl (by decide) (by decide) (by decide) all0 (pc' := 44) rfl ?_
        intro v8 sb8 T8 h8 L8 S8 N8 K8 q8
        obtain ⟨⟨r, rfl, XR⟩, El⟩ := q8
        replace hn : h8.size ≤ h8.size := Nat.le_refl _
        show Go _ _ _ _ T8 (mkF m 44 #[.val (.ref o), .val (.int i.toInt32), .val (.int j.toInt32), .val (.int bs.length.toInt32), .val (.int (j - i).toInt32)] [(.ref r)])
        refine Go.goto S8 d_jdk_42_method_92_code_44 (pc' := 57) (by decide) ?_
        exact Go.areturnW S8 N8 hn rfl rfl rfl d_jdk_42_method_92_code_57 (by decide) (by decide) (⟨⟨r, rfl, XR⟩, Or.inr (Elt.warm (sb := sb8) El S8.X.warmed)⟩)
    · intro c17
      refine Go.aloadN S2 d_jdk_42_method_92_code_20 rfl rfl (pc' := 21) rfl ?_
      exact Go.areturnW S2 N hn rfl rfl rfl d_jdk_42_method_92_code_21 (by decide) (by decide) (⟨⟨o, rfl, A.1⟩, Elv.warm (sb := s) hvp S2.X.warmed⟩)
set_option maxRecDepth 65536 in
set_option maxHeartbeats 4000000 in
theorem rm_subSeq {l : Launch} {Z : State} {a0 : Array Value} (hw : HW Z a0) (o : Addr) (t : Addr) (kb : ClassId) (bs : List Int32) (i j : Nat) (fw : Value) (cs : Int32) {h0 : Heap} (hE : Ext Z.heap h0) (A : StrAt Z h0 o t kb bs) (hij : i ≤ j) (hjl : j ≤ bs.length) (hb3 : bs.length ≤ 3) (Ff : Sta Z Z.heap "jdk/internal/util/Preconditions" "SIOOBE_FORMATTER" "Ljava/util/function/BiFunction;" fw) (Fr : fw.isRef = true) (Cs : Sta Z Z.heap "java/lang/String" "COMPACT_STRINGS" "Z" (.int cs)) (Cn : ¬ cs = 0) (hh1 : Jvm.Lit.constHeld Z "java/lang/StringLatin1" 151) (hcw : Jvm.Lit.compactW.before a0 Z = true) :
    OMeetsW l Z (⟨"java/lang/String", "subSequence", "(II)Ljava/lang/CharSequence;"⟩ : MethodName) jdk_42_method_93_code 3 (some (.object "java/lang/CharSequence")) ({ frames := 5, cells := 2, slots := 7, locals := 80 } : Room) #[(.ref o), (.int i.toInt32), (.int j.toInt32)] h0 [] (fun vm => Elv Z vm h0 bs) (fun v h vm => (∃ q, v = some (.ref q) ∧ Exa Z h q "java/lang/String") ∧ Elv Z vm h bs) := by
  refine OMeetsW.body (plainFor_of_name pn1) hE #[.val (.ref o), .val (.int i.toInt32), .val (.int j.toInt32)] (fun m => by first | rfl | (simp [entryFrame, mkF, argsToLocals, Value.category, maxLocals]; done)) ?_
  intro p e s m below meth co T S hvp hsh
  have N := Sn.start s h0.size
  have hn : h0.size ≤ h0.size := Nat.le_refl _
  refine Go.aloadN S d_jdk_42_method_93_code_0 rfl rfl (pc' := 1) rfl ?_
  refine Go.iloadN S d_jdk_42_method_93_code_1 rfl (pc' := 2) rfl ?_
  refine Go.iloadN S d_jdk_42_method_93_code_2 rfl (pc' := 3) rfl ?_
  refine Go.invokevirtualW S (y := ⟨"java/lang/String", "substring", "(II)Ljava/lang/String;"⟩) (rm_substr hw o t kb bs i j fw cs S.ext A hij hjl hb3 Ff Fr Cs Cn hh1 hcw) N hn (fun vm hv => Elv.warm (sb := s) hvp hv) (wd78 hw) (wd79 hw) (S.nf (wd81 hw)) (wd81 hw) (wd80 hw) (wd7 hw) (wd82 hw) (by decide) A.1 d_jdk_42_method_93_code_3 rfl pd17 (argsL := [(.int i.toInt32), (.int j.toInt32)]) rfl rfl rfl (by decide) (W := 0) rfl (by decide) (by decide) (by decide) all0 (pc' := 6) rfl ?_
  intro v1 sb1 T1 h1 L1 S1 N1 K1 q1
  obtain ⟨⟨r, rfl, XR⟩, El⟩ := q1
  replace hn : h1.size ≤ h1.size := Nat.le_refl _
  show Go _ _ _ _ T1 (mkF m 6 #[.val (.ref o), .val (.int i.toInt32), .val (.int j.toInt32)] [(.ref r)])
  exact Go.areturnW S1 N1 hn rfl rfl rfl d_jdk_42_method_93_code_6 (by decide) (by decide) (⟨⟨r, rfl, XR⟩, Elv.warm (sb := sb1) El S1.X.warmed⟩)
set_option maxRecDepth 65536 in
set_option maxHeartbeats 4000000 in
theorem rm_toStr {l : Launch} {Z : State} {a0 : Array Value} (hw : HW Z a0) (o : Addr)  {h0 : Heap} (hE : Ext Z.heap h0) :
    OMeets l Z (⟨"java/lang/String", "toString", "()Ljava/lang/String;"⟩ : MethodName) jdk_42_method_126_code 1 (some (.object "java/lang/String")) ({ frames := 0, cells := 0, slots := 0, locals := 0 } : Room) #[(.ref o)] h0 [] (fun v h => v = some (.ref o) ∧ h0 = h) := by
  refine OMeets.body (plainFor_of_name pn1) hE #[.val (.ref o)] (fun m => by first | rfl | (simp [entryFrame, mkF, argsToLocals, Value.category, maxLocals]; done)) ?_
  intro p e s m below meth co T S
  refine Go.aloadN S d_jdk_42_method_126_code_0 rfl rfl (pc' := 1) rfl ?_
  exact Go.areturn S rfl rfl rfl d_jdk_42_method_126_code_1 (by decide) (by decide) (⟨rfl, rfl⟩)
set_option maxRecDepth 65536 in
set_option maxHeartbeats 4000000 in
theorem rm_next {l : Launch} {Z : State} {a0 : Array Value} (hw : HW Z a0) (fo : Addr) (o t : Addr) (kb : ClassId) (cl : List Int32) (i : Nat) (fw : Value) (cs : Int32) {h0 : Heap} (hE : Ext Z.heap h0) (hl : cl.length ≤ 3) (hcl : ∀ z ∈ cl, ¬ z < 0 ∧ ¬ 255 < z) (hi : i ≤ cl.length) (hz : Z.heap.size ≤ fo) (E : Exa Z h0 fo "com/example/markmint/markmint/core/store/Fields") (Fl : Fld Z h0 fo "com/example/markmint/markmint/core/store/Fields" "line" "Ljava/lang/CharSequence;" (.ref o)) (Fn : Fld Z h0 fo "com/example/markmint/markmint/core/store/Fields" "next" "I" (.int i.toInt32)) (A : StrAt Z h0 o t kb (cl.map own_b)) (hof : o ≠ fo) (htf : t ≠ fo) (Ff : Sta Z Z.heap "jdk/internal/util/Preconditions" "SIOOBE_FORMATTER" "Ljava/util/function/BiFunction;" fw) (Fr : fw.isRef = true) (Cs : Sta Z Z.heap "java/lang/String" "COMPACT_STRINGS" "Z" (.int cs)) (Cn : ¬ cs = 0) (hh1 : Jvm.Lit.constHeld Z "java/lang/StringLatin1" 151) (hcw : Jvm.Lit.compactW.before a0 Z = true) :
    OMeetsW l Z (⟨"com/example/markmint/markmint/core/store/Fields", "next", "()Ljava/lang/String;"⟩ : MethodName) prog_45_method_3_code 3 (some (.object "java/lang/String")) ({ frames := 6, cells := 2, slots := 7, locals := 94 } : Room) #[(.ref fo)] h0 [fo] (fun vm => Elv Z vm h0 (cl.map own_b)) (fun v h vm => (∃ r, v = some (.ref r)) ∧ Elv Z vm h (cl.map own_b) ∧ Fld Z h fo "com/example/markmint/markmint/core/store/Fields" "line" "Ljava/lang/CharSequence;" (.ref o) ∧ ∃ nx, Fld Z h fo "com/example/markmint/markmint/core/store/Fields" "next" "I" (.int nx) ∧ ((nx = -1 ∧ own_sp (cl.drop i) = 0) ∨ ∃ i', nx = Nat.toInt32 i' ∧ i' ≤ cl.length ∧ own_sp (cl.drop i) = 1 + own_sp (cl.drop i'))) := by
  refine OMeetsW.body (plainFor_of_name pn5) hE #[.val (.ref fo), .unset, .unset] (fun m => by first | rfl | (simp [entryFrame, mkF, argsToLocals, Value.category, maxLocals]; done)) ?_
  intro p e s m below meth co T S hvp hsh
  have N := Sn.start s h0.size
  have hn : h0.size ≤ h0.size := Nat.le_refl _
  refine Go.aloadN S d_prog_45_method_3_code_0 rfl rfl (pc' := 1) rfl ?_
  refine Go.invokeprivate S (y := ⟨"com/example/markmint/markmint/core/store/Fields", "start", "()I"⟩) (rm_start hw fo i S.ext Fn (own_nn (by omega))) (wd47 hw) (wd48 hw) (wd49 hw) (wd27 hw) (wd28 hw) (wd50 hw) (by decide) E d_prog_45_method_3_code_1 rfl pd9 (argsL := []) rfl rfl rfl (by decide) (W := 0) rfl (by decide) (by decide) (by decide) all0 (pc' := 4) rfl ?_
  intro v1 T1 h1 L1 S1 K1 q1
  obtain ⟨rfl, rfl⟩ := q1
  show Go _ _ _ _ T1 (mkF m 4 #[.val (.ref fo), .unset, .unset] [(.int i.toInt32)])
  refine Go.istoreN S1 d_prog_45_method_3_code_4 (Ls' := #[.val (.ref fo), .val (.int i.toInt32), .unset]) rfl (pc' := 5) rfl ?_
  refine Go.aloadN S1 d_prog_45_method_3_code_5 rfl rfl (pc' := 6) rfl ?_
  refine Go.iloadN S1 d_prog_45_method_3_code_6 rfl (pc' := 7) rfl ?_
  refine Go.invokeprivate S1 (y := ⟨"com/example/markmint/markmint/core/store/Fields", "end", "(I)I"⟩) (rm_end hw fo o t kb cl i fw cs S1.ext hl hcl Fl A Ff Fr Cs Cn hi) (wd51 hw) (wd52 hw) (wd53 hw) (wd27 hw) (wd28 hw) (wd54 hw) (by decide) E d_prog_45_method_3_code_7 rfl pd18 (argsL := [(.int i.toInt32)]) rfl rfl rfl (by decide) (W := 0) rfl (by decide) (by decide) (by decide) all0 (pc' := 10) rfl ?_
  intro v2 T2 h2 L2 S2 K2 q2
  obtain ⟨⟨qe, rfl, he1, he2, he3⟩, rfl⟩ := q2
  show Go _ _ _ _ T2 (mkF m 10 #[.val (.ref fo), .val (.int i.toInt32), .unset] [(.int qe.toInt32)])
  refine Go.istoreN S2 d_prog_45_method_3_code_10 (Ls' := #[.val (.ref fo), .val (.int i.toInt32), .val (.int qe.toInt32)]) rfl (pc' := 11) rfl ?_
  refine Go.aloadN S2 d_prog_45_method_3_code_11 rfl rfl (pc' := 12) rfl ?_
  refine Go.iloadN S2 d_prog_45_method_3_code_12 rfl (pc' := 13) rfl ?_
  refine Go.aloadN S2 d_prog_45_method_3_code_13 rfl rfl (pc' := 14) rfl ?_
  refine Go.getfield S2 (host := "") (Or.inl (wd33 hw)) Via.refl Fl d_prog_45_method_3_code_14 (pc' := 17) rfl ?_
  intro T3 S3
  refine Go.invokeinterface S3 (y := ⟨"java/lang/String", "length", "()I"⟩) (rm_slen hw o t kb (cl.map own_b) cs S3.ext A Cs Cn) (wd55 hw) (wd56 hw) (wd57 hw) (by first | rfl | decide) (wd58 hw) (wd59 hw) (wd60 hw) (wd61 hw) (wd62 hw) (wd7 hw) (wd63 hw) (by decide) A.1 d_prog_45_method_3_code_17 rfl pd9 (argsL := []) rfl rfl rfl (by decide) (W := 2) rfl (by decide) (by decide) (by decide) all0 (pc' := 22) rfl ?_
  intro v4 T4 h4 L4 S4 K4 q4
  rw [List.length_map] at q4
  obtain ⟨rfl, rfl⟩ := q4
  show Go _ _ _ _ T4 (mkF m 22 #[.val (.ref fo), .val (.int i.toInt32), .val (.int qe.toInt32)] [(.int cl.length.toInt32), (.int qe.toInt32), (.ref fo)])
  refine Go.icmp_ge S4 d_prog_45_method_3_code_22 (pt := 31) (by decide) (pc' := 25) rfl ?_ ?_
  · intro c22
    have hq : ¬ qe < cl.length := fun z => c22 ((own_ltn (by omega) (by omega)).mpr z)
    have hJ : own_sp (cl.drop i) = 0 := by omega
    refine Go.iconst S4 (v := -1) d_prog_45_method_3_code_31 rfl (pc' := 32) rfl ?_
    refine Go.putfield S4 (host := "") (Or.inl (wd40 hw)) Via.refl Fn E (Or.inl (wd41 hw)) (wd27 hw) (ty := .int) (by decide) rfl rfl hz (Or.inl (List.mem_singleton.mpr rfl)) d_prog_45_method_3_code_32 (pc' := 35) rfl ?_
    intro T5 h5 L5 S5 W5
    have F5 := Fn.same W5
    replace Fl := Fl.other W5 (Or.inr (slot_ne (Or.inr (wd34 hw)) (Or.inl (wd41 hw)) (by decide) (t := (.object "java/lang/CharSequence")) (t' := .int) (by decide) (by decide)))
    replace hn := Nat.le_trans hn (Nat.le_of_eq W5.size.symm)
    replace E := E.wr W5
    replace A := A.other W5 (hof) (htf)
    replace hvp := hvp.wr W5
    refine Go.aloadN S5 d_prog_45_method_3_code_35 rfl rfl (pc' := 36) rfl ?_
    refine Go.getfield S5 (host := "") (Or.inl (wd33 hw)) Via.refl Fl d_prog_45_method_3_code_36 (pc' := 39) rfl ?_
    intro T6 S6
    refine Go.iloadN S6 d_prog_45_method_3_code_39 rfl (pc' := 40) rfl ?_
    refine Go.iloadN S6 d_prog_45_method_3_code_40 rfl (pc' := 41) rfl ?_
    refine Go.invokeinterfaceW S6 (y := ⟨"java/lang/String", "subSequence", "(II)Ljava/lang/CharSequence;"⟩) (rm_subSeq hw o t kb (cl.map own_b) i qe fw cs S6.ext A he1 (by rw [List.length_map]; exact he2) (by rw [List.length_map]; exact hl) Ff Fr Cs Cn hh1 hcw) N hn (fun vm hv => Elv.warm (sb := s) hvp hv) (wd70 hw) (wd71 hw) (wd72 hw) (by first | rfl | decide) (wd73 hw) (wd74 hw) (wd75 hw) (wd76 hw) (wd62 hw) (wd7 hw) (wd77 hw) (by decide) A.1 d_prog_45_method_3_code_41 rfl pd19 (argsL := [(.int i.toInt32), (.int qe.toInt32)]) rfl rfl rfl (by decide) (W := 0) rfl (by decide) (by decide) (by decide) all0 (pc' := 46) rfl ?_
    intro v7 sb7 T7 h7 L7 S7 N7 K7 q7
    obtain ⟨⟨r, rfl, XR⟩, El⟩ := q7
    replace E := E.keep K7
    replace A := A.keep K7 nin0 nin0
    replace hvp := hvp.keep K7
    replace Fl := Fl.keep K7 nin0
    replace F5 := F5.keep K7 nin0
    replace hn : h7.size ≤ h7.size := Nat.le_refl _
    show Go _ _ _ _ T7 (mkF m 46 #[.val (.ref fo), .val (.int i.toInt32), .val (.int qe.toInt32)] [(.ref r)])
    refine Go.invokeinterface S7 (y := ⟨"java/lang/String", "toString", "()Ljava/lang/String;"⟩) (rm_toStr hw r S7.ext) (wd94 hw) (wd95 hw) (wd96 hw) (by first | rfl | decide) (wd97 hw) (wd98 hw) (wd99 hw) (wd100 hw) (wd62 hw) (wd7 hw) (wd101 hw) (by decide) XR d_prog_45_method_3_code_46 rfl pd20 (argsL := []) rfl rfl rfl (by decide) (W := 0) rfl (by decide) (by decide) (by decide) all0 (pc' := 51) rfl ?_
    intro v8 T8 h8 L8 S8 K8 q8
    obtain ⟨rfl, rfl⟩ := q8
    show Go _ _ _ _ T8 (mkF m 51 #[.val (.ref fo), .val (.int i.toInt32), .val (.int qe.toInt32)] [(.ref r)])
    exact Go.areturnW S8 N7 hn rfl rfl rfl d_prog_45_method_3_code_51 (by decide) (by decide) (⟨⟨r, rfl⟩, Elv.warm (sb := sb7) El S8.X.warmed, Fl, _, F5, Or.inl ⟨rfl, hJ⟩⟩)
  · intro c22
    have hq : qe < cl.length := (own_ltn (by omega) (by omega)).mp c22
    have hJ : own_sp (cl.drop i) = 1 + own_sp (cl.drop (qe + 1)) := by omega
    refine Go.iloadN S4 d_prog_45_method_3_code_25 rfl (pc' := 26) rfl ?_
    refine Go.iconst S4 (v := 1) d_prog_45_method_3_code_26 rfl (pc' := 27) rfl ?_
    refine Go.iadd S4 d_prog_45_method_3_code_27 (pc' := 28) rfl ?_
    refine Go.goto S4 d_prog_45_method_3_code_28 (pc' := 32) (by decide) ?_
    refine Go.putfield S4 (host := "") (Or.inl (wd40 hw)) Via.refl Fn E (Or.inl (wd41 hw)) (wd27 hw) (ty := .int) (by decide) rfl rfl hz (Or.inl (List.mem_singleton.mpr rfl)) d_prog_45_method_3_code_32 (pc' := 35) rfl ?_
    intro T9 h9 L9 S9 W9
    have F9 := Fn.same W9
    replace Fl := Fl.other W9 (Or.inr (slot_ne (Or.inr (wd34 hw)) (Or.inl (wd41 hw)) (by decide) (t := (.object "java/lang/CharSequence")) (t' := .int) (by decide) (by decide)))
    replace hn := Nat.le_trans hn (Nat.le_of_eq W9.size.symm)
    replace E := E.wr W9
    replace A := A.other W9 (hof) (htf)
    replace hvp := hvp.wr W9
    refine Go.aloadN S9 d_prog_45_method_3_code_35 rfl rfl (pc' := 36) rfl ?_
    refine Go.getfield S9 (host := "") (Or.inl (wd33 hw)) Via.refl Fl d_prog_45_method_3_code_36 (pc' := 39) rfl ?_
    intro T10 S10
    refine Go.iloadN S10 d_prog_45_method_3_code_39 rfl (pc' := 40) rfl ?_
    refine Go.iloadN S10 d_prog_45_method_3_code_40 rfl (pc' := 41) rfl ?_
    refine Go.invokeinterfaceW S10 (y := ⟨"java/lang/String", "subSequence", "(II)Ljava/lang/CharSequence;"⟩) (rm_subSeq hw o t kb (cl.map own_b) i qe fw cs S10.ext A he1 (by rw [List.length_map]; exact he2) (by rw [List.length_map]; exact hl) Ff Fr Cs Cn hh1 hcw) N hn (fun vm hv => Elv.warm (sb := s) hvp hv) (wd70 hw) (wd71 hw) (wd72 hw) (by first | rfl | decide) (wd73 hw) (wd74 hw) (wd75 hw) (wd76 hw) (wd62 hw) (wd7 hw) (wd77 hw) (by decide) A.1 d_prog_45_method_3_code_41 rfl pd19 (argsL := [(.int i.toInt32), (.int qe.toInt32)]) rfl rfl rfl (by decide) (W := 0) rfl (by decide) (by decide) (by decide) all0 (pc' := 46) rfl ?_
    intro v11 sb11 T11 h11 L11 S11 N11 K11 q11
    obtain ⟨⟨r, rfl, XR⟩, El⟩ := q11
    replace E := E.keep K11
    replace A := A.keep K11 nin0 nin0
    replace hvp := hvp.keep K11
    replace Fl := Fl.keep K11 nin0
    replace F9 := F9.keep K11 nin0
    replace hn : h11.size ≤ h11.size := Nat.le_refl _
    show Go _ _ _ _ T11 (mkF m 46 #[.val (.ref fo), .val (.int i.toInt32), .val (.int qe.toInt32)] [(.ref r)])
    refine Go.invokeinterface S11 (y := ⟨"java/lang/String", "toString", "()Ljava/lang/String;"⟩) (rm_toStr hw r S11.ext) (wd94 hw) (wd95 hw) (wd96 hw) (by first | rfl | decide) (wd97 hw) (wd98 hw) (wd99 hw) (wd100 hw) (wd62 hw) (wd7 hw) (wd101 hw) (by decide) XR d_prog_45_method_3_code_46 rfl pd20 (argsL := []) rfl rfl rfl (by decide) (W := 0) rfl (by decide) (by decide) (by decide) all0 (pc' := 51) rfl ?_
    intro v12 T12 h12 L12 S12 K12 q12
    obtain ⟨rfl, rfl⟩ := q12
    show Go _ _ _ _ T12 (mkF m 51 #[.val (.ref fo), .val (.int i.toInt32), .val (.int qe.toInt32)] [(.ref r)])
    exact Go.areturnW S12 N11 hn rfl rfl rfl d_prog_45_method_3_code_51 (by decide) (by decide) (⟨⟨r, rfl⟩, Elv.warm (sb := sb11) El S12.X.warmed, Fl, _, F9, Or.inr ⟨qe + 1, own_incN (by omega), hq, hJ⟩⟩)
set_option maxRecDepth 65536 in
set_option maxHeartbeats 4000000 in
theorem own_tail0 {p : Program} {l : Launch} {e : Env} {s sb : State} {m : MethodId} {args : Array Value} {below : List Frame} {meth : Method} {co : Code} {Z : State} {a0 : Array Value} (hw : HW Z a0) (g0 g1 g2 g3 g4 g5 g6 g7 g8 g9 g10 g11 g12 : Slot) (o t : Addr) (kb : ClassId) (cl : List Int32) (fw : Value) (cs : Int32) {h0 h : Heap} {T : State} {locs : List Loc} {n : Nat} (S : St p l e room_1 sb m args below meth co Z x.cls code maxLocals ret x.name h0 [] T h locs 8 20) (N : Sn s sb n) (hn : n ≤ h.size) (hl : cl.length ≤ 3) (hcl : ∀ z ∈ cl, ¬ z < 0 ∧ ¬ 255 < z) (A : StrAt Z h o t kb (cl.map own_b)) (El : Elv Z sb.vm h (cl.map own_b)) (Ff : Sta Z Z.heap "jdk/internal/util/Preconditions" "SIOOBE_FORMATTER" "Ljava/util/function/BiFunction;" fw) (Fr : fw.isRef = true) (Cs : Sta Z Z.heap "java/lang/String" "COMPACT_STRINGS" "Z" (.int cs)) (Cn : ¬ cs = 0) (hh1 : Jvm.Lit.constHeld Z "java/lang/StringLatin1" 151) (hcw : Jvm.Lit.compactW.before a0 Z = true) (hsp : own_sp cl = 0) :
    Go p e below (PostW Z s h0 [] room_1.cells room_1.slots (fun v h vm => v = some (.int 1))) T (mkF m 170 #[g0, g1, g2, g3, g4, g5, g6, g7, g8, g9, g10, g11, g12, .val (.ref o), .val (.int (0 : Int32)), .unset, .unset, .unset, .unset, .unset, .unset, .unset, .unset] []) := by
  refine Go.iload S at_170 rfl (pc' := 172) rfl ?_
  refine Go.iconst S (v := 1) at_172 rfl (pc' := 173) rfl ?_
  refine Go.iadd S at_173 (pc' := 174) rfl ?_
  show Go _ _ _ _ T (mkF m 174 #[g0, g1, g2, g3, g4, g5, g6, g7, g8, g9, g10, g11, g12, .val (.ref o), .val (.int (0 : Int32)), .unset, .unset, .unset, .unset, .unset, .unset, .unset, .unset] [(.int (1 : Int32))])
  refine Go.istore S at_174 (Ls' := #[g0, g1, g2, g3, g4, g5, g6, g7, g8, g9, g10, g11, g12, .val (.ref o), .val (.int (0 : Int32)), .val (.int (1 : Int32)), .unset, .unset, .unset, .unset, .unset, .unset, .unset]) rfl (pc' := 176) rfl ?_
  refine Go.new S (wd26 hw) (wd27 hw) (wd28 hw) at_176 (by decide) (by decide) (pc' := 179) rfl ?_
  intro T1 h1 a1 S1 E1 hg1 hz1 hk1 X1 D1
  have n_o_a1 : o ≠ a1 := Nat.ne_of_lt (Nat.lt_of_lt_of_le A.lt (Nat.le_of_eq hg1))
  have n_t_a1 : t ≠ a1 := Nat.ne_of_lt (Nat.lt_of_lt_of_le A.lt2 (Nat.le_of_eq hg1))
  replace hn := Nat.le_trans hn E1.1
  replace A := A.ext E1
  replace El := El.ext E1
  have F1_line : Fld Z h1 a1 "com/example/markmint/markmint/core/store/Fields" "line" "Ljava/lang/CharSequence;" .null := D1 (Or.inr (wd34 hw)) (ty := (.object "java/lang/CharSequence")) (by decide)
  have F1_next : Fld Z h1 a1 "com/example/markmint/markmint/core/store/Fields" "next" "I" (.int (0 : Int32)) := D1 (Or.inl (wd41 hw)) (ty := .int) (by decide)
  refine Go.dup S1 at_179 rfl (pc' := 180) rfl ?_
  refine Go.aload S1 at_180 rfl rfl (pc' := 182) rfl ?_
  refine Go.invokespecial S1 (y := ⟨"com/example/markmint/markmint/core/store/Fields", "<init>", "(Ljava/lang/CharSequence;)V"⟩) (rm_finit hw a1 o S1.ext hz1 X1 F1_line F1_next) rfl rfl (wd29 hw) (wd30 hw) (wd28 hw) (wd31 hw) (by decide) at_182 rfl pd21 (argsL := [(.ref o)]) rfl rfl rfl (by decide) (W := 1) rfl (by decide) (by decide) (by decide) (allS (Or.inr hk1) all0) (pc' := 185) rfl ?_
  intro v2 T2 h2 L2 S2 K2 q2
  obtain ⟨rfl, Fl, Fn⟩ := q2
  replace hn := Nat.le_trans hn K2.1
  replace A := A.keep K2 (ninS n_o_a1 nin0) (ninS n_t_a1 nin0)
  replace El := El.keep K2
  replace X1 := X1.keep K2
  show Go _ _ _ _ T2 (mkF m 185 #[g0, g1, g2, g3, g4, g5, g6, g7, g8, g9, g10, g11, g12, .val (.ref o), .val (.int (0 : Int32)), .val (.int (1 : Int32)), .unset, .unset, .unset, .unset, .unset, .unset, .unset] [(.ref a1)])
  have hi0 : 0 ≤ cl.length := Nat.zero_le _
  have hs0 : own_sp (cl.drop 0) + 0 = 0 := hsp
  refine Go.astore S2 at_185 rfl (Ls' := #[g0, g1, g2, g3, g4, g5, g6, g7, g8, g9, g10, g11, g12, .val (.ref o), .val (.int (0 : Int32)), .val (.int (1 : Int32)), .val (.ref a1), .unset, .unset, .unset, .unset, .unset, .unset]) rfl (pc' := 187) rfl ?_
  refine Go.iconst S2 (v := 1) at_187 rfl (pc' := 188) rfl ?_
  refine Go.istore S2 at_188 (Ls' := #[g0, g1, g2, g3, g4, g5, g6, g7, g8, g9, g10, g11, g12, .val (.ref o), .val (.int (0 : Int32)), .val (.int (1 : Int32)), .val (.ref a1), .val (.int (1 : Int32)), .unset, .unset, .unset, .unset, .unset]) rfl (pc' := 190) rfl ?_
  refine Go.aload S2 at_190 rfl rfl (pc' := 192) rfl ?_
  refine Go.invokevirtual S2 (y := ⟨"com/example/markmint/markmint/core/store/Fields", "hasNext", "()Z"⟩) (rm_hasNext hw a1 (Nat.toInt32 0) S2.ext Fn) (wd35 hw) (wd36 hw) (S2.nf (wd38 hw)) (wd38 hw) (wd37 hw) (wd28 hw) (wd39 hw) (by decide) X1 at_192 rfl pd6 (argsL := []) rfl rfl rfl (by decide) (W := 0) rfl (by decide) (by decide) (by decide) all0 (pc' := 195) rfl ?_
  intro v3 T3 h3 L3 S3 K3 q3
  rw [if_neg (own_nn (i := 0) (by omega))] at q3
  obtain ⟨rfl, rfl⟩ := q3
  show Go _ _ _ _ T3 (mkF m 195 #[g0, g1, g2, g3, g4, g5, g6, g7, g8, g9, g10, g11, g12, .val (.ref o), .val (.int (0 : Int32)), .val (.int (1 : Int32)), .val (.ref a1), .val (.int (1 : Int32)), .unset, .unset, .unset, .unset, .unset] [(.int (1 : Int32))])
  refine Go.istore S3 at_195 (Ls' := #[g0, g1, g2, g3, g4, g5, g6, g7, g8, g9, g10, g11, g12, .val (.ref o), .val (.int (0 : Int32)), .val (.int (1 : Int32)), .val (.ref a1), .val (.int (1 : Int32)), .val (.int (1 : Int32)), .unset, .unset, .unset, .unset]) rfl (pc' := 197) rfl ?_
  refine Go.iload S3 at_197 rfl (pc' := 199) rfl ?_
  refine Go.if_eq S3 at_199 (pt := 222) (by decide) (pc' := 202) rfl ?_ ?_
  · intro c199; exact absurd c199 (by decide)
  · intro c199
    refine Go.iload S3 at_202 rfl (pc' := 204) rfl ?_
    refine Go.iconst S3 (v := 0) at_204 rfl (pc' := 205) rfl ?_
    refine Go.iload S3 at_205 rfl (pc' := 207) rfl ?_
    refine Go.icmp_ge S3 at_207 (pt := 214) (by decide) (pc' := 210) rfl ?_ ?_
    · intro c207; exact absurd (by decide) c207
    · intro c207
      refine Go.iconst S3 (v := 1) at_210 rfl (pc' := 211) rfl ?_
      refine Go.goto S3 at_211 (pc' := 215) (by decide) ?_
      refine Go.icmp_ne S3 at_215 (pt := 222) (by decide) (pc' := 218) rfl ?_ ?_
      · intro c215; exact absurd (by decide) c215
      · intro c215
        refine Go.iconst S3 (v := 1) at_218 rfl (pc' := 219) rfl ?_
        refine Go.goto S3 at_219 (pc' := 223) (by decide) ?_
        refine Go.istore S3 at_223 (Ls' := #[g0, g1, g2, g3, g4, g5, g6, g7, g8, g9, g10, g11, g12, .val (.ref o), .val (.int (0 : Int32)), .val (.int (1 : Int32)), .val (.ref a1), .val (.int (1 : Int32)), .val (.int (1 : Int32)), .unset, .unset, .unset, .unset]) rfl (pc' := 225) rfl ?_
        refine Go.iconst S3 (v := 0) at_225 rfl (pc' := 226) rfl ?_
        refine Go.iload S3 at_226 rfl (pc' := 228) rfl ?_
        refine Go.icmp_ge S3 at_228 (pt := 237) (by decide) (pc' := 231) rfl ?_ ?_
        · intro c228; exact absurd (by decide) c228
        · intro c228
          refine Go.aload S3 at_231 rfl rfl (pc' := 233) rfl ?_
          refine Go.invokevirtualW S3 (y := ⟨"com/example/markmint/markmint/core/store/Fields", "next", "()Ljava/lang/String;"⟩) (rm_next hw a1 o t kb cl 0 fw cs S3.ext hl hcl hi0 hz1 X1 Fl Fn A n_o_a1 n_t_a1 Ff Fr Cs Cn hh1 hcw) N hn (fun vm hv => Elv.warm (sb := sb) El hv) (wd42 hw) (wd43 hw) (S3.nf (wd45 hw)) (wd45 hw) (wd44 hw) (wd28 hw) (wd46 hw) (by decide) X1 at_233 rfl pd20 (argsL := []) rfl rfl rfl (by decide) (W := 0) rfl (by decide) (by decide) (by decide) (allS (Or.inr hk1) all0) (pc' := 236) rfl ?_
          intro v4 sb4 T4 h4 L4 S4 N4 K4 q4
          obtain ⟨⟨r4, rfl⟩, El4, Fl4, nx4, Fn4, J4⟩ := q4
          replace A := A.keep K4 (ninS n_o_a1 nin0) (ninS n_t_a1 nin0)
          replace X1 := X1.keep K4
          replace hn : h4.size ≤ h4.size := Nat.le_refl _
          show Go _ _ _ _ T4 (mkF m 236 #[g0, g1, g2, g3, g4, g5, g6, g7, g8, g9, g10, g11, g12, .val (.ref o), .val (.int (0 : Int32)), .val (.int (1 : Int32)), .val (.ref a1), .val (.int (1 : Int32)), .val (.int (1 : Int32)), .unset, .unset, .unset, .unset] [(.ref r4)])
          obtain ⟨rfl, -⟩ := J4.resolve_right (fun ⟨_, _, _, z⟩ => by omega)
          refine Go.pop S4 at_236 rfl (pc' := 237) rfl ?_
          refine Go.aload S4 at_237 rfl rfl (pc' := 239) rfl ?_
          refine Go.invokevirtual S4 (y := ⟨"com/example/markmint/markmint/core/store/Fields", "hasNext", "()Z"⟩) (rm_hasNext hw a1 (-1) S4.ext Fn4) (wd35 hw) (wd36 hw) (S4.nf (wd38 hw)) (wd38 hw) (wd37 hw) (wd28 hw) (wd39 hw) (by decide) X1 at_239 rfl pd6 (argsL := []) rfl rfl rfl (by decide) (W := 0) rfl (by decide) (by decide) (by decide) all0 (pc' := 242) rfl ?_
          intro v5 T5 h5 L5 S5 K5 q5
          rw [if_pos (by decide)] at q5
          obtain ⟨rfl, rfl⟩ := q5
          show Go _ _ _ _ T5 (mkF m 242 #[g0, g1, g2, g3, g4, g5, g6, g7, g8, g9, g10, g11, g12, .val (.ref o), .val (.int (0 : Int32)), .val (.int (1 : Int32)), .val (.ref a1), .val (.int (1 : Int32)), .val (.int (1 : Int32)), .unset, .unset, .unset, .unset] [(.int (0 : Int32))])
          refine Go.istore S5 at_242 (Ls' := #[g0, g1, g2, g3, g4, g5, g6, g7, g8, g9, g10, g11, g12, .val (.ref o), .val (.int (0 : Int32)), .val (.int (1 : Int32)), .val (.ref a1), .val (.int (1 : Int32)), .val (.int (1 : Int32)), .val (.int (0 : Int32)), .unset, .unset, .unset]) rfl (pc' := 244) rfl ?_
          refine Go.iload S5 at_244 rfl (pc' := 246) rfl ?_
          refine Go.if_eq S5 at_246 (pt := 269) (by decide) (pc' := 249) rfl ?_ ?_
          · intro c246; exact absurd c246 (by decide)
          · intro c246
            refine Go.iload S5 at_249 rfl (pc' := 251) rfl ?_
            refine Go.iconst S5 (v := 1) at_251 rfl (pc' := 252) rfl ?_
            refine Go.iload S5 at_252 rfl (pc' := 254) rfl ?_
            refine Go.icmp_ge S5 at_254 (pt := 261) (by decide) (pc' := 257) rfl ?_ ?_
            · intro c254
              refine Go.iconst S5 (v := 0) at_261 rfl (pc' := 262) rfl ?_
              refine Go.icmp_ne S5 at_262 (pt := 269) (by decide) (pc' := 265) rfl ?_ ?_
              · intro c262; exact absurd (by decide) c262
              · intro c262
                refine Go.iconst S5 (v := 1) at_265 rfl (pc' := 266) rfl ?_
                refine Go.goto S5 at_266 (pc' := 270) (by decide) ?_
                refine Go.istore S5 at_270 (Ls' := #[g0, g1, g2, g3, g4, g5, g6, g7, g8, g9, g10, g11, g12, .val (.ref o), .val (.int (0 : Int32)), .val (.int (1 : Int32)), .val (.ref a1), .val (.int (1 : Int32)), .val (.int (1 : Int32)), .val (.int (0 : Int32)), .unset, .unset, .unset]) rfl (pc' := 272) rfl ?_
                refine Go.iconst S5 (v := 1) at_272 rfl (pc' := 273) rfl ?_
                refine Go.iload S5 at_273 rfl (pc' := 275) rfl ?_
                refine Go.icmp_ge S5 at_275 (pt := 284) (by decide) (pc' := 278) rfl ?_ ?_
                · intro c275
                  refine Go.aload S5 at_284 rfl rfl (pc' := 286) rfl ?_
                  refine Go.invokevirtual S5 (y := ⟨"com/example/markmint/markmint/core/store/Fields", "hasNext", "()Z"⟩) (rm_hasNext hw a1 (-1) S5.ext Fn4) (wd35 hw) (wd36 hw) (S5.nf (wd38 hw)) (wd38 hw) (wd37 hw) (wd28 hw) (wd39 hw) (by decide) X1 at_286 rfl pd6 (argsL := []) rfl rfl rfl (by decide) (W := 0) rfl (by decide) (by decide) (by decide) all0 (pc' := 289) rfl ?_
                  intro v6 T6 h6 L6 S6 K6 q6
                  rw [if_pos (by decide)] at q6
                  obtain ⟨rfl, rfl⟩ := q6
                  show Go _ _ _ _ T6 (mkF m 289 #[g0, g1, g2, g3, g4, g5, g6, g7, g8, g9, g10, g11, g12, .val (.ref o), .val (.int (0 : Int32)), .val (.int (1 : Int32)), .val (.ref a1), .val (.int (1 : Int32)), .val (.int (1 : Int32)), .val (.int (0 : Int32)), .unset, .unset, .unset] [(.int (0 : Int32))])
                  refine Go.istore S6 at_289 (Ls' := #[g0, g1, g2, g3, g4, g5, g6, g7, g8, g9, g10, g11, g12, .val (.ref o), .val (.int (0 : Int32)), .val (.int (1 : Int32)), .val (.ref a1), .val (.int (1 : Int32)), .val (.int (1 : Int32)), .val (.int (0 : Int32)), .val (.int (0 : Int32)), .unset, .unset]) rfl (pc' := 291) rfl ?_
                  refine Go.iload S6 at_291 rfl (pc' := 293) rfl ?_
                  refine Go.if_eq S6 at_293 (pt := 316) (by decide) (pc' := 296) rfl ?_ ?_
                  · intro c293; exact absurd c293 (by decide)
                  · intro c293
                    refine Go.iload S6 at_296 rfl (pc' := 298) rfl ?_
                    refine Go.iconst S6 (v := 2) at_298 rfl (pc' := 299) rfl ?_
                    refine Go.iload S6 at_299 rfl (pc' := 301) rfl ?_
                    refine Go.icmp_ge S6 at_301 (pt := 308) (by decide) (pc' := 304) rfl ?_ ?_
                    · intro c301
                      refine Go.iconst S6 (v := 0) at_308 rfl (pc' := 309) rfl ?_
                      refine Go.icmp_ne S6 at_309 (pt := 316) (by decide) (pc' := 312) rfl ?_ ?_
                      · intro c309; exact absurd (by decide) c309
                      · intro c309
                        refine Go.iconst S6 (v := 1) at_312 rfl (pc' := 313) rfl ?_
                        refine Go.goto S6 at_313 (pc' := 317) (by decide) ?_
                        refine Go.istore S6 at_317 (Ls' := #[g0, g1, g2, g3, g4, g5, g6, g7, g8, g9, g10, g11, g12, .val (.ref o), .val (.int (0 : Int32)), .val (.int (1 : Int32)), .val (.ref a1), .val (.int (1 : Int32)), .val (.int (1 : Int32)), .val (.int (0 : Int32)), .val (.int (0 : Int32)), .unset, .unset]) rfl (pc' := 319) rfl ?_
                        refine Go.iconst S6 (v := 2) at_319 rfl (pc' := 320) rfl ?_
                        refine Go.iload S6 at_320 rfl (pc' := 322) rfl ?_
                        refine Go.icmp_ge S6 at_322 (pt := 331) (by decide) (pc' := 325) rfl ?_ ?_
                        · intro c322
                          refine Go.aload S6 at_331 rfl rfl (pc' := 333) rfl ?_
                          refine Go.invokevirtual S6 (y := ⟨"com/example/markmint/markmint/core/store/Fields", "hasNext", "()Z"⟩) (rm_hasNext hw a1 (-1) S6.ext Fn4) (wd35 hw) (wd36 hw) (S6.nf (wd38 hw)) (wd38 hw) (wd37 hw) (wd28 hw) (wd39 hw) (by decide) X1 at_333 rfl pd6 (argsL := []) rfl rfl rfl (by decide) (W := 0) rfl (by decide) (by decide) (by decide) all0 (pc' := 336) rfl ?_
                          intro v7 T7 h7 L7 S7 K7 q7
                          rw [if_pos (by decide)] at q7
                          obtain ⟨rfl, rfl⟩ := q7
                          show Go _ _ _ _ T7 (mkF m 336 #[g0, g1, g2, g3, g4, g5, g6, g7, g8, g9, g10, g11, g12, .val (.ref o), .val (.int (0 : Int32)), .val (.int (1 : Int32)), .val (.ref a1), .val (.int (1 : Int32)), .val (.int (1 : Int32)), .val (.int (0 : Int32)), .val (.int (0 : Int32)), .unset, .unset] [(.int (0 : Int32))])
                          refine Go.istore S7 at_336 (Ls' := #[g0, g1, g2, g3, g4, g5, g6, g7, g8, g9, g10, g11, g12, .val (.ref o), .val (.int (0 : Int32)), .val (.int (1 : Int32)), .val (.ref a1), .val (.int (1 : Int32)), .val (.int (1 : Int32)), .val (.int (0 : Int32)), .val (.int (0 : Int32)), .val (.int (0 : Int32)), .unset]) rfl (pc' := 338) rfl ?_
                          refine Go.iload S7 at_338 rfl (pc' := 340) rfl ?_
                          refine Go.if_eq S7 at_340 (pt := 363) (by decide) (pc' := 343) rfl ?_ ?_
                          · intro c340; exact absurd c340 (by decide)
                          · intro c340
                            refine Go.iload S7 at_343 rfl (pc' := 345) rfl ?_
                            refine Go.iconst S7 (v := 3) at_345 rfl (pc' := 346) rfl ?_
                            refine Go.iload S7 at_346 rfl (pc' := 348) rfl ?_
                            refine Go.icmp_ge S7 at_348 (pt := 355) (by decide) (pc' := 351) rfl ?_ ?_
                            · intro c348
                              refine Go.iconst S7 (v := 0) at_355 rfl (pc' := 356) rfl ?_
                              refine Go.icmp_ne S7 at_356 (pt := 363) (by decide) (pc' := 359) rfl ?_ ?_
                              · intro c356; exact absurd (by decide) c356
                              · intro c356
                                refine Go.iconst S7 (v := 1) at_359 rfl (pc' := 360) rfl ?_
                                refine Go.goto S7 at_360 (pc' := 364) (by decide) ?_
                                refine Go.istore S7 at_364 (Ls' := #[g0, g1, g2, g3, g4, g5, g6, g7, g8, g9, g10, g11, g12, .val (.ref o), .val (.int (0 : Int32)), .val (.int (1 : Int32)), .val (.ref a1), .val (.int (1 : Int32)), .val (.int (1 : Int32)), .val (.int (0 : Int32)), .val (.int (0 : Int32)), .val (.int (0 : Int32)), .unset]) rfl (pc' := 366) rfl ?_
                                refine Go.iconst S7 (v := 3) at_366 rfl (pc' := 367) rfl ?_
                                refine Go.iload S7 at_367 rfl (pc' := 369) rfl ?_
                                refine Go.icmp_ge S7 at_369 (pt := 378) (by decide) (pc' := 372) rfl ?_ ?_
                                · intro c369
                                  refine Go.aload S7 at_378 rfl rfl (pc' := 380) rfl ?_
                                  refine Go.invokevirtual S7 (y := ⟨"com/example/markmint/markmint/core/store/Fields", "hasNext", "()Z"⟩) (rm_hasNext hw a1 (-1) S7.ext Fn4) (wd35 hw) (wd36 hw) (S7.nf (wd38 hw)) (wd38 hw) (wd37 hw) (wd28 hw) (wd39 hw) (by decide) X1 at_380 rfl pd6 (argsL := []) rfl rfl rfl (by decide) (W := 0) rfl (by decide) (by decide) (by decide) all0 (pc' := 383) rfl ?_
                                  intro v8 T8 h8 L8 S8 K8 q8
                                  rw [if_pos (by decide)] at q8
                                  obtain ⟨rfl, rfl⟩ := q8
                                  show Go _ _ _ _ T8 (mkF m 383 #[g0, g1, g2, g3, g4, g5, g6, g7, g8, g9, g10, g11, g12, .val (.ref o), .val (.int (0 : Int32)), .val (.int (1 : Int32)), .val (.ref a1), .val (.int (1 : Int32)), .val (.int (1 : Int32)), .val (.int (0 : Int32)), .val (.int (0 : Int32)), .val (.int (0 : Int32)), .unset] [(.int (0 : Int32))])
                                  refine Go.istore S8 at_383 (Ls' := #[g0, g1, g2, g3, g4, g5, g6, g7, g8, g9, g10, g11, g12, .val (.ref o), .val (.int (0 : Int32)), .val (.int (1 : Int32)), .val (.ref a1), .val (.int (1 : Int32)), .val (.int (1 : Int32)), .val (.int (0 : Int32)), .val (.int (0 : Int32)), .val (.int (0 : Int32)), .val (.int (0 : Int32))]) rfl (pc' := 385) rfl ?_
                                  refine Go.iload S8 at_385 rfl (pc' := 387) rfl ?_
                                  refine Go.if_eq S8 at_387 (pt := 410) (by decide) (pc' := 390) rfl ?_ ?_
                                  · intro c387; exact absurd c387 (by decide)
                                  · intro c387
                                    refine Go.iload S8 at_390 rfl (pc' := 392) rfl ?_
                                    refine Go.iconst S8 (v := 4) at_392 rfl (pc' := 393) rfl ?_
                                    refine Go.iload S8 at_393 rfl (pc' := 395) rfl ?_
                                    refine Go.icmp_ge S8 at_395 (pt := 402) (by decide) (pc' := 398) rfl ?_ ?_
                                    · intro c395
                                      refine Go.iconst S8 (v := 0) at_402 rfl (pc' := 403) rfl ?_
                                      refine Go.icmp_ne S8 at_403 (pt := 410) (by decide) (pc' := 406) rfl ?_ ?_
                                      · intro c403; exact absurd (by decide) c403
                                      · intro c403
                                        refine Go.iconst S8 (v := 1) at_406 rfl (pc' := 407) rfl ?_
                                        refine Go.goto S8 at_407 (pc' := 411) (by decide) ?_
                                        refine Go.istore S8 at_411 (Ls' := #[g0, g1, g2, g3, g4, g5, g6, g7, g8, g9, g10, g11, g12, .val (.ref o), .val (.int (0 : Int32)), .val (.int (1 : Int32)), .val (.ref a1), .val (.int (1 : Int32)), .val (.int (1 : Int32)), .val (.int (0 : Int32)), .val (.int (0 : Int32)), .val (.int (0 : Int32)), .val (.int (0 : Int32))]) rfl (pc' := 413) rfl ?_
                                        refine Go.iload S8 at_413 rfl (pc' := 415) rfl ?_
                                        exact Go.zreturnW S8 N4 hn rfl (by decide) at_415 (z' := (1 : Int32)) rfl (by decide) (by decide) (rfl)
                                    · intro c395; exact absurd c395 (by decide)
                                · intro c369; exact absurd c369 (by decide)
                            · intro c348; exact absurd c348 (by decide)
                        · intro c322; exact absurd c322 (by decide)
                    · intro c301; exact absurd c301 (by decide)
                · intro c275; exact absurd c275 (by decide)
            · intro c254; exact absurd c254 (by decide)
set_option maxRecDepth 65536 in
set_option maxHeartbeats 4000000 in
theorem own_tail1 {p : Program} {l : Launch} {e : Env} {s sb : State} {m : MethodId} {args : Array Value} {below : List Frame} {meth : Method} {co : Code} {Z : State} {a0 : Array Value} (hw : HW Z a0) (g0 g1 g2 g3 g4 g5 g6 g7 g8 g9 g10 g11 g12 : Slot) (o t : Addr) (kb : ClassId) (cl : List Int32) (fw : Value) (cs : Int32) {h0 h : Heap} {T : State} {locs : List Loc} {n : Nat} (S : St p l e room_1 sb m args below meth co Z x.cls code maxLocals ret x.name h0 [] T h locs 8 20) (N : Sn s sb n) (hn : n ≤ h.size) (hl : cl.length ≤ 3) (hcl : ∀ z ∈ cl, ¬ z < 0 ∧ ¬ 255 < z) (A : StrAt Z h o t kb (cl.map own_b)) (El : Elv Z sb.vm h (cl.map own_b)) (Ff : Sta Z Z.heap "jdk/internal/util/Preconditions" "SIOOBE_FORMATTER" "Ljava/util/function/BiFunction;" fw) (Fr : fw.isRef = true) (Cs : Sta Z Z.heap "java/lang/String" "COMPACT_STRINGS" "Z" (.int cs)) (Cn : ¬ cs = 0) (hh1 : Jvm.Lit.constHeld Z "java/lang/StringLatin1" 151) (hcw : Jvm.Lit.compactW.before a0 Z = true) (hsp : own_sp cl = 1) :
    Go p e below (PostW Z s h0 [] room_1.cells room_1.slots (fun v h vm => v = some (.int 1))) T (mkF m 170 #[g0, g1, g2, g3, g4, g5, g6, g7, g8, g9, g10, g11, g12, .val (.ref o), .val (.int (1 : Int32)), .unset, .unset, .unset, .unset, .unset, .unset, .unset, .unset] []) := by
  refine Go.iload S at_170 rfl (pc' := 172) rfl ?_
  refine Go.iconst S (v := 1) at_172 rfl (pc' := 173) rfl ?_
  refine Go.iadd S at_173 (pc' := 174) rfl ?_
  show Go _ _ _ _ T (mkF m 174 #[g0, g1, g2, g3, g4, g5, g6, g7, g8, g9, g10, g11, g12, .val (.ref o), .val (.int (1 : Int32)), .unset, .unset, .unset, .unset, .unset, .unset, .unset, .unset] [(.int (2 : Int32))])
  refine Go.istore S at_174 (Ls' := #[g0, g1, g2, g3, g4, g5, g6, g7, g8, g9, g10, g11, g12, .val (.ref o), .val (.int (1 : Int32)), .val (.int (2 : Int32)), .unset, .unset, .unset, .unset, .unset, .unset, .unset]) rfl (pc' := 176) rfl ?_
  refine Go.new S (wd26 hw) (wd27 hw) (wd28 hw) at_176 (by decide) (by decide) (pc' := 179) rfl ?_
  intro T1 h1 a1 S1 E1 hg1 hz1 hk1 X1 D1
  have n_o_a1 : o ≠ a1 := Nat.ne_of_lt (Nat.lt_of_lt_of_le A.lt (Nat.le_of_eq hg1))
  have n_t_a1 : t ≠ a1 := Nat.ne_of_lt (Nat.lt_of_lt_of_le A.lt2 (Nat.le_of_eq hg1))
  replace hn := Nat.le_trans hn E1.1
  replace A := A.ext E1
  replace El := El.ext E1
  have F1_line : Fld Z h1 a1 "com/example/markmint/markmint/core/store/Fields" "line" "Ljava/lang/CharSequence;" .null := D1 (Or.inr (wd34 hw)) (ty := (.object "java/lang/CharSequence")) (by decide)
  have F1_next : Fld Z h1 a1 "com/example/markmint/markmint/core/store/Fields" "next" "I" (.int (0 : Int32)) := D1 (Or.inl (wd41 hw)) (ty := .int) (by decide)
  refine Go.dup S1 at_179 rfl (pc' := 180) rfl ?_
  refine Go.aload S1 at_180 rfl rfl (pc' := 182) rfl ?_
  refine Go.invokespecial S1 (y := ⟨"com/example/markmint/markmint/core/store/Fields", "<init>", "(Ljava/lang/CharSequence;)V"⟩) (rm_finit hw a1 o S1.ext hz1 X1 F1_line F1_next) rfl rfl (wd29 hw) (wd30 hw) (wd28 hw) (wd31 hw) (by decide) at_182 rfl pd21 (argsL := [(.ref o)]) rfl rfl rfl (by decide) (W := 1) rfl (by decide) (by decide) (by decide) (allS (Or.inr hk1) all0) (pc' := 185) rfl ?_
  intro v2 T2 h2 L2 S2 K2 q2
  obtain ⟨rfl, Fl, Fn⟩ := q2
  replace hn := Nat.le_trans hn K2.1
  replace A := A.keep K2 (ninS n_o_a1 nin0) (ninS n_t_a1 nin0)
  replace El := El.keep K2
  replace X1 := X1.keep K2
  show Go _ _ _ _ T2 (mkF m 185 #[g0, g1, g2, g3, g4, g5, g6, g7, g8, g9, g10, g11, g12, .val (.ref o), .val (.int (1 : Int32)), .val (.int (2 : Int32)), .unset, .unset, .unset, .unset, .unset, .unset, .unset] [(.ref a1)])
  have hi0 : 0 ≤ cl.length := Nat.zero_le _
  have hs0 : own_sp (cl.drop 0) + 0 = 1 := hsp
  refine Go.astore S2 at_185 rfl (Ls' := #[g0, g1, g2, g3, g4, g5, g6, g7, g8, g9, g10, g11, g12, .val (.ref o), .val (.int (1 : Int32)), .val (.int (2 : Int32)), .val (.ref a1), .unset, .unset, .unset, .unset, .unset, .unset]) rfl (pc' := 187) rfl ?_
  refine Go.iconst S2 (v := 1) at_187 rfl (pc' := 188) rfl ?_
  refine Go.istore S2 at_188 (Ls' := #[g0, g1, g2, g3, g4, g5, g6, g7, g8, g9, g10, g11, g12, .val (.ref o), .val (.int (1 : Int32)), .val (.int (2 : Int32)), .val (.ref a1), .val (.int (1 : Int32)), .unset, .unset, .unset, .unset, .unset]) rfl (pc' := 190) rfl ?_
  refine Go.aload S2 at_190 rfl rfl (pc' := 192) rfl ?_
  refine Go.invokevirtual S2 (y := ⟨"com/example/markmint/markmint/core/store/Fields", "hasNext", "()Z"⟩) (rm_hasNext hw a1 (Nat.toInt32 0) S2.ext Fn) (wd35 hw) (wd36 hw) (S2.nf (wd38 hw)) (wd38 hw) (wd37 hw) (wd28 hw) (wd39 hw) (by decide) X1 at_192 rfl pd6 (argsL := []) rfl rfl rfl (by decide) (W := 0) rfl (by decide) (by decide) (by decide) all0 (pc' := 195) rfl ?_
  intro v3 T3 h3 L3 S3 K3 q3
  rw [if_neg (own_nn (i := 0) (by omega))] at q3
  obtain ⟨rfl, rfl⟩ := q3
  show Go _ _ _ _ T3 (mkF m 195 #[g0, g1, g2, g3, g4, g5, g6, g7, g8, g9, g10, g11, g12, .val (.ref o), .val (.int (1 : Int32)), .val (.int (2 : Int32)), .val (.ref a1), .val (.int (1 : Int32)), .unset, .unset, .unset, .unset, .unset] [(.int (1 : Int32))])
  refine Go.istore S3 at_195 (Ls' := #[g0, g1, g2, g3, g4, g5, g6, g7, g8, g9, g10, g11, g12, .val (.ref o), .val (.int (1 : Int32)), .val (.int (2 : Int32)), .val (.ref a1), .val (.int (1 : Int32)), .val (.int (1 : Int32)), .unset, .unset, .unset, .unset]) rfl (pc' := 197) rfl ?_
  refine Go.iload S3 at_197 rfl (pc' := 199) rfl ?_
  refine Go.if_eq S3 at_199 (pt := 222) (by decide) (pc' := 202) rfl ?_ ?_
  · intro c199; exact absurd c199 (by decide)
  · intro c199
    refine Go.iload S3 at_202 rfl (pc' := 204) rfl ?_
    refine Go.iconst S3 (v := 0) at_204 rfl (pc' := 205) rfl ?_
    refine Go.iload S3 at_205 rfl (pc' := 207) rfl ?_
    refine Go.icmp_ge S3 at_207 (pt := 214) (by decide) (pc' := 210) rfl ?_ ?_
    · intro c207; exact absurd (by decide) c207
    · intro c207
      refine Go.iconst S3 (v := 1) at_210 rfl (pc' := 211) rfl ?_
      refine Go.goto S3 at_211 (pc' := 215) (by decide) ?_
      refine Go.icmp_ne S3 at_215 (pt := 222) (by decide) (pc' := 218) rfl ?_ ?_
      · intro c215; exact absurd (by decide) c215
      · intro c215
        refine Go.iconst S3 (v := 1) at_218 rfl (pc' := 219) rfl ?_
        refine Go.goto S3 at_219 (pc' := 223) (by decide) ?_
        refine Go.istore S3 at_223 (Ls' := #[g0, g1, g2, g3, g4, g5, g6, g7, g8, g9, g10, g11, g12, .val (.ref o), .val (.int (1 : Int32)), .val (.int (2 : Int32)), .val (.ref a1), .val (.int (1 : Int32)), .val (.int (1 : Int32)), .unset, .unset, .unset, .unset]) rfl (pc' := 225) rfl ?_
        refine Go.iconst S3 (v := 0) at_225 rfl (pc' := 226) rfl ?_
        refine Go.iload S3 at_226 rfl (pc' := 228) rfl ?_
        refine Go.icmp_ge S3 at_228 (pt := 237) (by decide) (pc' := 231) rfl ?_ ?_
        · intro c228; exact absurd (by decide) c228
        · intro c228
          refine Go.aload S3 at_231 rfl rfl (pc' := 233) rfl ?_
          refine Go.invokevirtualW S3 (y := ⟨"com/example/markmint/markmint/core/store/Fields", "next", "()Ljava/lang/String;"⟩) (rm_next hw a1 o t kb cl 0 fw cs S3.ext hl hcl hi0 hz1 X1 Fl Fn A n_o_a1 n_t_a1 Ff Fr Cs Cn hh1 hcw) N hn (fun vm hv => Elv.warm (sb := sb) El hv) (wd42 hw) (wd43 hw) (S3.nf (wd45 hw)) (wd45 hw) (wd44 hw) (wd28 hw) (wd46 hw) (by decide) X1 at_233 rfl pd20 (argsL := []) rfl rfl rfl (by decide) (W := 0) rfl (by decide) (by decide) (by decide) (allS (Or.inr hk1) all0) (pc' := 236) rfl ?_
          intro v4 sb4 T4 h4 L4 S4 N4 K4 q4
          obtain ⟨⟨r4, rfl⟩, El4, Fl4, nx4, Fn4, J4⟩ := q4
          replace A := A.keep K4 (ninS n_o_a1 nin0) (ninS n_t_a1 nin0)
          replace X1 := X1.keep K4
          replace hn : h4.size ≤ h4.size := Nat.le_refl _
          show Go _ _ _ _ T4 (mkF m 236 #[g0, g1, g2, g3, g4, g5, g6, g7, g8, g9, g10, g11, g12, .val (.ref o), .val (.int (1 : Int32)), .val (.int (2 : Int32)), .val (.ref a1), .val (.int (1 : Int32)), .val (.int (1 : Int32)), .unset, .unset, .unset, .unset] [(.ref r4)])
          obtain ⟨i4, rfl, hi4, hy4⟩ := J4.resolve_left (fun z => by have := z.2; omega)
          have hs4 : own_sp (cl.drop i4) + 1 = 1 := by omega
          refine Go.pop S4 at_236 rfl (pc' := 237) rfl ?_
          refine Go.aload S4 at_237 rfl rfl (pc' := 239) rfl ?_
          refine Go.invokevirtual S4 (y := ⟨"com/example/markmint/markmint/core/store/Fields", "hasNext", "()Z"⟩) (rm_hasNext hw a1 (Nat.toInt32 i4) S4.ext Fn4) (wd35 hw) (wd36 hw) (S4.nf (wd38 hw)) (wd38 hw) (wd37 hw) (wd28 hw) (wd39 hw) (by decide) X1 at_239 rfl pd6 (argsL := []) rfl rfl rfl (by decide) (W := 0) rfl (by decide) (by decide) (by decide) all0 (pc' := 242) rfl ?_
          intro v5 T5 h5 L5 S5 K5 q5
          rw [if_neg (own_nn (i := i4) (by omega))] at q5
          obtain ⟨rfl, rfl⟩ := q5
          show Go _ _ _ _ T5 (mkF m 242 #[g0, g1, g2, g3, g4, g5, g6, g7, g8, g9, g10, g11, g12, .val (.ref o), .val (.int (1 : Int32)), .val (.int (2 : Int32)), .val (.ref a1), .val (.int (1 : Int32)), .val (.int (1 : Int32)), .unset, .unset, .unset, .unset] [(.int (1 : Int32))])
          refine Go.istore S5 at_242 (Ls' := #[g0, g1, g2, g3, g4, g5, g6, g7, g8, g9, g10, g11, g12, .val (.ref o), .val (.int (1 : Int32)), .val (.int (2 : Int32)), .val (.ref a1), .val (.int (1 : Int32)), .val (.int (1 : Int32)), .val (.int (1 : Int32)), .unset, .unset, .unset]) rfl (pc' := 244) rfl ?_
          refine Go.iload S5 at_244 rfl (pc' := 246) rfl ?_
          refine Go.if_eq S5 at_246 (pt := 269) (by decide) (pc' := 249) rfl ?_ ?_
          · intro c246; exact absurd c246 (by decide)
          · intro c246
            refine Go.iload S5 at_249 rfl (pc' := 251) rfl ?_
            refine Go.iconst S5 (v := 1) at_251 rfl (pc' := 252) rfl ?_
            refine Go.iload S5 at_252 rfl (pc' := 254) rfl ?_
            refine Go.icmp_ge S5 at_254 (pt := 261) (by decide) (pc' := 257) rfl ?_ ?_
            · intro c254; exact absurd (by decide) c254
            · intro c254
              refine Go.iconst S5 (v := 1) at_257 rfl (pc' := 258) rfl ?_
              refine Go.goto S5 at_258 (pc' := 262) (by decide) ?_
              refine Go.icmp_ne S5 at_262 (pt := 269) (by decide) (pc' := 265) rfl ?_ ?_
              · intro c262; exact absurd (by decide) c262
              · intro c262
                refine Go.iconst S5 (v := 1) at_265 rfl (pc' := 266) rfl ?_
                refine Go.goto S5 at_266 (pc' := 270) (by decide) ?_
                refine Go.istore S5 at_270 (Ls' := #[g0, g1, g2, g3, g4, g5, g6, g7, g8, g9, g10, g11, g12, .val (.ref o), .val (.int (1 : Int32)), .val (.int (2 : Int32)), .val (.ref a1), .val (.int (1 : Int32)), .val (.int (1 : Int32)), .val (.int (1 : Int32)), .unset, .unset, .unset]) rfl (pc' := 272) rfl ?_
                refine Go.iconst S5 (v := 1) at_272 rfl (pc' := 273) rfl ?_
                refine Go.iload S5 at_273 rfl (pc' := 275) rfl ?_
                refine Go.icmp_ge S5 at_275 (pt := 284) (by decide) (pc' := 278) rfl ?_ ?_
                · intro c275; exact absurd (by decide) c275
                · intro c275
                  refine Go.aload S5 at_278 rfl rfl (pc' := 280) rfl ?_
                  refine Go.invokevirtualW S5 (y := ⟨"com/example/markmint/markmint/core/store/Fields", "next", "()Ljava/lang/String;"⟩) (rm_next hw a1 o t kb cl i4 fw cs S5.ext hl hcl hi4 hz1 X1 Fl4 Fn4 A n_o_a1 n_t_a1 Ff Fr Cs Cn hh1 hcw) N4 hn (fun vm hv => Elv.warm (sb := sb4) El4 hv) (wd42 hw) (wd43 hw) (S5.nf (wd45 hw)) (wd45 hw) (wd44 hw) (wd28 hw) (wd46 hw) (by decide) X1 at_280 rfl pd20 (argsL := []) rfl rfl rfl (by decide) (W := 0) rfl (by decide) (by decide) (by decide) (allS (Or.inr hk1) all0) (pc' := 283) rfl ?_
                  intro v6 sb6 T6 h6 L6 S6 N6 K6 q6
                  obtain ⟨⟨r6, rfl⟩, El6, Fl6, nx6, Fn6, J6⟩ := q6
                  replace A := A.keep K6 (ninS n_o_a1 nin0) (ninS n_t_a1 nin0)
                  replace X1 := X1.keep K6
                  replace hn : h6.size ≤ h6.size := Nat.le_refl _
                  show Go _ _ _ _ T6 (mkF m 283 #[g0, g1, g2, g3, g4, g5, g6, g7, g8, g9, g10, g11, g12, .val (.ref o), .val (.int (1 : Int32)), .val (.int (2 : Int32)), .val (.ref a1), .val (.int (1 : Int32)), .val (.int (1 : Int32)), .val (.int (1 : Int32)), .unset, .unset, .unset] [(.ref r6)])
                  obtain ⟨rfl, -⟩ := J6.resolve_right (fun ⟨_, _, _, z⟩ => by omega)
                  refine Go.pop S6 at_283 rfl (pc' := 284) rfl ?_
                  refine Go.aload S6 at_284 rfl rfl (pc' := 286) rfl ?_
                  refine Go.invokevirtual S6 (y := ⟨"com/example/markmint/markmint/core/store/Fields", "hasNext", "()Z"⟩) (rm_hasNext hw a1 (-1) S6.ext Fn6) (wd35 hw) (wd36 hw) (S6.nf (wd38 hw)) (wd38 hw) (wd37 hw) (wd28 hw) (wd39 hw) (by decide) X1 at_286 rfl pd6 (argsL := []) rfl rfl rfl (by decide) (W := 0) rfl (by decide) (by decide) (by decide) all0 (pc' := 289) rfl ?_
                  intro v7 T7 h7 L7 S7 K7 q7
                  rw [if_pos (by decide)] at q7
                  obtain ⟨rfl, rfl⟩ := q7
                  show Go _ _ _ _ T7 (mkF m 289 #[g0, g1, g2, g3, g4, g5, g6, g7, g8, g9, g10, g11, g12, .val (.ref o), .val (.int (1 : Int32)), .val (.int (2 : Int32)), .val (.ref a1), .val (.int (1 : Int32)), .val (.int (1 : Int32)), .val (.int (1 : Int32)), .unset, .unset, .unset] [(.int (0 : Int32))])
                  refine Go.istore S7 at_289 (Ls' := #[g0, g1, g2, g3, g4, g5, g6, g7, g8, g9, g10, g11, g12, .val (.ref o), .val (.int (1 : Int32)), .val (.int (2 : Int32)), .val (.ref a1), .val (.int (1 : Int32)), .val (.int (1 : Int32)), .val (.int (1 : Int32)), .val (.int (0 : Int32)), .unset, .unset]) rfl (pc' := 291) rfl ?_
                  refine Go.iload S7 at_291 rfl (pc' := 293) rfl ?_
                  refine Go.if_eq S7 at_293 (pt := 316) (by decide) (pc' := 296) rfl ?_ ?_
                  · intro c293; exact absurd c293 (by decide)
                  · intro c293
                    refine Go.iload S7 at_296 rfl (pc' := 298) rfl ?_
                    refine Go.iconst S7 (v := 2) at_298 rfl (pc' := 299) rfl ?_
                    refine Go.iload S7 at_299 rfl (pc' := 301) rfl ?_
                    refine Go.icmp_ge S7 at_301 (pt := 308) (by decide) (pc' := 304) rfl ?_ ?_
                    · intro c301
                      refine Go.iconst S7 (v := 0) at_308 rfl (pc' := 309) rfl ?_
                      refine Go.icmp_ne S7 at_309 (pt := 316) (by decide) (pc' := 312) rfl ?_ ?_
                      · intro c309; exact absurd (by decide) c309
                      · intro c309
                        refine Go.iconst S7 (v := 1) at_312 rfl (pc' := 313) rfl ?_
                        refine Go.goto S7 at_313 (pc' := 317) (by decide) ?_
                        refine Go.istore S7 at_317 (Ls' := #[g0, g1, g2, g3, g4, g5, g6, g7, g8, g9, g10, g11, g12, .val (.ref o), .val (.int (1 : Int32)), .val (.int (2 : Int32)), .val (.ref a1), .val (.int (1 : Int32)), .val (.int (1 : Int32)), .val (.int (1 : Int32)), .val (.int (0 : Int32)), .unset, .unset]) rfl (pc' := 319) rfl ?_
                        refine Go.iconst S7 (v := 2) at_319 rfl (pc' := 320) rfl ?_
                        refine Go.iload S7 at_320 rfl (pc' := 322) rfl ?_
                        refine Go.icmp_ge S7 at_322 (pt := 331) (by decide) (pc' := 325) rfl ?_ ?_
                        · intro c322
                          refine Go.aload S7 at_331 rfl rfl (pc' := 333) rfl ?_
                          refine Go.invokevirtual S7 (y := ⟨"com/example/markmint/markmint/core/store/Fields", "hasNext", "()Z"⟩) (rm_hasNext hw a1 (-1) S7.ext Fn6) (wd35 hw) (wd36 hw) (S7.nf (wd38 hw)) (wd38 hw) (wd37 hw) (wd28 hw) (wd39 hw) (by decide) X1 at_333 rfl pd6 (argsL := []) rfl rfl rfl (by decide) (W := 0) rfl (by decide) (by decide) (by decide) all0 (pc' := 336) rfl ?_
                          intro v8 T8 h8 L8 S8 K8 q8
                          rw [if_pos (by decide)] at q8
                          obtain ⟨rfl, rfl⟩ := q8
                          show Go _ _ _ _ T8 (mkF m 336 #[g0, g1, g2, g3, g4, g5, g6, g7, g8, g9, g10, g11, g12, .val (.ref o), .val (.int (1 : Int32)), .val (.int (2 : Int32)), .val (.ref a1), .val (.int (1 : Int32)), .val (.int (1 : Int32)), .val (.int (1 : Int32)), .val (.int (0 : Int32)), .unset, .unset] [(.int (0 : Int32))])
                          refine Go.istore S8 at_336 (Ls' := #[g0, g1, g2, g3, g4, g5, g6, g7, g8, g9, g10, g11, g12, .val (.ref o), .val (.int (1 : Int32)), .val (.int (2 : Int32)), .val (.ref a1), .val (.int (1 : Int32)), .val (.int (1 : Int32)), .val (.int (1 : Int32)), .val (.int (0 : Int32)), .val (.int (0 : Int32)), .unset]) rfl (pc' := 338) rfl ?_
                          refine Go.iload S8 at_338 rfl (pc' := 340) rfl ?_
                          refine Go.if_eq S8 at_340 (pt := 363) (by decide) (pc' := 343) rfl ?_ ?_
                          · intro c340; exact absurd c340 (by decide)
                          · intro c340
                            refine Go.iload S8 at_343 rfl (pc' := 345) rfl ?_
                            refine Go.iconst S8 (v := 3) at_345 rfl (pc' := 346) rfl ?_
                            refine Go.iload S8 at_346 rfl (pc' := 348) rfl ?_
                            refine Go.icmp_ge S8 at_348 (pt := 355) (by decide) (pc' := 351) rfl ?_ ?_
                            · intro c348
                              refine Go.iconst S8 (v := 0) at_355 rfl (pc' := 356) rfl ?_
                              refine Go.icmp_ne S8 at_356 (pt := 363) (by decide) (pc' := 359) rfl ?_ ?_
                              · intro c356; exact absurd (by decide) c356
                              · intro c356
                                refine Go.iconst S8 (v := 1) at_359 rfl (pc' := 360) rfl ?_
                                refine Go.goto S8 at_360 (pc' := 364) (by decide) ?_
                                refine Go.istore S8 at_364 (Ls' := #[g0, g1, g2, g3, g4, g5, g6, g7, g8, g9, g10, g11, g12, .val (.ref o), .val (.int (1 : Int32)), .val (.int (2 : Int32)), .val (.ref a1), .val (.int (1 : Int32)), .val (.int (1 : Int32)), .val (.int (1 : Int32)), .val (.int (0 : Int32)), .val (.int (0 : Int32)), .unset]) rfl (pc' := 366) rfl ?_
                                refine Go.iconst S8 (v := 3) at_366 rfl (pc' := 367) rfl ?_
                                refine Go.iload S8 at_367 rfl (pc' := 369) rfl ?_
                                refine Go.icmp_ge S8 at_369 (pt := 378) (by decide) (pc' := 372) rfl ?_ ?_
                                · intro c369
                                  refine Go.aload S8 at_378 rfl rfl (pc' := 380) rfl ?_
                                  refine Go.invokevirtual S8 (y := ⟨"com/example/markmint/markmint/core/store/Fields", "hasNext", "()Z"⟩) (rm_hasNext hw a1 (-1) S8.ext Fn6) (wd35 hw) (wd36 hw) (S8.nf (wd38 hw)) (wd38 hw) (wd37 hw) (wd28 hw) (wd39 hw) (by decide) X1 at_380 rfl pd6 (argsL := []) rfl rfl rfl (by decide) (W := 0) rfl (by decide) (by decide) (by decide) all0 (pc' := 383) rfl ?_
                                  intro v9 T9 h9 L9 S9 K9 q9
                                  rw [if_pos (by decide)] at q9
                                  obtain ⟨rfl, rfl⟩ := q9
                                  show Go _ _ _ _ T9 (mkF m 383 #[g0, g1, g2, g3, g4, g5, g6, g7, g8, g9, g10, g11, g12, .val (.ref o), .val (.int (1 : Int32)), .val (.int (2 : Int32)), .val (.ref a1), .val (.int (1 : Int32)), .val (.int (1 : Int32)), .val (.int (1 : Int32)), .val (.int (0 : Int32)), .val (.int (0 : Int32)), .unset] [(.int (0 : Int32))])
                                  refine Go.istore S9 at_383 (Ls' := #[g0, g1, g2, g3, g4, g5, g6, g7, g8, g9, g10, g11, g12, .val (.ref o), .val (.int (1 : Int32)), .val (.int (2 : Int32)), .val (.ref a1), .val (.int (1 : Int32)), .val (.int (1 : Int32)), .val (.int (1 : Int32)), .val (.int (0 : Int32)), .val (.int (0 : Int32)), .val (.int (0 : Int32))]) rfl (pc' := 385) rfl ?_
                                  refine Go.iload S9 at_385 rfl (pc' := 387) rfl ?_
                                  refine Go.if_eq S9 at_387 (pt := 410) (by decide) (pc' := 390) rfl ?_ ?_
                                  · intro c387; exact absurd c387 (by decide)
                                  · intro c387
                                    refine Go.iload S9 at_390 rfl (pc' := 392) rfl ?_
                                    refine Go.iconst S9 (v := 4) at_392 rfl (pc' := 393) rfl ?_
                                    refine Go.iload S9 at_393 rfl (pc' := 395) rfl ?_
                                    refine Go.icmp_ge S9 at_395 (pt := 402) (by decide) (pc' := 398) rfl ?_ ?_
                                    · intro c395
                                      refine Go.iconst S9 (v := 0) at_402 rfl (pc' := 403) rfl ?_
                                      refine Go.icmp_ne S9 at_403 (pt := 410) (by decide) (pc' := 406) rfl ?_ ?_
                                      · intro c403; exact absurd (by decide) c403
                                      · intro c403
                                        refine Go.iconst S9 (v := 1) at_406 rfl (pc' := 407) rfl ?_
                                        refine Go.goto S9 at_407 (pc' := 411) (by decide) ?_
                                        refine Go.istore S9 at_411 (Ls' := #[g0, g1, g2, g3, g4, g5, g6, g7, g8, g9, g10, g11, g12, .val (.ref o), .val (.int (1 : Int32)), .val (.int (2 : Int32)), .val (.ref a1), .val (.int (1 : Int32)), .val (.int (1 : Int32)), .val (.int (1 : Int32)), .val (.int (0 : Int32)), .val (.int (0 : Int32)), .val (.int (0 : Int32))]) rfl (pc' := 413) rfl ?_
                                        refine Go.iload S9 at_413 rfl (pc' := 415) rfl ?_
                                        exact Go.zreturnW S9 N6 hn rfl (by decide) at_415 (z' := (1 : Int32)) rfl (by decide) (by decide) (rfl)
                                    · intro c395; exact absurd c395 (by decide)
                                · intro c369; exact absurd c369 (by decide)
                            · intro c348; exact absurd c348 (by decide)
                        · intro c322; exact absurd c322 (by decide)
                    · intro c301; exact absurd c301 (by decide)
set_option maxRecDepth 65536 in
set_option maxHeartbeats 4000000 in
theorem own_tail2 {p : Program} {l : Launch} {e : Env} {s sb : State} {m : MethodId} {args : Array Value} {below : List Frame} {meth : Method} {co : Code} {Z : State} {a0 : Array Value} (hw : HW Z a0) (g0 g1 g2 g3 g4 g5 g6 g7 g8 g9 g10 g11 g12 : Slot) (o t : Addr) (kb : ClassId) (cl : List Int32) (fw : Value) (cs : Int32) {h0 h : Heap} {T : State} {locs : List Loc} {n : Nat} (S : St p l e room_1 sb m args below meth co Z x.cls code maxLocals ret x.name h0 [] T h locs 8 20) (N : Sn s sb n) (hn : n ≤ h.size) (hl : cl.length ≤ 3) (hcl : ∀ z ∈ cl, ¬ z < 0 ∧ ¬ 255 < z) (A : StrAt Z h o t kb (cl.map own_b)) (El : Elv Z sb.vm h (cl.map own_b)) (Ff : Sta Z Z.heap "jdk/internal/util/Preconditions" "SIOOBE_FORMATTER" "Ljava/util/function/BiFunction;" fw) (Fr : fw.isRef = true) (Cs : Sta Z Z.heap "java/lang/String" "COMPACT_STRINGS" "Z" (.int cs)) (Cn : ¬ cs = 0) (hh1 : Jvm.Lit.constHeld Z "java/lang/StringLatin1" 151) (hcw : Jvm.Lit.compactW.before a0 Z = true) (hsp : own_sp cl = 2) :
    Go p e below (PostW Z s h0 [] room_1.cells room_1.slots (fun v h vm => v = some (.int 1))) T (mkF m 170 #[g0, g1, g2, g3, g4, g5, g6, g7, g8, g9, g10, g11, g12, .val (.ref o), .val (.int (2 : Int32)), .unset, .unset, .unset, .unset, .unset, .unset, .unset, .unset] []) := by
  refine Go.iload S at_170 rfl (pc' := 172) rfl ?_
  refine Go.iconst S (v := 1) at_172 rfl (pc' := 173) rfl ?_
  refine Go.iadd S at_173 (pc' := 174) rfl ?_
  show Go _ _ _ _ T (mkF m 174 #[g0, g1, g2, g3, g4, g5, g6, g7, g8, g9, g10, g11, g12, .val (.ref o), .val (.int (2 : Int32)), .unset, .unset, .unset, .unset, .unset, .unset, .unset, .unset] [(.int (3 : Int32))])
  refine Go.istore S at_174 (Ls' := #[g0, g1, g2, g3, g4, g5, g6, g7, g8, g9, g10, g11, g12, .val (.ref o), .val (.int (2 : Int32)), .val (.int (3 : Int32)), .unset, .unset, .unset, .unset, .unset, .unset, .unset]) rfl (pc' := 176) rfl ?_
  refine Go.new S (wd26 hw) (wd27 hw) (wd28 hw) at_176 (by decide) (by decide) (pc' := 179) rfl ?_
  intro T1 h1 a1 S1 E1 hg1 hz1 hk1 X1 D1
  have n_o_a1 : o ≠ a1 := Nat.ne_of_lt (Nat.lt_of_lt_of_le A.lt (Nat.le_of_eq hg1))
  have n_t_a1 : t ≠ a1 := Nat.ne_of_lt (Nat.lt_of_lt_of_le A.lt2 (Nat.le_of_eq hg1))
  replace hn := Nat.le_trans hn E1.1
  replace A := A.ext E1
  replace El := El.ext E1
  have F1_line : Fld Z h1 a1 "com/example/markmint/markmint/core/store/Fields" "line" "Ljava/lang/CharSequence;" .null := D1 (Or.inr (wd34 hw)) (ty := (.object "java/lang/CharSequence")) (by decide)
  have F1_next : Fld Z h1 a1 "com/example/markmint/markmint/core/store/Fields" "next" "I" (.int (0 : Int32)) := D1 (Or.inl (wd41 hw)) (ty := .int) (by decide)
  refine Go.dup S1 at_179 rfl (pc' := 180) rfl ?_
  refine Go.aload S1 at_180 rfl rfl (pc' := 182) rfl ?_
  refine Go.invokespecial S1 (y := ⟨"com/example/markmint/markmint/core/store/Fields", "<init>", "(Ljava/lang/CharSequence;)V"⟩) (rm_finit hw a1 o S1.ext hz1 X1 F1_line F1_next) rfl rfl (wd29 hw) (wd30 hw) (wd28 hw) (wd31 hw) (by decide) at_182 rfl pd21 (argsL := [(.ref o)]) rfl rfl rfl (by decide) (W := 1) rfl (by decide) (by decide) (by decide) (allS (Or.inr hk1) all0) (pc' := 185) rfl ?_
  intro v2 T2 h2 L2 S2 K2 q2
  obtain ⟨rfl, Fl, Fn⟩ := q2
  replace hn := Nat.le_trans hn K2.1
  replace A := A.keep K2 (ninS n_o_a1 nin0) (ninS n_t_a1 nin0)
  replace El := El.keep K2
  replace X1 := X1.keep K2
  show Go _ _ _ _ T2 (mkF m 185 #[g0, g1, g2, g3, g4, g5, g6, g7, g8, g9, g10, g11, g12, .val (.ref o), .val (.int (2 : Int32)), .val (.int (3 : Int32)), .unset, .unset, .unset, .unset, .unset, .unset, .unset] [(.ref a1)])
  have hi0 : 0 ≤ cl.length := Nat.zero_le _
  have hs0 : own_sp (cl.drop 0) + 0 = 2 := hsp
  refine Go.astore S2 at_185 rfl (Ls' := #[g0, g1, g2, g3, g4, g5, g6, g7, g8, g9, g10, g11, g12, .val (.ref o), .val (.int (2 : Int32)), .val (.int (3 : Int32)), .val (.ref a1), .unset, .unset, .unset, .unset, .unset, .unset]) rfl (pc' := 187) rfl ?_
  refine Go.iconst S2 (v := 1) at_187 rfl (pc' := 188) rfl ?_
  refine Go.istore S2 at_188 (Ls' := #[g0, g1, g2, g3, g4, g5, g6, g7, g8, g9, g10, g11, g12, .val (.ref o), .val (.int (2 : Int32)), .val (.int (3 : Int32)), .val (.ref a1), .val (.int (1 : Int32)), .unset, .unset, .unset, .unset, .unset]) rfl (pc' := 190) rfl ?_
  refine Go.aload S2 at_190 rfl rfl (pc' := 192) rfl ?_
  refine Go.invokevirtual S2 (y := ⟨"com/example/markmint/markmint/core/store/Fields", "hasNext", "()Z"⟩) (rm_hasNext hw a1 (Nat.toInt32 0) S2.ext Fn) (wd35 hw) (wd36 hw) (S2.nf (wd38 hw)) (wd38 hw) (wd37 hw) (wd28 hw) (wd39 hw) (by decide) X1 at_192 rfl pd6 (argsL := []) rfl rfl rfl (by decide) (W := 0) rfl (by decide) (by decide) (by decide) all0 (pc' := 195) rfl ?_
  intro v3 T3 h3 L3 S3 K3 q3
  rw [if_neg (own_nn (i := 0) (by omega))] at q3
  obtain ⟨rfl, rfl⟩ := q3
  show Go _ _ _ _ T3 (mkF m 195 #[g0, g1, g2, g3, g4, g5, g6, g7, g8, g9, g10, g11, g12, .val (.ref o), .val (.int (2 : Int32)), .val (.int (3 : Int32)), .val (.ref a1), .val (.int (1 : Int32)), .unset, .unset, .unset, .unset, .unset] [(.int (1 : Int32))])
  refine Go.istore S3 at_195 (Ls' := #[g0, g1, g2, g3, g4, g5, g6, g7, g8, g9, g10, g11, g12, .val (.ref o), .val (.int (2 : Int32)), .val (.int (3 : Int32)), .val (.ref a1), .val (.int (1 : Int32)), .val (.int (1 : Int32)), .unset, .unset, .unset, .unset]) rfl (pc' := 197) rfl ?_
  refine Go.iload S3 at_197 rfl (pc' := 199) rfl ?_
  refine Go.if_eq S3 at_199 (pt := 222) (by decide) (pc' := 202) rfl ?_ ?_
  · intro c199; exact absurd c199 (by decide)
  · intro c199
    refine Go.iload S3 at_202 rfl (pc' := 204) rfl ?_
    refine Go.iconst S3 (v := 0) at_204 rfl (pc' := 205) rfl ?_
    refine Go.iload S3 at_205 rfl (pc' := 207) rfl ?_
    refine Go.icmp_ge S3 at_207 (pt := 214) (by decide) (pc' := 210) rfl ?_ ?_
    · intro c207; exact absurd (by decide) c207
    · intro c207
      refine Go.iconst S3 (v := 1) at_210 rfl (pc' := 211) rfl ?_
      refine Go.goto S3 at_211 (pc' := 215) (by decide) ?_
      refine Go.icmp_ne S3 at_215 (pt := 222) (by decide) (pc' := 218) rfl ?_ ?_
      · intro c215; exact absurd (by decide) c215
      · intro c215
        refine Go.iconst S3 (v := 1) at_218 rfl (pc' := 219) rfl ?_
        refine Go.goto S3 at_219 (pc' := 223) (by decide) ?_
        refine Go.istore S3 at_223 (Ls' := #[g0, g1, g2, g3, g4, g5, g6, g7, g8, g9, g10, g11, g12, .val (.ref o), .val (.int (2 : Int32)), .val (.int (3 : Int32)), .val (.ref a1), .val (.int (1 : Int32)), .val (.int (1 : Int32)), .unset, .unset, .unset, .unset]) rfl (pc' := 225) rfl ?_
        refine Go.iconst S3 (v := 0) at_225 rfl (pc' := 226) rfl ?_
        refine Go.iload S3 at_226 rfl (pc' := 228) rfl ?_
        refine Go.icmp_ge S3 at_228 (pt := 237) (by decide) (pc' := 231) rfl ?_ ?_
        · intro c228; exact absurd (by decide) c228
        · intro c228
          refine Go.aload S3 at_231 rfl rfl (pc' := 233) rfl ?_
          refine Go.invokevirtualW S3 (y := ⟨"com/example/markmint/markmint/core/store/Fields", "next", "()Ljava/lang/String;"⟩) (rm_next hw a1 o t kb cl 0 fw cs S3.ext hl hcl hi0 hz1 X1 Fl Fn A n_o_a1 n_t_a1 Ff Fr Cs Cn hh1 hcw) N hn (fun vm hv => Elv.warm (sb := sb) El hv) (wd42 hw) (wd43 hw) (S3.nf (wd45 hw)) (wd45 hw) (wd44 hw) (wd28 hw) (wd46 hw) (by decide) X1 at_233 rfl pd20 (argsL := []) rfl rfl rfl (by decide) (W := 0) rfl (by decide) (by decide) (by decide) (allS (Or.inr hk1) all0) (pc' := 236) rfl ?_
          intro v4 sb4 T4 h4 L4 S4 N4 K4 q4
          obtain ⟨⟨r4, rfl⟩, El4, Fl4, nx4, Fn4, J4⟩ := q4
          replace A := A.keep K4 (ninS n_o_a1 nin0) (ninS n_t_a1 nin0)
          replace X1 := X1.keep K4
          replace hn : h4.size ≤ h4.size := Nat.le_refl _
          show Go _ _ _ _ T4 (mkF m 236 #[g0, g1, g2, g3, g4, g5, g6, g7, g8, g9, g10, g11, g12, .val (.ref o), .val (.int (2 : Int32)), .val (.int (3 : Int32)), .val (.ref a1), .val (.int (1 : Int32)), .val (.int (1 : Int32)), .unset, .unset, .unset, .unset] [(.ref r4)])
          obtain ⟨i4, rfl, hi4, hy4⟩ := J4.resolve_left (fun z => by have := z.2; omega)
          have hs4 : own_sp (cl.drop i4) + 1 = 2 := by omega
          refine Go.pop S4 at_236 rfl (pc' := 237) rfl ?_
          refine Go.aload S4 at_237 rfl rfl (pc' := 239) rfl ?_
          refine Go.invokevirtual S4 (y := ⟨"com/example/markmint/markmint/core/store/Fields", "hasNext", "()Z"⟩) (rm_hasNext hw a1 (Nat.toInt32 i4) S4.ext Fn4) (wd35 hw) (wd36 hw) (S4.nf (wd38 hw)) (wd38 hw) (wd37 hw) (wd28 hw) (wd39 hw) (by decide) X1 at_239 rfl pd6 (argsL := []) rfl rfl rfl (by decide) (W := 0) rfl (by decide) (by decide) (by decide) all0 (pc' := 242) rfl ?_
          intro v5 T5 h5 L5 S5 K5 q5
          rw [if_neg (own_nn (i := i4) (by omega))] at q5
          obtain ⟨rfl, rfl⟩ := q5
          show Go _ _ _ _ T5 (mkF m 242 #[g0, g1, g2, g3, g4, g5, g6, g7, g8, g9, g10, g11, g12, .val (.ref o), .val (.int (2 : Int32)), .val (.int (3 : Int32)), .val (.ref a1), .val (.int (1 : Int32)), .val (.int (1 : Int32)), .unset, .unset, .unset, .unset] [(.int (1 : Int32))])
          refine Go.istore S5 at_242 (Ls' := #[g0, g1, g2, g3, g4, g5, g6, g7, g8, g9, g10, g11, g12, .val (.ref o), .val (.int (2 : Int32)), .val (.int (3 : Int32)), .val (.ref a1), .val (.int (1 : Int32)), .val (.int (1 : Int32)), .val (.int (1 : Int32)), .unset, .unset, .unset]) rfl (pc' := 244) rfl ?_
          refine Go.iload S5 at_244 rfl (pc' := 246) rfl ?_
          refine Go.if_eq S5 at_246 (pt := 269) (by decide) (pc' := 249) rfl ?_ ?_
          · intro c246; exact absurd c246 (by decide)
          · intro c246
            refine Go.iload S5 at_249 rfl (pc' := 251) rfl ?_
            refine Go.iconst S5 (v := 1) at_251 rfl (pc' := 252) rfl ?_
            refine Go.iload S5 at_252 rfl (pc' := 254) rfl ?_
            refine Go.icmp_ge S5 at_254 (pt := 261) (by decide) (pc' := 257) rfl ?_ ?_
            · intro c254; exact absurd (by decide) c254
            · intro c254
              refine Go.iconst S5 (v := 1) at_257 rfl (pc' := 258) rfl ?_
              refine Go.goto S5 at_258 (pc' := 262) (by decide) ?_
              refine Go.icmp_ne S5 at_262 (pt := 269) (by decide) (pc' := 265) rfl ?_ ?_
              · intro c262; exact absurd (by decide) c262
              · intro c262
                refine Go.iconst S5 (v := 1) at_265 rfl (pc' := 266) rfl ?_
                refine Go.goto S5 at_266 (pc' := 270) (by decide) ?_
                refine Go.istore S5 at_270 (Ls' := #[g0, g1, g2, g3, g4, g5, g6, g7, g8, g9, g10, g11, g12, .val (.ref o), .val (.int (2 : Int32)), .val (.int (3 : Int32)), .val (.ref a1), .val (.int (1 : Int32)), .val (.int (1 : Int32)), .val (.int (1 : Int32)), .unset, .unset, .unset]) rfl (pc' := 272) rfl ?_
                refine Go.iconst S5 (v := 1) at_272 rfl (pc' := 273) rfl ?_
                refine Go.iload S5 at_273 rfl (pc' := 275) rfl ?_
                refine Go.icmp_ge S5 at_275 (pt := 284) (by decide) (pc' := 278) rfl ?_ ?_
                · intro c275; exact absurd (by decide) c275
                · intro c275
                  refine Go.aload S5 at_278 rfl rfl (pc' := 280) rfl ?_
                  refine Go.invokevirtualW S5 (y := ⟨"com/example/markmint/markmint/core/store/Fields", "next", "()Ljava/lang/String;"⟩) (rm_next hw a1 o t kb cl i4 fw cs S5.ext hl hcl hi4 hz1 X1 Fl4 Fn4 A n_o_a1 n_t_a1 Ff Fr Cs Cn hh1 hcw) N4 hn (fun vm hv => Elv.warm (sb := sb4) El4 hv) (wd42 hw) (wd43 hw) (S5.nf (wd45 hw)) (wd45 hw) (wd44 hw) (wd28 hw) (wd46 hw) (by decide) X1 at_280 rfl pd20 (argsL := []) rfl rfl rfl (by decide) (W := 0) rfl (by decide) (by decide) (by decide) (allS (Or.inr hk1) all0) (pc' := 283) rfl ?_
                  intro v6 sb6 T6 h6 L6 S6 N6 K6 q6
                  obtain ⟨⟨r6, rfl⟩, El6, Fl6, nx6, Fn6, J6⟩ := q6
                  replace A := A.keep K6 (ninS n_o_a1 nin0) (ninS n_t_a1 nin0)
                  replace X1 := X1.keep K6
                  replace hn : h6.size ≤ h6.size := Nat.le_refl _
                  show Go _ _ _ _ T6 (mkF m 283 #[g0, g1, g2, g3, g4, g5, g6, g7, g8, g9, g10, g11, g12, .val (.ref o), .val (.int (2 : Int32)), .val (.int (3 : Int32)), .val (.ref a1), .val (.int (1 : Int32)), .val (.int (1 : Int32)), .val (.int (1 : Int32)), .unset, .unset, .unset] [(.ref r6)])
                  obtain ⟨i6, rfl, hi6, hy6⟩ := J6.resolve_left (fun z => by have := z.2; omega)
                  have hs6 : own_sp (cl.drop i6) + 2 = 2 := by omega
                  refine Go.pop S6 at_283 rfl (pc' := 284) rfl ?_
                  refine Go.aload S6 at_284 rfl rfl (pc' := 286) rfl ?_
                  refine Go.invokevirtual S6 (y := ⟨"com/example/markmint/markmint/core/store/Fields", "hasNext", "()Z"⟩) (rm_hasNext hw a1 (Nat.toInt32 i6) S6.ext Fn6) (wd35 hw) (wd36 hw) (S6.nf (wd38 hw)) (wd38 hw) (wd37 hw) (wd28 hw) (wd39 hw) (by decide) X1 at_286 rfl pd6 (argsL := []) rfl rfl rfl (by decide) (W := 0) rfl (by decide) (by decide) (by decide) all0 (pc' := 289) rfl ?_
                  intro v7 T7 h7 L7 S7 K7 q7
                  rw [if_neg (own_nn (i := i6) (by omega))] at q7
                  obtain ⟨rfl, rfl⟩ := q7
                  show Go _ _ _ _ T7 (mkF m 289 #[g0, g1, g2, g3, g4, g5, g6, g7, g8, g9, g10, g11, g12, .val (.ref o), .val (.int (2 : Int32)), .val (.int (3 : Int32)), .val (.ref a1), .val (.int (1 : Int32)), .val (.int (1 : Int32)), .val (.int (1 : Int32)), .unset, .unset, .unset] [(.int (1 : Int32))])
                  refine Go.istore S7 at_289 (Ls' := #[g0, g1, g2, g3, g4, g5, g6, g7, g8, g9, g10, g11, g12, .val (.ref o), .val (.int (2 : Int32)), .val (.int (3 : Int32)), .val (.ref a1), .val (.int (1 : Int32)), .val (.int (1 : Int32)), .val (.int (1 : Int32)), .val (.int (1 : Int32)), .unset, .unset]) rfl (pc' := 291) rfl ?_
                  refine Go.iload S7 at_291 rfl (pc' := 293) rfl ?_
                  refine Go.if_eq S7 at_293 (pt := 316) (by decide) (pc' := 296) rfl ?_ ?_
                  · intro c293; exact absurd c293 (by decide)
                  · intro c293
                    refine Go.iload S7 at_296 rfl (pc' := 298) rfl ?_
                    refine Go.iconst S7 (v := 2) at_298 rfl (pc' := 299) rfl ?_
                    refine Go.iload S7 at_299 rfl (pc' := 301) rfl ?_
                    refine Go.icmp_ge S7 at_301 (pt := 308) (by decide) (pc' := 304) rfl ?_ ?_
                    · intro c301; exact absurd (by decide) c301
                    · intro c301
                      refine Go.iconst S7 (v := 1) at_304 rfl (pc' := 305) rfl ?_
                      refine Go.goto S7 at_305 (pc' := 309) (by decide) ?_
                      refine Go.icmp_ne S7 at_309 (pt := 316) (by decide) (pc' := 312) rfl ?_ ?_
                      · intro c309; exact absurd (by decide) c309
                      · intro c309
                        refine Go.iconst S7 (v := 1) at_312 rfl (pc' := 313) rfl ?_
                        refine Go.goto S7 at_313 (pc' := 317) (by decide) ?_
                        refine Go.istore S7 at_317 (Ls' := #[g0, g1, g2, g3, g4, g5, g6, g7, g8, g9, g10, g11, g12, .val (.ref o), .val (.int (2 : Int32)), .val (.int (3 : Int32)), .val (.ref a1), .val (.int (1 : Int32)), .val (.int (1 : Int32)), .val (.int (1 : Int32)), .val (.int (1 : Int32)), .unset, .unset]) rfl (pc' := 319) rfl ?_
                        refine Go.iconst S7 (v := 2) at_319 rfl (pc' := 320) rfl ?_
                        refine Go.iload S7 at_320 rfl (pc' := 322) rfl ?_
                        refine Go.icmp_ge S7 at_322 (pt := 331) (by decide) (pc' := 325) rfl ?_ ?_
                        · intro c322; exact absurd (by decide) c322
                        · intro c322
                          refine Go.aload S7 at_325 rfl rfl (pc' := 327) rfl ?_
                          refine Go.invokevirtualW S7 (y := ⟨"com/example/markmint/markmint/core/store/Fields", "next", "()Ljava/lang/String;"⟩) (rm_next hw a1 o t kb cl i6 fw cs S7.ext hl hcl hi6 hz1 X1 Fl6 Fn6 A n_o_a1 n_t_a1 Ff Fr Cs Cn hh1 hcw) N6 hn (fun vm hv => Elv.warm (sb := sb6) El6 hv) (wd42 hw) (wd43 hw) (S7.nf (wd45 hw)) (wd45 hw) (wd44 hw) (wd28 hw) (wd46 hw) (by decide) X1 at_327 rfl pd20 (argsL := []) rfl rfl rfl (by decide) (W := 0) rfl (by decide) (by decide) (by decide) (allS (Or.inr hk1) all0) (pc' := 330) rfl ?_
                          intro v8 sb8 T8 h8 L8 S8 N8 K8 q8
                          obtain ⟨⟨r8, rfl⟩, El8, Fl8, nx8, Fn8, J8⟩ := q8
                          replace A := A.keep K8 (ninS n_o_a1 nin0) (ninS n_t_a1 nin0)
                          replace X1 := X1.keep K8
                          replace hn : h8.size ≤ h8.size := Nat.le_refl _
                          show Go _ _ _ _ T8 (mkF m 330 #[g0, g1, g2, g3, g4, g5, g6, g7, g8, g9, g10, g11, g12, .val (.ref o), .val (.int (2 : Int32)), .val (.int (3 : Int32)), .val (.ref a1), .val (.int (1 : Int32)), .val (.int (1 : Int32)), .val (.int (1 : Int32)), .val (.int (1 : Int32)), .unset, .unset] [(.ref r8)])
                          obtain ⟨rfl, -⟩ := J8.resolve_right (fun ⟨_, _, _, z⟩ => by omega)
                          refine Go.pop S8 at_330 rfl (pc' := 331) rfl ?_
                          refine Go.aload S8 at_331 rfl rfl (pc' := 333) rfl ?_
                          refine Go.invokevirtual S8 (y := ⟨"com/example/markmint/markmint/core/store/Fields", "hasNext", "()Z"⟩) (rm_hasNext hw a1 (-1) S8.ext Fn8) (wd35 hw) (wd36 hw) (S8.nf (wd38 hw)) (wd38 hw) (wd37 hw) (wd28 hw) (wd39 hw) (by decide) X1 at_333 rfl pd6 (argsL := []) rfl rfl rfl (by decide) (W := 0) rfl (by decide) (by decide) (by decide) all0 (pc' := 336) rfl ?_
                          intro v9 T9 h9 L9 S9 K9 q9
                          rw [if_pos (by decide)] at q9
                          obtain ⟨rfl, rfl⟩ := q9
                          show Go _ _ _ _ T9 (mkF m 336 #[g0, g1, g2, g3, g4, g5, g6, g7, g8, g9, g10, g11, g12, .val (.ref o), .val (.int (2 : Int32)), .val (.int (3 : Int32)), .val (.ref a1), .val (.int (1 : Int32)), .val (.int (1 : Int32)), .val (.int (1 : Int32)), .val (.int (1 : Int32)), .unset, .unset] [(.int (0 : Int32))])
                          refine Go.istore S9 at_336 (Ls' := #[g0, g1, g2, g3, g4, g5, g6, g7, g8, g9, g10, g11, g12, .val (.ref o), .val (.int (2 : Int32)), .val (.int (3 : Int32)), .val (.ref a1), .val (.int (1 : Int32)), .val (.int (1 : Int32)), .val (.int (1 : Int32)), .val (.int (1 : Int32)), .val (.int (0 : Int32)), .unset]) rfl (pc' := 338) rfl ?_
                          refine Go.iload S9 at_338 rfl (pc' := 340) rfl ?_
                          refine Go.if_eq S9 at_340 (pt := 363) (by decide) (pc' := 343) rfl ?_ ?_
                          · intro c340; exact absurd c340 (by decide)
                          · intro c340
                            refine Go.iload S9 at_343 rfl (pc' := 345) rfl ?_
                            refine Go.iconst S9 (v := 3) at_345 rfl (pc' := 346) rfl ?_
                            refine Go.iload S9 at_346 rfl (pc' := 348) rfl ?_
                            refine Go.icmp_ge S9 at_348 (pt := 355) (by decide) (pc' := 351) rfl ?_ ?_
                            · intro c348
                              refine Go.iconst S9 (v := 0) at_355 rfl (pc' := 356) rfl ?_
                              refine Go.icmp_ne S9 at_356 (pt := 363) (by decide) (pc' := 359) rfl ?_ ?_
                              · intro c356; exact absurd (by decide) c356
                              · intro c356
                                refine Go.iconst S9 (v := 1) at_359 rfl (pc' := 360) rfl ?_
                                refine Go.goto S9 at_360 (pc' := 364) (by decide) ?_
                                refine Go.istore S9 at_364 (Ls' := #[g0, g1, g2, g3, g4, g5, g6, g7, g8, g9, g10, g11, g12, .val (.ref o), .val (.int (2 : Int32)), .val (.int (3 : Int32)), .val (.ref a1), .val (.int (1 : Int32)), .val (.int (1 : Int32)), .val (.int (1 : Int32)), .val (.int (1 : Int32)), .val (.int (0 : Int32)), .unset]) rfl (pc' := 366) rfl ?_
                                refine Go.iconst S9 (v := 3) at_366 rfl (pc' := 367) rfl ?_
                                refine Go.iload S9 at_367 rfl (pc' := 369) rfl ?_
                                refine Go.icmp_ge S9 at_369 (pt := 378) (by decide) (pc' := 372) rfl ?_ ?_
                                · intro c369
                                  refine Go.aload S9 at_378 rfl rfl (pc' := 380) rfl ?_
                                  refine Go.invokevirtual S9 (y := ⟨"com/example/markmint/markmint/core/store/Fields", "hasNext", "()Z"⟩) (rm_hasNext hw a1 (-1) S9.ext Fn8) (wd35 hw) (wd36 hw) (S9.nf (wd38 hw)) (wd38 hw) (wd37 hw) (wd28 hw) (wd39 hw) (by decide) X1 at_380 rfl pd6 (argsL := []) rfl rfl rfl (by decide) (W := 0) rfl (by decide) (by decide) (by decide) all0 (pc' := 383) rfl ?_
                                  intro v10 T10 h10 L10 S10 K10 q10
                                  rw [if_pos (by decide)] at q10
                                  obtain ⟨rfl, rfl⟩ := q10
                                  show Go _ _ _ _ T10 (mkF m 383 #[g0, g1, g2, g3, g4, g5, g6, g7, g8, g9, g10, g11, g12, .val (.ref o), .val (.int (2 : Int32)), .val (.int (3 : Int32)), .val (.ref a1), .val (.int (1 : Int32)), .val (.int (1 : Int32)), .val (.int (1 : Int32)), .val (.int (1 : Int32)), .val (.int (0 : Int32)), .unset] [(.int (0 : Int32))])
                                  refine Go.istore S10 at_383 (Ls' := #[g0, g1, g2, g3, g4, g5, g6, g7, g8, g9, g10, g11, g12, .val (.ref o), .val (.int (2 : Int32)), .val (.int (3 : Int32)), .val (.ref a1), .val (.int (1 : Int32)), .val (.int (1 : Int32)), .val (.int (1 : Int32)), .val (.int (1 : Int32)), .val (.int (0 : Int32)), .val (.int (0 : Int32))]) rfl (pc' := 385) rfl ?_
                                  refine Go.iload S10 at_385 rfl (pc' := 387) rfl ?_
                                  refine Go.if_eq S10 at_387 (pt := 410) (by decide) (pc' := 390) rfl ?_ ?_
                                  · intro c387; exact absurd c387 (by decide)
                                  · intro c387
                                    refine Go.iload S10 at_390 rfl (pc' := 392) rfl ?_
                                    refine Go.iconst S10 (v := 4) at_392 rfl (pc' := 393) rfl ?_
                                    refine Go.iload S10 at_393 rfl (pc' := 395) rfl ?_
                                    refine Go.icmp_ge S10 at_395 (pt := 402) (by decide) (pc' := 398) rfl ?_ ?_
                                    · intro c395
                                      refine Go.iconst S10 (v := 0) at_402 rfl (pc' := 403) rfl ?_
                                      refine Go.icmp_ne S10 at_403 (pt := 410) (by decide) (pc' := 406) rfl ?_ ?_
                                      · intro c403; exact absurd (by decide) c403
                                      · intro c403
                                        refine Go.iconst S10 (v := 1) at_406 rfl (pc' := 407) rfl ?_
                                        refine Go.goto S10 at_407 (pc' := 411) (by decide) ?_
                                        refine Go.istore S10 at_411 (Ls' := #[g0, g1, g2, g3, g4, g5, g6, g7, g8, g9, g10, g11, g12, .val (.ref o), .val (.int (2 : Int32)), .val (.int (3 : Int32)), .val (.ref a1), .val (.int (1 : Int32)), .val (.int (1 : Int32)), .val (.int (1 : Int32)), .val (.int (1 : Int32)), .val (.int (0 : Int32)), .val (.int (0 : Int32))]) rfl (pc' := 413) rfl ?_
                                        refine Go.iload S10 at_413 rfl (pc' := 415) rfl ?_
                                        exact Go.zreturnW S10 N8 hn rfl (by decide) at_415 (z' := (1 : Int32)) rfl (by decide) (by decide) (rfl)
                                    · intro c395; exact absurd c395 (by decide)
                                · intro c369; exact absurd c369 (by decide)
                            · intro c348; exact absurd c348 (by decide)
set_option maxRecDepth 65536 in
set_option maxHeartbeats 4000000 in
theorem own_tail3 {p : Program} {l : Launch} {e : Env} {s sb : State} {m : MethodId} {args : Array Value} {below : List Frame} {meth : Method} {co : Code} {Z : State} {a0 : Array Value} (hw : HW Z a0) (g0 g1 g2 g3 g4 g5 g6 g7 g8 g9 g10 g11 g12 : Slot) (o t : Addr) (kb : ClassId) (cl : List Int32) (fw : Value) (cs : Int32) {h0 h : Heap} {T : State} {locs : List Loc} {n : Nat} (S : St p l e room_1 sb m args below meth co Z x.cls code maxLocals ret x.name h0 [] T h locs 8 20) (N : Sn s sb n) (hn : n ≤ h.size) (hl : cl.length ≤ 3) (hcl : ∀ z ∈ cl, ¬ z < 0 ∧ ¬ 255 < z) (A : StrAt Z h o t kb (cl.map own_b)) (El : Elv Z sb.vm h (cl.map own_b)) (Ff : Sta Z Z.heap "jdk/internal/util/Preconditions" "SIOOBE_FORMATTER" "Ljava/util/function/BiFunction;" fw) (Fr : fw.isRef = true) (Cs : Sta Z Z.heap "java/lang/String" "COMPACT_STRINGS" "Z" (.int cs)) (Cn : ¬ cs = 0) (hh1 : Jvm.Lit.constHeld Z "java/lang/StringLatin1" 151) (hcw : Jvm.Lit.compactW.before a0 Z = true) (hsp : own_sp cl = 3) :
    Go p e below (PostW Z s h0 [] room_1.cells room_1.slots (fun v h vm => v = some (.int 1))) T (mkF m 170 #[g0, g1, g2, g3, g4, g5, g6, g7, g8, g9, g10, g11, g12, .val (.ref o), .val (.int (3 : Int32)), .unset, .unset, .unset, .unset, .unset, .unset, .unset, .unset] []) := by
  refine Go.iload S at_170 rfl (pc' := 172) rfl ?_
  refine Go.iconst S (v := 1) at_172 rfl (pc' := 173) rfl ?_
  refine Go.iadd S at_173 (pc' := 174) rfl ?_
  show Go _ _ _ _ T (mkF m 174 #[g0, g1, g2, g3, g4, g5, g6, g7, g8, g9, g10, g11, g12, .val (.ref o), .val (.int (3 : Int32)), .unset, .unset, .unset, .unset, .unset, .unset, .unset, .unset] [(.int (4 : Int32))])
  refine Go.istore S at_174 (Ls' := #[g0, g1, g2, g3, g4, g5, g6, g7, g8, g9, g10, g11, g12, .val (.ref o), .val (.int (3 : Int32)), .val (.int (4 : Int32)), .unset, .unset, .unset, .unset, .unset, .unset, .unset]) rfl (pc' := 176) rfl ?_
  refine Go.new S (wd26 hw) (wd27 hw) (wd28 hw) at_176 (by decide) (by decide) (pc' := 179) rfl ?_
  intro T1 h1 a1 S1 E1 hg1 hz1 hk1 X1 D1
  have n_o_a1 : o ≠ a1 := Nat.ne_of_lt (Nat.lt_of_lt_of_le A.lt (Nat.le_of_eq hg1))
  have n_t_a1 : t ≠ a1 := Nat.ne_of_lt (Nat.lt_of_lt_of_le A.lt2 (Nat.le_of_eq hg1))
  replace hn := Nat.le_trans hn E1.1
  replace A := A.ext E1
  replace El := El.ext E1
  have F1_line : Fld Z h1 a1 "com/example/markmint/markmint/core/store/Fields" "line" "Ljava/lang/CharSequence;" .null := D1 (Or.inr (wd34 hw)) (ty := (.object "java/lang/CharSequence")) (by decide)
  have F1_next : Fld Z h1 a1 "com/example/markmint/markmint/core/store/Fields" "next" "I" (.int (0 : Int32)) := D1 (Or.inl (wd41 hw)) (ty := .int) (by decide)
  refine Go.dup S1 at_179 rfl (pc' := 180) rfl ?_
  refine Go.aload S1 at_180 rfl rfl (pc' := 182) rfl ?_
  refine Go.invokespecial S1 (y := ⟨"com/example/markmint/markmint/core/store/Fields", "<init>", "(Ljava/lang/CharSequence;)V"⟩) (rm_finit hw a1 o S1.ext hz1 X1 F1_line F1_next) rfl rfl (wd29 hw) (wd30 hw) (wd28 hw) (wd31 hw) (by decide) at_182 rfl pd21 (argsL := [(.ref o)]) rfl rfl rfl (by decide) (W := 1) rfl (by decide) (by decide) (by decide) (allS (Or.inr hk1) all0) (pc' := 185) rfl ?_
  intro v2 T2 h2 L2 S2 K2 q2
  obtain ⟨rfl, Fl, Fn⟩ := q2
  replace hn := Nat.le_trans hn K2.1
  replace A := A.keep K2 (ninS n_o_a1 nin0) (ninS n_t_a1 nin0)
  replace El := El.keep K2
  replace X1 := X1.keep K2
  show Go _ _ _ _ T2 (mkF m 185 #[g0, g1, g2, g3, g4, g5, g6, g7, g8, g9, g10, g11, g12, .val (.ref o), .val (.int (3 : Int32)), .val (.int (4 : Int32)), .unset, .unset, .unset, .unset, .unset, .unset, .unset] [(.ref a1)])
  have hi0 : 0 ≤ cl.length := Nat.zero_le _
  have hs0 : own_sp (cl.drop 0) + 0 = 3 := hsp
  refine Go.astore S2 at_185 rfl (Ls' := #[g0, g1, g2, g3, g4, g5, g6, g7, g8, g9, g10, g11, g12, .val (.ref o), .val (.int (3 : Int32)), .val (.int (4 : Int32)), .val (.ref a1), .unset, .unset, .unset, .unset, .unset, .unset]) rfl (pc' := 187) rfl ?_
  refine Go.iconst S2 (v := 1) at_187 rfl (pc' := 188) rfl ?_
  refine Go.istore S2 at_188 (Ls' := #[g0, g1, g2, g3, g4, g5, g6, g7, g8, g9, g10, g11, g12, .val (.ref o), .val (.int (3 : Int32)), .val (.int (4 : Int32)), .val (.ref a1), .val (.int (1 : Int32)), .unset, .unset, .unset, .unset, .unset]) rfl (pc' := 190) rfl ?_
  refine Go.aload S2 at_190 rfl rfl (pc' := 192) rfl ?_
  refine Go.invokevirtual S2 (y := ⟨"com/example/markmint/markmint/core/store/Fields", "hasNext", "()Z"⟩) (rm_hasNext hw a1 (Nat.toInt32 0) S2.ext Fn) (wd35 hw) (wd36 hw) (S2.nf (wd38 hw)) (wd38 hw) (wd37 hw) (wd28 hw) (wd39 hw) (by decide) X1 at_192 rfl pd6 (argsL := []) rfl rfl rfl (by decide) (W := 0) rfl (by decide) (by decide) (by decide) all0 (pc' := 195) rfl ?_
  intro v3 T3 h3 L3 S3 K3 q3
  rw [if_neg (own_nn (i := 0) (by omega))] at q3
  obtain ⟨rfl, rfl⟩ := q3
  show Go _ _ _ _ T3 (mkF m 195 #[g0, g1, g2, g3, g4, g5, g6, g7, g8, g9, g10, g11, g12, .val (.ref o), .val (.int (3 : Int32)), .val (.int (4 : Int32)), .val (.ref a1), .val (.int (1 : Int32)), .unset, .unset, .unset, .unset, .unset] [(.int (1 : Int32))])
  refine Go.istore S3 at_195 (Ls' := #[g0, g1, g2, g3, g4, g5, g6, g7, g8, g9, g10, g11, g12, .val (.ref o), .val (.int (3 : Int32)), .val (.int (4 : Int32)), .val (.ref a1), .val (.int (1 : Int32)), .val (.int (1 : Int32)), .unset, .unset, .unset, .unset]) rfl (pc' := 197) rfl ?_
  refine Go.iload S3 at_197 rfl (pc' := 199) rfl ?_
  refine Go.if_eq S3 at_199 (pt := 222) (by decide) (pc' := 202) rfl ?_ ?_
  · intro c199; exact absurd c199 (by decide)
  · intro c199
    refine Go.iload S3 at_202 rfl (pc' := 204) rfl ?_
    refine Go.iconst S3 (v := 0) at_204 rfl (pc' := 205) rfl ?_
    refine Go.iload S3 at_205 rfl (pc' := 207) rfl ?_
    refine Go.icmp_ge S3 at_207 (pt := 214) (by decide) (pc' := 210) rfl ?_ ?_
    · intro c207; exact absurd (by decide) c207
    · intro c207
      refine Go.iconst S3 (v := 1) at_210 rfl (pc' := 211) rfl ?_
      refine Go.goto S3 at_211 (pc' := 215) (by decide) ?_
      refine Go.icmp_ne S3 at_215 (pt := 222) (by decide) (pc' := 218) rfl ?_ ?_
      · intro c215; exact absurd (by decide) c215
      · intro c215
        refine Go.iconst S3 (v := 1) at_218 rfl (pc' := 219) rfl ?_
        refine Go.goto S3 at_219 (pc' := 223) (by decide) ?_
        refine Go.istore S3 at_223 (Ls' := #[g0, g1, g2, g3, g4, g5, g6, g7, g8, g9, g10, g11, g12, .val (.ref o), .val (.int (3 : Int32)), .val (.int (4 : Int32)), .val (.ref a1), .val (.int (1 : Int32)), .val (.int (1 : Int32)), .unset, .unset, .unset, .unset]) rfl (pc' := 225) rfl ?_
        refine Go.iconst S3 (v := 0) at_225 rfl (pc' := 226) rfl ?_
        refine Go.iload S3 at_226 rfl (pc' := 228) rfl ?_
        refine Go.icmp_ge S3 at_228 (pt := 237) (by decide) (pc' := 231) rfl ?_ ?_
        · intro c228; exact absurd (by decide) c228
        · intro c228
          refine Go.aload S3 at_231 rfl rfl (pc' := 233) rfl ?_
          refine Go.invokevirtualW S3 (y := ⟨"com/example/markmint/markmint/core/store/Fields", "next", "()Ljava/lang/String;"⟩) (rm_next hw a1 o t kb cl 0 fw cs S3.ext hl hcl hi0 hz1 X1 Fl Fn A n_o_a1 n_t_a1 Ff Fr Cs Cn hh1 hcw) N hn (fun vm hv => Elv.warm (sb := sb) El hv) (wd42 hw) (wd43 hw) (S3.nf (wd45 hw)) (wd45 hw) (wd44 hw) (wd28 hw) (wd46 hw) (by decide) X1 at_233 rfl pd20 (argsL := []) rfl rfl rfl (by decide) (W := 0) rfl (by decide) (by decide) (by decide) (allS (Or.inr hk1) all0) (pc' := 236) rfl ?_
          intro v4 sb4 T4 h4 L4 S4 N4 K4 q4
          obtain ⟨⟨r4, rfl⟩, El4, Fl4, nx4, Fn4, J4⟩ := q4
          replace A := A.keep K4 (ninS n_o_a1 nin0) (ninS n_t_a1 nin0)
          replace X1 := X1.keep K4
          replace hn : h4.size ≤ h4.size := Nat.le_refl _
          show Go _ _ _ _ T4 (mkF m 236 #[g0, g1, g2, g3, g4, g5, g6, g7, g8, g9, g10, g11, g12, .val (.ref o), .val (.int (3 : Int32)), .val (.int (4 : Int32)), .val (.ref a1), .val (.int (1 : Int32)), .val (.int (1 : Int32)), .unset, .unset, .unset, .unset] [(.ref r4)])
          obtain ⟨i4, rfl, hi4, hy4⟩ := J4.resolve_left (fun z => by have := z.2; omega)
          have hs4 : own_sp (cl.drop i4) + 1 = 3 := by omega
          refine Go.pop S4 at_236 rfl (pc' := 237) rfl ?_
          refine Go.aload S4 at_237 rfl rfl (pc' := 239) rfl ?_
          refine Go.invokevirtual S4 (y := ⟨"com/example/markmint/markmint/core/store/Fields", "hasNext", "()Z"⟩) (rm_hasNext hw a1 (Nat.toInt32 i4) S4.ext Fn4) (wd35 hw) (wd36 hw) (S4.nf (wd38 hw)) (wd38 hw) (wd37 hw) (wd28 hw) (wd39 hw) (by decide) X1 at_239 rfl pd6 (argsL := []) rfl rfl rfl (by decide) (W := 0) rfl (by decide) (by decide) (by decide) all0 (pc' := 242) rfl ?_
          intro v5 T5 h5 L5 S5 K5 q5
          rw [if_neg (own_nn (i := i4) (by omega))] at q5
          obtain ⟨rfl, rfl⟩ := q5
          show Go _ _ _ _ T5 (mkF m 242 #[g0, g1, g2, g3, g4, g5, g6, g7, g8, g9, g10, g11, g12, .val (.ref o), .val (.int (3 : Int32)), .val (.int (4 : Int32)), .val (.ref a1), .val (.int (1 : Int32)), .val (.int (1 : Int32)), .unset, .unset, .unset, .unset] [(.int (1 : Int32))])
          refine Go.istore S5 at_242 (Ls' := #[g0, g1, g2, g3, g4, g5, g6, g7, g8, g9, g10, g11, g12, .val (.ref o), .val (.int (3 : Int32)), .val (.int (4 : Int32)), .val (.ref a1), .val (.int (1 : Int32)), .val (.int (1 : Int32)), .val (.int (1 : Int32)), .unset, .unset, .unset]) rfl (pc' := 244) rfl ?_
          refine Go.iload S5 at_244 rfl (pc' := 246) rfl ?_
          refine Go.if_eq S5 at_246 (pt := 269) (by decide) (pc' := 249) rfl ?_ ?_
          · intro c246; exact absurd c246 (by decide)
          · intro c246
            refine Go.iload S5 at_249 rfl (pc' := 251) rfl ?_
            refine Go.iconst S5 (v := 1) at_251 rfl (pc' := 252) rfl ?_
            refine Go.iload S5 at_252 rfl (pc' := 254) rfl ?_
            refine Go.icmp_ge S5 at_254 (pt := 261) (by decide) (pc' := 257) rfl ?_ ?_
            · intro c254; exact absurd (by decide) c254
            · intro c254
              refine Go.iconst S5 (v := 1) at_257 rfl (pc' := 258) rfl ?_
              refine Go.goto S5 at_258 (pc' := 262) (by decide) ?_
              refine Go.icmp_ne S5 at_262 (pt := 269) (by decide) (pc' := 265) rfl ?_ ?_
              · intro c262; exact absurd (by decide) c262
              · intro c262
                refine Go.iconst S5 (v := 1) at_265 rfl (pc' := 266) rfl ?_
                refine Go.goto S5 at_266 (pc' := 270) (by decide) ?_
                refine Go.istore S5 at_270 (Ls' := #[g0, g1, g2, g3, g4, g5, g6, g7, g8, g9, g10, g11, g12, .val (.ref o), .val (.int (3 : Int32)), .val (.int (4 : Int32)), .val (.ref a1), .val (.int (1 : Int32)), .val (.int (1 : Int32)), .val (.int (1 : Int32)), .unset, .unset, .unset]) rfl (pc' := 272) rfl ?_
                refine Go.iconst S5 (v := 1) at_272 rfl (pc' := 273) rfl ?_
                refine Go.iload S5 at_273 rfl (pc' := 275) rfl ?_
                refine Go.icmp_ge S5 at_275 (pt := 284) (by decide) (pc' := 278) rfl ?_ ?_
                · intro c275; exact absurd (by decide) c275
                · intro c275
                  refine Go.aload S5 at_278 rfl rfl (pc' := 280) rfl ?_
                  refine Go.invokevirtualW S5 (y := ⟨"com/example/markmint/markmint/core/store/Fields", "next", "()Ljava/lang/String;"⟩) (rm_next hw a1 o t kb cl i4 fw cs S5.ext hl hcl hi4 hz1 X1 Fl4 Fn4 A n_o_a1 n_t_a1 Ff Fr Cs Cn hh1 hcw) N4 hn (fun vm hv => Elv.warm (sb := sb4) El4 hv) (wd42 hw) (wd43 hw) (S5.nf (wd45 hw)) (wd45 hw) (wd44 hw) (wd28 hw) (wd46 hw) (by decide) X1 at_280 rfl pd20 (argsL := []) rfl rfl rfl (by decide) (W := 0) rfl (by decide) (by decide) (by decide) (allS (Or.inr hk1) all0) (pc' := 283) rfl ?_
                  intro v6 sb6 T6 h6 L6 S6 N6 K6 q6
                  obtain ⟨⟨r6, rfl⟩, El6, Fl6, nx6, Fn6, J6⟩ := q6
                  replace A := A.keep K6 (ninS n_o_a1 nin0) (ninS n_t_a1 nin0)
                  replace X1 := X1.keep K6
                  replace hn : h6.size ≤ h6.size := Nat.le_refl _
                  show Go _ _ _ _ T6 (mkF m 283 #[g0, g1, g2, g3, g4, g5, g6, g7, g8, g9, g10, g11, g12, .val (.ref o), .val (.int (3 : Int32)), .val (.int (4 : Int32)), .val (.ref a1), .val (.int (1 : Int32)), .val (.int (1 : Int32)), .val (.int (1 : Int32)), .unset, .unset, .unset] [(.ref r6)])
                  obtain ⟨i6, rfl, hi6, hy6⟩ := J6.resolve_left (fun z => by have := z.2; omega)
                  have hs6 : own_sp (cl.drop i6) + 2 = 3 := by omega
                  refine Go.pop S6 at_283 rfl (pc' := 284) rfl ?_
                  refine Go.aload S6 at_284 rfl rfl (pc' := 286) rfl ?_
                  refine Go.invokevirtual S6 (y := ⟨"com/example/markmint/markmint/core/store/Fields", "hasNext", "()Z"⟩) (rm_hasNext hw a1 (Nat.toInt32 i6) S6.ext Fn6) (wd35 hw) (wd36 hw) (S6.nf (wd38 hw)) (wd38 hw) (wd37 hw) (wd28 hw) (wd39 hw) (by decide) X1 at_286 rfl pd6 (argsL := []) rfl rfl rfl (by decide) (W := 0) rfl (by decide) (by decide) (by decide) all0 (pc' := 289) rfl ?_
                  intro v7 T7 h7 L7 S7 K7 q7
                  rw [if_neg (own_nn (i := i6) (by omega))] at q7
                  obtain ⟨rfl, rfl⟩ := q7
                  show Go _ _ _ _ T7 (mkF m 289 #[g0, g1, g2, g3, g4, g5, g6, g7, g8, g9, g10, g11, g12, .val (.ref o), .val (.int (3 : Int32)), .val (.int (4 : Int32)), .val (.ref a1), .val (.int (1 : Int32)), .val (.int (1 : Int32)), .val (.int (1 : Int32)), .unset, .unset, .unset] [(.int (1 : Int32))])
                  refine Go.istore S7 at_289 (Ls' := #[g0, g1, g2, g3, g4, g5, g6, g7, g8, g9, g10, g11, g12, .val (.ref o), .val (.int (3 : Int32)), .val (.int (4 : Int32)), .val (.ref a1), .val (.int (1 : Int32)), .val (.int (1 : Int32)), .val (.int (1 : Int32)), .val (.int (1 : Int32)), .unset, .unset]) rfl (pc' := 291) rfl ?_
                  refine Go.iload S7 at_291 rfl (pc' := 293) rfl ?_
                  refine Go.if_eq S7 at_293 (pt := 316) (by decide) (pc' := 296) rfl ?_ ?_
                  · intro c293; exact absurd c293 (by decide)
                  · intro c293
                    refine Go.iload S7 at_296 rfl (pc' := 298) rfl ?_
                    refine Go.iconst S7 (v := 2) at_298 rfl (pc' := 299) rfl ?_
                    refine Go.iload S7 at_299 rfl (pc' := 301) rfl ?_
                    refine Go.icmp_ge S7 at_301 (pt := 308) (by decide) (pc' := 304) rfl ?_ ?_
                    · intro c301; exact absurd (by decide) c301
                    · intro c301
                      refine Go.iconst S7 (v := 1) at_304 rfl (pc' := 305) rfl ?_
                      refine Go.goto S7 at_305 (pc' := 309) (by decide) ?_
                      refine Go.icmp_ne S7 at_309 (pt := 316) (by decide) (pc' := 312) rfl ?_ ?_
                      · intro c309; exact absurd (by decide) c309
                      · intro c309
                        refine Go.iconst S7 (v := 1) at_312 rfl (pc' := 313) rfl ?_
                        refine Go.goto S7 at_313 (pc' := 317) (by decide) ?_
                        refine Go.istore S7 at_317 (Ls' := #[g0, g1, g2, g3, g4, g5, g6, g7, g8, g9, g10, g11, g12, .val (.ref o), .val (.int (3 : Int32)), .val (.int (4 : Int32)), .val (.ref a1), .val (.int (1 : Int32)), .val (.int (1 : Int32)), .val (.int (1 : Int32)), .val (.int (1 : Int32)), .unset, .unset]) rfl (pc' := 319) rfl ?_
                        refine Go.iconst S7 (v := 2) at_319 rfl (pc' := 320) rfl ?_
                        refine Go.iload S7 at_320 rfl (pc' := 322) rfl ?_
                        refine Go.icmp_ge S7 at_322 (pt := 331) (by decide) (pc' := 325) rfl ?_ ?_
                        · intro c322; exact absurd (by decide) c322
                        · intro c322
                          refine Go.aload S7 at_325 rfl rfl (pc' := 327) rfl ?_
                          refine Go.invokevirtualW S7 (y := ⟨"com/example/markmint/markmint/core/store/Fields", "next", "()Ljava/lang/String;"⟩) (rm_next hw a1 o t kb cl i6 fw cs S7.ext hl hcl hi6 hz1 X1 Fl6 Fn6 A n_o_a1 n_t_a1 Ff Fr Cs Cn hh1 hcw) N6 hn (fun vm hv => Elv.warm (sb := sb6) El6 hv) (wd42 hw) (wd43 hw) (S7.nf (wd45 hw)) (wd45 hw) (wd44 hw) (wd28 hw) (wd46 hw) (by decide) X1 at_327 rfl pd20 (argsL := []) rfl rfl rfl (by decide) (W := 0) rfl (by decide) (by decide) (by decide) (allS (Or.inr hk1) all0) (pc' := 330) rfl ?_
                          intro v8 sb8 T8 h8 L8 S8 N8 K8 q8
                          obtain ⟨⟨r8, rfl⟩, El8, Fl8, nx8, Fn8, J8⟩ := q8
                          replace A := A.keep K8 (ninS n_o_a1 nin0) (ninS n_t_a1 nin0)
                          replace X1 := X1.keep K8
                          replace hn : h8.size ≤ h8.size := Nat.le_refl _
                          show Go _ _ _ _ T8 (mkF m 330 #[g0, g1, g2, g3, g4, g5, g6, g7, g8, g9, g10, g11, g12, .val (.ref o), .val (.int (3 : Int32)), .val (.int (4 : Int32)), .val (.ref a1), .val (.int (1 : Int32)), .val (.int (1 : Int32)), .val (.int (1 : Int32)), .val (.int (1 : Int32)), .unset, .unset] [(.ref r8)])
                          obtain ⟨i8, rfl, hi8, hy8⟩ := J8.resolve_left (fun z => by have := z.2; omega)
                          have hs8 : own_sp (cl.drop i8) + 3 = 3 := by omega
                          refine Go.pop S8 at_330 rfl (pc' := 331) rfl ?_
                          refine Go.aload S8 at_331 rfl rfl (pc' := 333) rfl ?_
                          refine Go.invokevirtual S8 (y := ⟨"com/example/markmint/markmint/core/store/Fields", "hasNext", "()Z"⟩) (rm_hasNext hw a1 (Nat.toInt32 i8) S8.ext Fn8) (wd35 hw) (wd36 hw) (S8.nf (wd38 hw)) (wd38 hw) (wd37 hw) (wd28 hw) (wd39 hw) (by decide) X1 at_333 rfl pd6 (argsL := []) rfl rfl rfl (by decide) (W := 0) rfl (by decide) (by decide) (by decide) all0 (pc' := 336) rfl ?_
                          intro v9 T9 h9 L9 S9 K9 q9
                          rw [if_neg (own_nn (i := i8) (by omega))] at q9
                          obtain ⟨rfl, rfl⟩ := q9
                          show Go _ _ _ _ T9 (mkF m 336 #[g0, g1, g2, g3, g4, g5, g6, g7, g8, g9, g10, g11, g12, .val (.ref o), .val (.int (3 : Int32)), .val (.int (4 : Int32)), .val (.ref a1), .val (.int (1 : Int32)), .val (.int (1 : Int32)), .val (.int (1 : Int32)), .val (.int (1 : Int32)), .unset, .unset] [(.int (1 : Int32))])
                          refine Go.istore S9 at_336 (Ls' := #[g0, g1, g2, g3, g4, g5, g6, g7, g8, g9, g10, g11, g12, .val (.ref o), .val (.int (3 : Int32)), .val (.int (4 : Int32)), .val (.ref a1), .val (.int (1 : Int32)), .val (.int (1 : Int32)), .val (.int (1 : Int32)), .val (.int (1 : Int32)), .val (.int (1 : Int32)), .unset]) rfl (pc' := 338) rfl ?_
                          refine Go.iload S9 at_338 rfl (pc' := 340) rfl ?_
                          refine Go.if_eq S9 at_340 (pt := 363) (by decide) (pc' := 343) rfl ?_ ?_
                          · intro c340; exact absurd c340 (by decide)
                          · intro c340
                            refine Go.iload S9 at_343 rfl (pc' := 345) rfl ?_
                            refine Go.iconst S9 (v := 3) at_345 rfl (pc' := 346) rfl ?_
                            refine Go.iload S9 at_346 rfl (pc' := 348) rfl ?_
                            refine Go.icmp_ge S9 at_348 (pt := 355) (by decide) (pc' := 351) rfl ?_ ?_
                            · intro c348; exact absurd (by decide) c348
                            · intro c348
                              refine Go.iconst S9 (v := 1) at_351 rfl (pc' := 352) rfl ?_
                              refine Go.goto S9 at_352 (pc' := 356) (by decide) ?_
                              refine Go.icmp_ne S9 at_356 (pt := 363) (by decide) (pc' := 359) rfl ?_ ?_
                              · intro c356; exact absurd (by decide) c356
                              · intro c356
                                refine Go.iconst S9 (v := 1) at_359 rfl (pc' := 360) rfl ?_
                                refine Go.goto S9 at_360 (pc' := 364) (by decide) ?_
                                refine Go.istore S9 at_364 (Ls' := #[g0, g1, g2, g3, g4, g5, g6, g7, g8, g9, g10, g11, g12, .val (.ref o), .val (.int (3 : Int32)), .val (.int (4 : Int32)), .val (.ref a1), .val (.int (1 : Int32)), .val (.int (1 : Int32)), .val (.int (1 : Int32)), .val (.int (1 : Int32)), .val (.int (1 : Int32)), .unset]) rfl (pc' := 366) rfl ?_
                                refine Go.iconst S9 (v := 3) at_366 rfl (pc' := 367) rfl ?_
                                refine Go.iload S9 at_367 rfl (pc' := 369) rfl ?_
                                refine Go.icmp_ge S9 at_369 (pt := 378) (by decide) (pc' := 372) rfl ?_ ?_
                                · intro c369; exact absurd (by decide) c369
                                · intro c369
                                  refine Go.aload S9 at_372 rfl rfl (pc' := 374) rfl ?_
                                  refine Go.invokevirtualW S9 (y := ⟨"com/example/markmint/markmint/core/store/Fields", "next", "()Ljava/lang/String;"⟩) (rm_next hw a1 o t kb cl i8 fw cs S9.ext hl hcl hi8 hz1 X1 Fl8 Fn8 A n_o_a1 n_t_a1 Ff Fr Cs Cn hh1 hcw) N8 hn (fun vm hv => Elv.warm (sb := sb8) El8 hv) (wd42 hw) (wd43 hw) (S9.nf (wd45 hw)) (wd45 hw) (wd44 hw) (wd28 hw) (wd46 hw) (by decide) X1 at_374 rfl pd20 (argsL := []) rfl rfl rfl (by decide) (W := 0) rfl (by decide) (by decide) (by decide) (allS (Or.inr hk1) all0) (pc' := 377) rfl ?_
                                  intro v10 sb10 T10 h10 L10 S10 N10 K10 q10
                                  obtain ⟨⟨r10, rfl⟩, El10, Fl10, nx10, Fn10, J10⟩ := q10
                                  replace A := A.keep K10 (ninS n_o_a1 nin0) (ninS n_t_a1 nin0)
                                  replace X1 := X1.keep K10
                                  replace hn : h10.size ≤ h10.size := Nat.le_refl _
                                  show Go _ _ _ _ T10 (mkF m 377 #[g0, g1, g2, g3, g4, g5, g6, g7, g8, g9, g10, g11, g12, .val (.ref o), .val (.int (3 : Int32)), .val (.int (4 : Int32)), .val (.ref a1), .val (.int (1 : Int32)), .val (.int (1 : Int32)), .val (.int (1 : Int32)), .val (.int (1 : Int32)), .val (.int (1 : Int32)), .unset] [(.ref r10)])
                                  obtain ⟨rfl, -⟩ := J10.resolve_right (fun ⟨_, _, _, z⟩ => by omega)
                                  refine Go.pop S10 at_377 rfl (pc' := 378) rfl ?_
                                  refine Go.aload S10 at_378 rfl rfl (pc' := 380) rfl ?_
                                  refine Go.invokevirtual S10 (y := ⟨"com/example/markmint/markmint/core/store/Fields", "hasNext", "()Z"⟩) (rm_hasNext hw a1 (-1) S10.ext Fn10) (wd35 hw) (wd36 hw) (S10.nf (wd38 hw)) (wd38 hw) (wd37 hw) (wd28 hw) (wd39 hw) (by decide) X1 at_380 rfl pd6 (argsL := []) rfl rfl rfl (by decide) (W := 0) rfl (by decide) (by decide) (by decide) all0 (pc' := 383) rfl ?_
                                  intro v11 T11 h11 L11 S11 K11 q11
                                  rw [if_pos (by decide)] at q11
                                  obtain ⟨rfl, rfl⟩ := q11
                                  show Go _ _ _ _ T11 (mkF m 383 #[g0, g1, g2, g3, g4, g5, g6, g7, g8, g9, g10, g11, g12, .val (.ref o), .val (.int (3 : Int32)), .val (.int (4 : Int32)), .val (.ref a1), .val (.int (1 : Int32)), .val (.int (1 : Int32)), .val (.int (1 : Int32)), .val (.int (1 : Int32)), .val (.int (1 : Int32)), .unset] [(.int (0 : Int32))])
                                  refine Go.istore S11 at_383 (Ls' := #[g0, g1, g2, g3, g4, g5, g6, g7, g8, g9, g10, g11, g12, .val (.ref o), .val (.int (3 : Int32)), .val (.int (4 : Int32)), .val (.ref a1), .val (.int (1 : Int32)), .val (.int (1 : Int32)), .val (.int (1 : Int32)), .val (.int (1 : Int32)), .val (.int (1 : Int32)), .val (.int (0 : Int32))]) rfl (pc' := 385) rfl ?_
                                  refine Go.iload S11 at_385 rfl (pc' := 387) rfl ?_
                                  refine Go.if_eq S11 at_387 (pt := 410) (by decide) (pc' := 390) rfl ?_ ?_
                                  · intro c387; exact absurd c387 (by decide)
                                  · intro c387
                                    refine Go.iload S11 at_390 rfl (pc' := 392) rfl ?_
                                    refine Go.iconst S11 (v := 4) at_392 rfl (pc' := 393) rfl ?_
                                    refine Go.iload S11 at_393 rfl (pc' := 395) rfl ?_
                                    refine Go.icmp_ge S11 at_395 (pt := 402) (by decide) (pc' := 398) rfl ?_ ?_
                                    · intro c395
                                      refine Go.iconst S11 (v := 0) at_402 rfl (pc' := 403) rfl ?_
                                      refine Go.icmp_ne S11 at_403 (pt := 410) (by decide) (pc' := 406) rfl ?_ ?_
                                      · intro c403; exact absurd (by decide) c403
                                      · intro c403
                                        refine Go.iconst S11 (v := 1) at_406 rfl (pc' := 407) rfl ?_
                                        refine Go.goto S11 at_407 (pc' := 411) (by decide) ?_
                                        refine Go.istore S11 at_411 (Ls' := #[g0, g1, g2, g3, g4, g5, g6, g7, g8, g9, g10, g11, g12, .val (.ref o), .val (.int (3 : Int32)), .val (.int (4 : Int32)), .val (.ref a1), .val (.int (1 : Int32)), .val (.int (1 : Int32)), .val (.int (1 : Int32)), .val (.int (1 : Int32)), .val (.int (1 : Int32)), .val (.int (0 : Int32))]) rfl (pc' := 413) rfl ?_
                                        refine Go.iload S11 at_413 rfl (pc' := 415) rfl ?_
                                        exact Go.zreturnW S11 N10 hn rfl (by decide) at_415 (z' := (1 : Int32)) rfl (by decide) (by decide) (rfl)
                                    · intro c395; exact absurd c395 (by decide)
set_option maxRecDepth 65536 in
set_option maxHeartbeats 4000000 in
theorem own_tail {p : Program} {l : Launch} {e : Env} {s sb : State} {m : MethodId} {args : Array Value} {below : List Frame} {meth : Method} {co : Code} {Z : State} {a0 : Array Value} (hw : HW Z a0) (g0 g1 g2 g3 g4 g5 g6 g7 g8 g9 g10 g11 g12 : Slot) (o t : Addr) (kb : ClassId) (cl : List Int32) (fw : Value) (cs : Int32) (w : Int32) {h0 h : Heap} {T : State} {locs : List Loc} {n : Nat} (S : St p l e room_1 sb m args below meth co Z x.cls code maxLocals ret x.name h0 [] T h locs 8 20) (N : Sn s sb n) (hn : n ≤ h.size) (hl : cl.length ≤ 3) (hcl : ∀ z ∈ cl, ¬ z < 0 ∧ ¬ 255 < z) (A : StrAt Z h o t kb (cl.map own_b)) (El : Elv Z sb.vm h (cl.map own_b)) (Ff : Sta Z Z.heap "jdk/internal/util/Preconditions" "SIOOBE_FORMATTER" "Ljava/util/function/BiFunction;" fw) (Fr : fw.isRef = true) (Cs : Sta Z Z.heap "java/lang/String" "COMPACT_STRINGS" "Z" (.int cs)) (Cn : ¬ cs = 0) (hh1 : Jvm.Lit.constHeld Z "java/lang/StringLatin1" 151) (hcw : Jvm.Lit.compactW.before a0 Z = true) (hw14 : w = (own_sp cl).toInt32) :
    Go p e below (PostW Z s h0 [] room_1.cells room_1.slots (fun v h vm => v = some (.int 1))) T (mkF m 170 #[g0, g1, g2, g3, g4, g5, g6, g7, g8, g9, g10, g11, g12, .val (.ref o), .val (.int w), .unset, .unset, .unset, .unset, .unset, .unset, .unset, .unset] []) := by
  have hle := own_sp_le cl
  obtain z | z | z | z : own_sp cl = 0 ∨ own_sp cl = 1 ∨ own_sp cl = 2 ∨ own_sp cl = 3 := by omega
  · obtain rfl : w = 0 := hw14.trans (by rw [z]; rfl)
    exact own_tail0 hw g0 g1 g2 g3 g4 g5 g6 g7 g8 g9 g10 g11 g12 o t kb cl fw cs S N hn hl hcl A El Ff Fr Cs Cn hh1 hcw z
  · obtain rfl : w = 1 := hw14.trans (by rw [z]; rfl)
    exact own_tail1 hw g0 g1 g2 g3 g4 g5 g6 g7 g8 g9 g10 g11 g12 o t kb cl fw cs S N hn hl hcl A El Ff Fr Cs Cn hh1 hcw z
  · obtain rfl : w = 2 := hw14.trans (by rw [z]; rfl)
    exact own_tail2 hw g0 g1 g2 g3 g4 g5 g6 g7 g8 g9 g10 g11 g12 o t kb cl fw cs S N hn hl hcl A El Ff Fr Cs Cn hh1 hcw z
  · obtain rfl : w = 3 := hw14.trans (by rw [z]; rfl)
    exact own_tail3 hw g0 g1 g2 g3 g4 g5 g6 g7 g8 g9 g10 g11 g12 o t kb cl fw cs S N hn hl hcl A El Ff Fr Cs Cn hh1 hcw z
set_option maxRecDepth 65536 in
set_option maxHeartbeats 4000000 in
theorem rm_code {l : Launch} {Z : State} {a0 : Array Value} (hw : HW Z a0) (zl : Int32) (z0 : Int32) (z1 : Int32) (z2 : Int32) (fw : Value) (cs : Int32) {h0 : Heap} (hE : Ext Z.heap h0) (Ff : Sta Z Z.heap "jdk/internal/util/Preconditions" "SIOOBE_FORMATTER" "Ljava/util/function/BiFunction;" fw) (Fr : fw.isRef = true) (Cs : Sta Z Z.heap "java/lang/String" "COMPACT_STRINGS" "Z" (.int cs)) (Cn : ¬ cs = 0) (hh : Jvm.Lit.constHeld Z "java/lang/String" 7) (hcw : Jvm.Lit.compactW.before a0 Z = true) (hh1 : Jvm.Lit.constHeld Z "java/lang/StringLatin1" 151) :
    OMeetsW l Z x code maxLocals ret room_1 #[(.int zl), (.int z0), (.int z1), (.int z2)] h0 [] (fun vm => IB Z vm []) (fun v h vm => v = some (.int 1)) := by
  refine OMeetsW.body (plainFor_of_name pn4) hE #[.val (.int zl), .val (.int z0), .val (.int z1), .val (.int z2), .unset, .unset, .unset, .unset, .unset, .unset, .unset, .unset, .unset, .unset, .unset, .unset, .unset, .unset, .unset, .unset, .unset, .unset, .unset] (fun m => by first | (simp [entryFrame, mkF, argsToLocals, Value.category, maxLocals]; done) | rfl) ?_
  intro p e s m below meth co T S hvp hsh
  have N := Sn.start s h0.size
  have hn : h0.size ≤ h0.size := Nat.le_refl _
  refine Go.iloadN S at_0 rfl (pc' := 1) rfl ?_
  refine Go.iconst S (v := 3) at_1 rfl (pc' := 2) rfl ?_
  refine Go.iand S at_2 (pc' := 3) rfl ?_
  refine Go.istore S at_3 (Ls' := #[.val (.int zl), .val (.int z0), .val (.int z1), .val (.int z2), .val (.int (zl &&& (3 : Int32))), .unset, .unset, .unset, .unset, .unset, .unset, .unset, .unset, .unset, .unset, .unset, .unset, .unset, .unset, .unset, .unset, .unset, .unset]) rfl (pc' := 5) rfl ?_
  generalize h_k : (zl &&& (3 : Int32)) = k
  refine Go.iloadN S at_5 rfl (pc' := 6) rfl ?_
  refine Go.invokestatic S (y := ⟨"com/example/markmint/markmint/core/store/FieldsHasNextPinLaw", "draw", "(I)C"⟩) (rm_draw hw z0 S.ext) (wd0 hw) (wd1 hw) (wd2 hw) (wd3 hw) (by decide) at_6 rfl pd10 (argsL := [(.int z0)]) rfl rfl rfl (by decide) (W := 0) rfl (by decide) (by decide) (by decide) all0 (pc' := 9) rfl ?_
  intro v1 T1 h1 L1 S1 K1 q1
  obtain ⟨⟨u0, rfl, hu0⟩, rfl⟩ := q1
  show Go _ _ _ _ T1 (mkF m 9 #[.val (.int zl), .val (.int z0), .val (.int z1), .val (.int z2), .val (.int k), .unset, .unset, .unset, .unset, .unset, .unset, .unset, .unset, .unset, .unset, .unset, .unset, .unset, .unset, .unset, .unset, .unset, .unset] [(.int u0)])
  refine Go.istore S1 at_9 (Ls' := #[.val (.int zl), .val (.int z0), .val (.int z1), .val (.int z2), .val (.int k), .val (.int u0), .unset, .unset, .unset, .unset, .unset, .unset, .unset, .unset, .unset, .unset, .unset, .unset, .unset, .unset, .unset, .unset, .unset]) rfl (pc' := 11) rfl ?_
  refine Go.iloadN S1 at_11 rfl (pc' := 12) rfl ?_
  refine Go.invokestatic S1 (y := ⟨"com/example/markmint/markmint/core/store/FieldsHasNextPinLaw", "draw", "(I)C"⟩) (rm_draw hw z1 S1.ext) (wd0 hw) (wd1 hw) (wd2 hw) (wd3 hw) (by decide) at_12 rfl pd10 (argsL := [(.int z1)]) rfl rfl rfl (by decide) (W := 0) rfl (by decide) (by decide) (by decide) all0 (pc' := 15) rfl ?_
  intro v2 T2 h2 L2 S2 K2 q2
  obtain ⟨⟨u1, rfl, hu1⟩, rfl⟩ := q2
  show Go _ _ _ _ T2 (mkF m 15 #[.val (.int zl), .val (.int z0), .val (.int z1), .val (.int z2), .val (.int k), .val (.int u0), .unset, .unset, .unset, .unset, .unset, .unset, .unset, .unset, .unset, .unset, .unset, .unset, .unset, .unset, .unset, .unset, .unset] [(.int u1)])
  refine Go.istore S2 at_15 (Ls' := #[.val (.int zl), .val (.int z0), .val (.int z1), .val (.int z2), .val (.int k), .val (.int u0), .val (.int u1), .unset, .unset, .unset, .unset, .unset, .unset, .unset, .unset, .unset, .unset, .unset, .unset, .unset, .unset, .unset, .unset]) rfl (pc' := 17) rfl ?_
  refine Go.iloadN S2 at_17 rfl (pc' := 18) rfl ?_
  refine Go.invokestatic S2 (y := ⟨"com/example/markmint/markmint/core/store/FieldsHasNextPinLaw", "draw", "(I)C"⟩) (rm_draw hw z2 S2.ext) (wd0 hw) (wd1 hw) (wd2 hw) (wd3 hw) (by decide) at_18 rfl pd10 (argsL := [(.int z2)]) rfl rfl rfl (by decide) (W := 0) rfl (by decide) (by decide) (by decide) all0 (pc' := 21) rfl ?_
  intro v3 T3 h3 L3 S3 K3 q3
  obtain ⟨⟨u2, rfl, hu2⟩, rfl⟩ := q3
  show Go _ _ _ _ T3 (mkF m 21 #[.val (.int zl), .val (.int z0), .val (.int z1), .val (.int z2), .val (.int k), .val (.int u0), .val (.int u1), .unset, .unset, .unset, .unset, .unset, .unset, .unset, .unset, .unset, .unset, .unset, .unset, .unset, .unset, .unset, .unset] [(.int u2)])
  refine Go.istore S3 at_21 (Ls' := #[.val (.int zl), .val (.int z0), .val (.int z1), .val (.int z2), .val (.int k), .val (.int u0), .val (.int u1), .val (.int u2), .unset, .unset, .unset, .unset, .unset, .unset, .unset, .unset, .unset, .unset, .unset, .unset, .unset, .unset, .unset]) rfl (pc' := 23) rfl ?_
  refine Go.iconst S3 (v := 0) at_23 rfl (pc' := 24) rfl ?_
  refine Go.newarray S3 (ty := .char) (dv := (.int (0 : Int32))) rfl rfl (wd4 hw) at_24 (by decide) (cap := 0) (by decide) (by decide) (by decide) (by decide) (pc' := 26) rfl ?_
  intro T4 h4 a4 kA4 S4 E4 hg4 hz4 hk4 V4
  replace V4 : Arv Z h4 a4 kA4 .char (0 : Int32) [] (.int (0 : Int32)) := V4
  replace hn := Nat.le_trans hn E4.1
  refine Go.astore S4 at_26 rfl (Ls' := #[.val (.int zl), .val (.int z0), .val (.int z1), .val (.int z2), .val (.int k), .val (.int u0), .val (.int u1), .val (.int u2), .val (.ref a4), .unset, .unset, .unset, .unset, .unset, .unset, .unset, .unset, .unset, .unset, .unset, .unset, .unset, .unset]) rfl (pc' := 28) rfl ?_
  refine Go.iconst S4 (v := 1) at_28 rfl (pc' := 29) rfl ?_
  refine Go.newarray S4 (ty := .char) (dv := (.int (0 : Int32))) rfl rfl (wd4 hw) at_29 (by decide) (cap := 1) (by decide) (by decide) (by decide) (by decide) (pc' := 31) rfl ?_
  intro T5 h5 a5 kA5 S5 E5 hg5 hz5 hk5 V5
  replace V5 : Arv Z h5 a5 kA5 .char (1 : Int32) [(.int (0 : Int32))] (.int (0 : Int32)) := V5
  have n_a4_a5 : a4 ≠ a5 := Nat.ne_of_lt (Nat.lt_of_lt_of_le V4.lt (Nat.le_of_eq hg5))
  replace hn := Nat.le_trans hn E5.1
  replace V4 := V4.ext E5
  refine Go.dup S5 at_31 rfl (pc' := 32) rfl ?_
  refine Go.iconst S5 (v := 0) at_32 rfl (pc' := 33) rfl ?_
  refine Go.iload S5 at_33 rfl (pc' := 35) rfl ?_
  refine Go.castore S5 V5 (by decide) (i := 0) (by decide) (Nat.le_of_ble_eq_true rfl) hz5 (Or.inr hk5) at_35 (pc' := 36) rfl ?_
  intro T6 h6 L6 S6 W6 V6
  rw [show nar .char u0 = u0 from own_nc hu0] at V6
  replace V6 : Arv Z h6 a5 kA5 .char (1 : Int32) [(.int u0)] (.int (0 : Int32)) := V6
  replace hn := Nat.le_trans hn (Nat.le_of_eq W6.size.symm)
  replace V4 := V4.other W6 (n_a4_a5)
  refine Go.astore S6 at_36 rfl (Ls' := #[.val (.int zl), .val (.int z0), .val (.int z1), .val (.int z2), .val (.int k), .val (.int u0), .val (.int u1), .val (.int u2), .val (.ref a4), .val (.ref a5), .unset, .unset, .unset, .unset, .unset, .unset, .unset, .unset, .unset, .unset, .unset, .unset, .unset]) rfl (pc' := 38) rfl ?_
  refine Go.iconst S6 (v := 2) at_38 rfl (pc' := 39) rfl ?_
  refine Go.newarray S6 (ty := .char) (dv := (.int (0 : Int32))) rfl rfl (wd4 hw) at_39 (by decide) (cap := 2) (by decide) (by decide) (by decide) (by decide) (pc' := 41) rfl ?_
  intro T7 h7 a7 kA7 S7 E7 hg7 hz7 hk7 V7
  replace V7 : Arv Z h7 a7 kA7 .char (2 : Int32) [(.int (0 : Int32)), (.int (0 : Int32))] (.int (0 : Int32)) := V7
  have n_a4_a7 : a4 ≠ a7 := Nat.ne_of_lt (Nat.lt_of_lt_of_le V4.lt (Nat.le_of_eq hg7))
  have n_a5_a7 : a5 ≠ a7 := Nat.ne_of_lt (Nat.lt_of_lt_of_le V6.lt (Nat.le_of_eq hg7))
  replace hn := Nat.le_trans hn E7.1
  replace V4 := V4.ext E7
  replace V6 := V6.ext E7
  refine Go.dup S7 at_41 rfl (pc' := 42) rfl ?_
  refine Go.iconst S7 (v := 0) at_42 rfl (pc' := 43) rfl ?_
  refine Go.iload S7 at_43 rfl (pc' := 45) rfl ?_
  refine Go.castore S7 V7 (by decide) (i := 0) (by decide) (Nat.le_of_ble_eq_true rfl) hz7 (Or.inr hk7) at_45 (pc' := 46) rfl ?_
  intro T8 h8 L8 S8 W8 V8
  rw [show nar .char u0 = u0 from own_nc hu0] at V8
  replace V8 : Arv Z h8 a7 kA7 .char (2 : Int32) [(.int u0), (.int (0 : Int32))] (.int (0 : Int32)) := V8
  replace hn := Nat.le_trans hn (Nat.le_of_eq W8.size.symm)
  replace V4 := V4.other W8 (n_a4_a7)
  replace V6 := V6.other W8 (n_a5_a7)
  refine Go.dup S8 at_46 rfl (pc' := 47) rfl ?_
  refine Go.iconst S8 (v := 1) at_47 rfl (pc' := 48) rfl ?_
  refine Go.iload S8 at_48 rfl (pc' := 50) rfl ?_
  refine Go.castore S8 V8 (by decide) (i := 1) (by decide) (Nat.le_of_ble_eq_true rfl) hz7 (Or.inr hk7) at_50 (pc' := 51) rfl ?_
  intro T9 h9 L9 S9 W9 V9
  rw [show nar .char u1 = u1 from own_nc hu1] at V9
  replace V9 : Arv Z h9 a7 kA7 .char (2 : Int32) [(.int u0), (.int u1)] (.int (0 : Int32)) := V9
  replace hn := Nat.le_trans hn (Nat.le_of_eq W9.size.symm)
  replace V4 := V4.other W9 (n_a4_a7)
  replace V6 := V6.other W9 (n_a5_a7)
  refine Go.astore S9 at_51 rfl (Ls' := #[.val (.int zl), .val (.int z0), .val (.int z1), .val (.int z2), .val (.int k), .val (.int u0), .val (.int u1), .val (.int u2), .val (.ref a4), .val (.ref a5), .val (.ref a7), .unset, .unset, .unset, .unset, .unset, .unset, .unset, .unset, .unset, .unset, .unset, .unset]) rfl (pc' := 53) rfl ?_
  refine Go.iconst S9 (v := 3) at_53 rfl (pc' := 54) rfl ?_
  refine Go.newarray S9 (ty := .char) (dv := (.int (0 : Int32))) rfl rfl (wd4 hw) at_54 (by decide) (cap := 3) (by decide) (by decide) (by decide) (by decide) (pc' := 56) rfl ?_
  intro T10 h10 a10 kA10 S10 E10 hg10 hz10 hk10 V10
  replace V10 : Arv Z h10 a10 kA10 .char (3 : Int32) [(.int (0 : Int32)), (.int (0 : Int32)), (.int (0 : Int32))] (.int (0 : Int32)) := V10
  have n_a4_a10 : a4 ≠ a10 := Nat.ne_of_lt (Nat.lt_of_lt_of_le V4.lt (Nat.le_of_eq hg10))
  have n_a5_a10 : a5 ≠ a10 := Nat.ne_of_lt (Nat.lt_of_lt_of_le V6.lt (Nat.le_of_eq hg10))
  have n_a7_a10 : a7 ≠ a10 := Nat.ne_of_lt (Nat.lt_of_lt_of_le V9.lt (Nat.le_of_eq hg10))
  replace hn := Nat.le_trans hn E10.1
  replace V4 := V4.ext E10
  replace V6 := V6.ext E10
  replace V9 := V9.ext E10
  refine Go.dup S10 at_56 rfl (pc' := 57) rfl ?_
  refine Go.iconst S10 (v := 0) at_57 rfl (pc' := 58) rfl ?_
  refine Go.iload S10 at_58 rfl (pc' := 60) rfl ?_
  refine Go.castore S10 V10 (by decide) (i := 0) (by decide) (Nat.le_of_ble_eq_true rfl) hz10 (Or.inr hk10) at_60 (pc' := 61) rfl ?_
  intro T11 h11 L11 S11 W11 V11
  rw [show nar .char u0 = u0 from own_nc hu0] at V11
  replace V11 : Arv Z h11 a10 kA10 .char (3 : Int32) [(.int u0), (.int (0 : Int32)), (.int (0 : Int32))] (.int (0 : Int32)) := V11
  replace hn := Nat.le_trans hn (Nat.le_of_eq W11.size.symm)
  replace V4 := V4.other W11 (n_a4_a10)
  replace V6 := V6.other W11 (n_a5_a10)
  replace V9 := V9.other W11 (n_a7_a10)
  refine Go.dup S11 at_61 rfl (pc' := 62) rfl ?_
  refine Go.iconst S11 (v := 1) at_62 rfl (pc' := 63) rfl ?_
  refine Go.iload S11 at_63 rfl (pc' := 65) rfl ?_
  refine Go.castore S11 V11 (by decide) (i := 1) (by decide) (Nat.le_of_ble_eq_true rfl) hz10 (Or.inr hk10) at_65 (pc' := 66) rfl ?_
  intro T12 h12 L12 S12 W12 V12
  rw [show nar .char u1 = u1 from own_nc hu1] at V12
  replace V12 : Arv Z h12 a10 kA10 .char (3 : Int32) [(.int u0), (.int u1), (.int (0 : Int32))] (.int (0 : Int32)) := V12
  replace hn := Nat.le_trans hn (Nat.le_of_eq W12.size.symm)
  replace V4 := V4.other W12 (n_a4_a10)
  replace V6 := V6.other W12 (n_a5_a10)
  replace V9 := V9.other W12 (n_a7_a10)
  refine Go.dup S12 at_66 rfl (pc' := 67) rfl ?_
  refine Go.iconst S12 (v := 2) at_67 rfl (pc' := 68) rfl ?_
  refine Go.iload S12 at_68 rfl (pc' := 70) rfl ?_
  refine Go.castore S12 V12 (by decide) (i := 2) (by decide) (Nat.le_of_ble_eq_true rfl) hz10 (Or.inr hk10) at_70 (pc' := 71) rfl ?_
  intro T13 h13 L13 S13 W13 V13
  rw [show nar .char u2 = u2 from own_nc hu2] at V13
  replace V13 : Arv Z h13 a10 kA10 .char (3 : Int32) [(.int u0), (.int u1), (.int u2)] (.int (0 : Int32)) := V13
  replace hn := Nat.le_trans hn (Nat.le_of_eq W13.size.symm)
  replace V4 := V4.other W13 (n_a4_a10)
  replace V6 := V6.other W13 (n_a5_a10)
  replace V9 := V9.other W13 (n_a7_a10)
  refine Go.astore S13 at_71 rfl (Ls' := #[.val (.int zl), .val (.int z0), .val (.int z1), .val (.int z2), .val (.int k), .val (.int u0), .val (.int u1), .val (.int u2), .val (.ref a4), .val (.ref a5), .val (.ref a7), .val (.ref a10), .unset, .unset, .unset, .unset, .unset, .unset, .unset, .unset, .unset, .unset, .unset]) rfl (pc' := 73) rfl ?_
  refine Go.iload S13 at_73 rfl (pc' := 75) rfl ?_
  refine Go.if_ne S13 at_75 (pt := 83) (by decide) (pc' := 78) rfl ?_ ?_
  · intro c75
    refine Go.iload S13 at_83 rfl (pc' := 85) rfl ?_
    refine Go.iconst S13 (v := 1) at_85 rfl (pc' := 86) rfl ?_
    refine Go.icmp_ne S13 at_86 (pt := 94) (by decide) (pc' := 89) rfl ?_ ?_
    · intro c86
      refine Go.iload S13 at_94 rfl (pc' := 96) rfl ?_
      refine Go.iconst S13 (v := 2) at_96 rfl (pc' := 97) rfl ?_
      refine Go.icmp_ne S13 at_97 (pt := 105) (by decide) (pc' := 100) rfl ?_ ?_
      · intro c97
        have hk3 : k = 3 := own_m3 h_k c75 c86 c97
        subst hk3
        refine Go.aload S13 at_105 rfl rfl (pc' := 107) rfl ?_
        refine Go.astore S13 at_107 rfl (Ls' := #[.val (.int zl), .val (.int z0), .val (.int z1), .val (.int z2), .val (.int (3 : Int32)), .val (.int u0), .val (.int u1), .val (.int u2), .val (.ref a4), .val (.ref a5), .val (.ref a7), .val (.ref a10), .val (.ref a10), .unset, .unset, .unset, .unset, .unset, .unset, .unset, .unset, .unset, .unset]) rfl (pc' := 109) rfl ?_
        refine Go.new S13 (wd5 hw) (wd6 hw) (wd7 hw) at_109 (by decide) (by decide) (pc' := 112) rfl ?_
        intro T14 h14 a14 S14 E14 hg14 hz14 hk14 X14 D14
        have n_a4_a14 : a4 ≠ a14 := Nat.ne_of_lt (Nat.lt_of_lt_of_le V4.lt (Nat.le_of_eq hg14))
        have n_a5_a14 : a5 ≠ a14 := Nat.ne_of_lt (Nat.lt_of_lt_of_le V6.lt (Nat.le_of_eq hg14))
        have n_a7_a14 : a7 ≠ a14 := Nat.ne_of_lt (Nat.lt_of_lt_of_le V9.lt (Nat.le_of_eq hg14))
        have n_a10_a14 : a10 ≠ a14 := Nat.ne_of_lt (Nat.lt_of_lt_of_le V13.lt (Nat.le_of_eq hg14))
        replace hn := Nat.le_trans hn E14.1
        replace V4 := V4.ext E14
        replace V6 := V6.ext E14
        replace V9 := V9.ext E14
        replace V13 := V13.ext E14
        have F14_value : Fld Z h14 a14 "java/lang/String" "value" "[B" .null := D14 (Or.inr (wd20 hw)) (ty := (.array .byte)) (by decide)
        have F14_coder : Fld Z h14 a14 "java/lang/String" "coder" "B" (.int (0 : Int32)) := D14 (Or.inr (wd21 hw)) (ty := .byte) (by decide)
        refine Go.dup S14 at_112 rfl (pc' := 113) rfl ?_
        refine Go.aload S14 at_113 rfl rfl (pc' := 115) rfl ?_
        refine Go.invokespecial S14 (y := ⟨"java/lang/String", "<init>", "([C)V"⟩) (rm_sinit hw a14 a10 kA10 [u0, u1, u2] cs (by simp) (by simp) (fun z hz => by simp only [List.mem_cons, List.not_mem_nil, or_false] at hz; rcases hz with rfl | rfl | rfl <;> first | exact hu0.2 | exact hu1.2 | exact hu2.2) S14.ext hz14 X14 F14_value F14_coder n_a10_a14 V13 Cs Cn) rfl rfl (wd8 hw) (wd9 hw) (wd7 hw) (wd10 hw) (by decide) at_115 rfl pd22 (argsL := [(.ref a10)]) rfl rfl rfl (by decide) (W := 1) rfl (by decide) (by decide) (by decide) (allS (Or.inr hk14) all0) (pc' := 118) rfl ?_
        intro v15 T15 h15 L15 S15 K15 q15
        obtain ⟨rfl, ts, kb, A, ht⟩ := q15
        replace hn := Nat.le_trans hn K15.1
        replace V4 := V4.keep K15 (ninS n_a4_a14 nin0)
        replace V6 := V6.keep K15 (ninS n_a5_a14 nin0)
        replace V9 := V9.keep K15 (ninS n_a7_a14 nin0)
        replace V13 := V13.keep K15 (ninS n_a10_a14 nin0)
        replace X14 := X14.keep K15
        show Go _ _ _ _ T15 (mkF m 118 #[.val (.int zl), .val (.int z0), .val (.int z1), .val (.int z2), .val (.int (3 : Int32)), .val (.int u0), .val (.int u1), .val (.int u2), .val (.ref a4), .val (.ref a5), .val (.ref a7), .val (.ref a10), .val (.ref a10), .unset, .unset, .unset, .unset, .unset, .unset, .unset, .unset, .unset, .unset] [(.ref a14)])
        refine Go.astore S15 at_118 rfl (Ls' := #[.val (.int zl), .val (.int z0), .val (.int z1), .val (.int z2), .val (.int (3 : Int32)), .val (.int u0), .val (.int u1), .val (.int u2), .val (.ref a4), .val (.ref a5), .val (.ref a7), .val (.ref a10), .val (.ref a10), .val (.ref a14), .unset, .unset, .unset, .unset, .unset, .unset, .unset, .unset, .unset]) rfl (pc' := 120) rfl ?_
        refine Go.iconst S15 (v := 0) at_120 rfl (pc' := 121) rfl ?_
        refine Go.istore S15 at_121 (Ls' := #[.val (.int zl), .val (.int z0), .val (.int z1), .val (.int z2), .val (.int (3 : Int32)), .val (.int u0), .val (.int u1), .val (.int u2), .val (.ref a4), .val (.ref a5), .val (.ref a7), .val (.ref a10), .val (.ref a10), .val (.ref a14), .val (.int (0 : Int32)), .unset, .unset, .unset, .unset, .unset, .unset, .unset, .unset]) rfl (pc' := 123) rfl ?_
        refine Go.iload S15 at_123 rfl (pc' := 125) rfl ?_
        refine Go.if_le S15 at_125 (pt := 138) (by decide) (pc' := 128) rfl ?_ ?_
        · intro c125; exact absurd (by decide) c125
        · intro c125
          refine Go.iload S15 at_128 rfl (pc' := 130) rfl ?_
          refine Go.iload S15 at_130 rfl (pc' := 132) rfl ?_
          refine Go.invokestatic S15 (y := ⟨"com/example/markmint/markmint/core/store/FieldsHasNextPinLaw", "sp", "(C)I"⟩) (rm_sp hw u0 S15.ext) (wd112 hw) (wd113 hw) (wd2 hw) (wd114 hw) (by decide) at_132 rfl pd23 (argsL := [(.int u0)]) rfl rfl rfl (by decide) (W := 1) rfl (by decide) (by decide) (by decide) all0 (pc' := 135) rfl ?_
          intro v16 T16 h16 L16 S16 K16 q16
          obtain ⟨rfl, rfl⟩ := q16
          show Go _ _ _ _ T16 (mkF m 135 #[.val (.int zl), .val (.int z0), .val (.int z1), .val (.int z2), .val (.int (3 : Int32)), .val (.int u0), .val (.int u1), .val (.int u2), .val (.ref a4), .val (.ref a5), .val (.ref a7), .val (.ref a10), .val (.ref a10), .val (.ref a14), .val (.int (0 : Int32)), .unset, .unset, .unset, .unset, .unset, .unset, .unset, .unset] [(.int (own_s u0)), (.int (0 : Int32))])
          refine Go.iadd S16 at_135 (pc' := 136) rfl ?_
          refine Go.istore S16 at_136 (Ls' := #[.val (.int zl), .val (.int z0), .val (.int z1), .val (.int z2), .val (.int (3 : Int32)), .val (.int u0), .val (.int u1), .val (.int u2), .val (.ref a4), .val (.ref a5), .val (.ref a7), .val (.ref a10), .val (.ref a10), .val (.ref a14), .val (.int ((0 : Int32) + (own_s u0))), .unset, .unset, .unset, .unset, .unset, .unset, .unset, .unset]) rfl (pc' := 138) rfl ?_
          refine Go.iload S16 at_138 rfl (pc' := 140) rfl ?_
          refine Go.iconst S16 (v := 1) at_140 rfl (pc' := 141) rfl ?_
          refine Go.icmp_le S16 at_141 (pt := 154) (by decide) (pc' := 144) rfl ?_ ?_
          · intro c141; exact absurd (by decide) c141
          · intro c141
            refine Go.iload S16 at_144 rfl (pc' := 146) rfl ?_
            refine Go.iload S16 at_146 rfl (pc' := 148) rfl ?_
            refine Go.invokestatic S16 (y := ⟨"com/example/markmint/markmint/core/store/FieldsHasNextPinLaw", "sp", "(C)I"⟩) (rm_sp hw u1 S16.ext) (wd112 hw) (wd113 hw) (wd2 hw) (wd114 hw) (by decide) at_148 rfl pd23 (argsL := [(.int u1)]) rfl rfl rfl (by decide) (W := 1) rfl (by decide) (by decide) (by decide) all0 (pc' := 151) rfl ?_
            intro v17 T17 h17 L17 S17 K17 q17
            obtain ⟨rfl, rfl⟩ := q17
            show Go _ _ _ _ T17 (mkF m 151 #[.val (.int zl), .val (.int z0), .val (.int z1), .val (.int z2), .val (.int (3 : Int32)), .val (.int u0), .val (.int u1), .val (.int u2), .val (.ref a4), .val (.ref a5), .val (.ref a7), .val (.ref a10), .val (.ref a10), .val (.ref a14), .val (.int ((0 : Int32) + (own_s u0))), .unset, .unset, .unset, .unset, .unset, .unset, .unset, .unset] [(.int (own_s u1)), (.int ((0 : Int32) + (own_s u0)))])
            refine Go.iadd S17 at_151 (pc' := 152) rfl ?_
            refine Go.istore S17 at_152 (Ls' := #[.val (.int zl), .val (.int z0), .val (.int z1), .val (.int z2), .val (.int (3 : Int32)), .val (.int u0), .val (.int u1), .val (.int u2), .val (.ref a4), .val (.ref a5), .val (.ref a7), .val (.ref a10), .val (.ref a10), .val (.ref a14), .val (.int (((0 : Int32) + (own_s u0)) + (own_s u1))), .unset, .unset, .unset, .unset, .unset, .unset, .unset, .unset]) rfl (pc' := 154) rfl ?_
            refine Go.iload S17 at_154 rfl (pc' := 156) rfl ?_
            refine Go.iconst S17 (v := 2) at_156 rfl (pc' := 157) rfl ?_
            refine Go.icmp_le S17 at_157 (pt := 170) (by decide) (pc' := 160) rfl ?_ ?_
            · intro c157; exact absurd (by decide) c157
            · intro c157
              refine Go.iload S17 at_160 rfl (pc' := 162) rfl ?_
              refine Go.iload S17 at_162 rfl (pc' := 164) rfl ?_
              refine Go.invokestatic S17 (y := ⟨"com/example/markmint/markmint/core/store/FieldsHasNextPinLaw", "sp", "(C)I"⟩) (rm_sp hw u2 S17.ext) (wd112 hw) (wd113 hw) (wd2 hw) (wd114 hw) (by decide) at_164 rfl pd23 (argsL := [(.int u2)]) rfl rfl rfl (by decide) (W := 1) rfl (by decide) (by decide) (by decide) all0 (pc' := 167) rfl ?_
              intro v18 T18 h18 L18 S18 K18 q18
              obtain ⟨rfl, rfl⟩ := q18
              show Go _ _ _ _ T18 (mkF m 167 #[.val (.int zl), .val (.int z0), .val (.int z1), .val (.int z2), .val (.int (3 : Int32)), .val (.int u0), .val (.int u1), .val (.int u2), .val (.ref a4), .val (.ref a5), .val (.ref a7), .val (.ref a10), .val (.ref a10), .val (.ref a14), .val (.int (((0 : Int32) + (own_s u0)) + (own_s u1))), .unset, .unset, .unset, .unset, .unset, .unset, .unset, .unset] [(.int (own_s u2)), (.int (((0 : Int32) + (own_s u0)) + (own_s u1)))])
              refine Go.iadd S18 at_167 (pc' := 168) rfl ?_
              refine Go.istore S18 at_168 (Ls' := #[.val (.int zl), .val (.int z0), .val (.int z1), .val (.int z2), .val (.int (3 : Int32)), .val (.int u0), .val (.int u1), .val (.int u2), .val (.ref a4), .val (.ref a5), .val (.ref a7), .val (.ref a10), .val (.ref a10), .val (.ref a14), .val (.int ((((0 : Int32) + (own_s u0)) + (own_s u1)) + (own_s u2))), .unset, .unset, .unset, .unset, .unset, .unset, .unset, .unset]) rfl (pc' := 170) rfl ?_
              exact own_tail hw (.val (.int zl)) (.val (.int z0)) (.val (.int z1)) (.val (.int z2)) (.val (.int (3 : Int32))) (.val (.int u0)) (.val (.int u1)) (.val (.int u2)) (.val (.ref a4)) (.val (.ref a5)) (.val (.ref a7)) (.val (.ref a10)) (.val (.ref a10)) a14 ts kb [u0, u1, u2] fw cs ((((0 : Int32) + (own_s u0)) + (own_s u1)) + (own_s u2)) (S18.more (by decide) (by decide)) N hn (by simp) (fun z hz => by simp only [List.mem_cons, List.not_mem_nil, or_false] at hz; rcases hz with rfl | rfl | rfl <;> first | exact hu0 | exact hu1 | exact hu2) A (Or.inr (Or.inl hvp)) Ff Fr Cs Cn hh1 hcw (by simp only [own_sp, own_s]; (repeat' split) <;> rfl)
      · intro c97
        subst c97
        refine Go.aload S13 at_100 rfl rfl (pc' := 102) rfl ?_
        refine Go.goto S13 at_102 (pc' := 107) (by decide) ?_
        refine Go.astore S13 at_107 rfl (Ls' := #[.val (.int zl), .val (.int z0), .val (.int z1), .val (.int z2), .val (.int (2 : Int32)), .val (.int u0), .val (.int u1), .val (.int u2), .val (.ref a4), .val (.ref a5), .val (.ref a7), .val (.ref a10), .val (.ref a7), .unset, .unset, .unset, .unset, .unset, .unset, .unset, .unset, .unset, .unset]) rfl (pc' := 109) rfl ?_
        refine Go.new S13 (wd5 hw) (wd6 hw) (wd7 hw) at_109 (by decide) (by decide) (pc' := 112) rfl ?_
        intro T19 h19 a19 S19 E19 hg19 hz19 hk19 X19 D19
        have n_a4_a19 : a4 ≠ a19 := Nat.ne_of_lt (Nat.lt_of_lt_of_le V4.lt (Nat.le_of_eq hg19))
        have n_a5_a19 : a5 ≠ a19 := Nat.ne_of_lt (Nat.lt_of_lt_of_le V6.lt (Nat.le_of_eq hg19))
        have n_a7_a19 : a7 ≠ a19 := Nat.ne_of_lt (Nat.lt_of_lt_of_le V9.lt (Nat.le_of_eq hg19))
        have n_a10_a19 : a10 ≠ a19 := Nat.ne_of_lt (Nat.lt_of_lt_of_le V13.lt (Nat.le_of_eq hg19))
        replace hn := Nat.le_trans hn E19.1
        replace V4 := V4.ext E19
        replace V6 := V6.ext E19
        replace V9 := V9.ext E19
        replace V13 := V13.ext E19
        have F19_value : Fld Z h19 a19 "java/lang/String" "value" "[B" .null := D19 (Or.inr (wd20 hw)) (ty := (.array .byte)) (by decide)
        have F19_coder : Fld Z h19 a19 "java/lang/String" "coder" "B" (.int (0 : Int32)) := D19 (Or.inr (wd21 hw)) (ty := .byte) (by decide)
        refine Go.dup S19 at_112 rfl (pc' := 113) rfl ?_
        refine Go.aload S19 at_113 rfl rfl (pc' := 115) rfl ?_
        refine Go.invokespecial S19 (y := ⟨"java/lang/String", "<init>", "([C)V"⟩) (rm_sinit hw a19 a7 kA7 [u0, u1] cs (by simp) (by simp) (fun z hz => by simp only [List.mem_cons, List.not_mem_nil, or_false] at hz; rcases hz with rfl | rfl <;> first | exact hu0.2 | exact hu1.2 | exact hu2.2) S19.ext hz19 X19 F19_value F19_coder n_a7_a19 V9 Cs Cn) rfl rfl (wd8 hw) (wd9 hw) (wd7 hw) (wd10 hw) (by decide) at_115 rfl pd22 (argsL := [(.ref a7)]) rfl rfl rfl (by decide) (W := 1) rfl (by decide) (by decide) (by decide) (allS (Or.inr hk19) all0) (pc' := 118) rfl ?_
        intro v20 T20 h20 L20 S20 K20 q20
        obtain ⟨rfl, ts, kb, A, ht⟩ := q20
        replace hn := Nat.le_trans hn K20.1
        replace V4 := V4.keep K20 (ninS n_a4_a19 nin0)
        replace V6 := V6.keep K20 (ninS n_a5_a19 nin0)
        replace V9 := V9.keep K20 (ninS n_a7_a19 nin0)
        replace V13 := V13.keep K20 (ninS n_a10_a19 nin0)
        replace X19 := X19.keep K20
        show Go _ _ _ _ T20 (mkF m 118 #[.val (.int zl), .val (.int z0), .val (.int z1), .val (.int z2), .val (.int (2 : Int32)), .val (.int u0), .val (.int u1), .val (.int u2), .val (.ref a4), .val (.ref a5), .val (.ref a7), .val (.ref a10), .val (.ref a7), .unset, .unset, .unset, .unset, .unset, .unset, .unset, .unset, .unset, .unset] [(.ref a19)])
        refine Go.astore S20 at_118 rfl (Ls' := #[.val (.int zl), .val (.int z0), .val (.int z1), .val (.int z2), .val (.int (2 : Int32)), .val (.int u0), .val (.int u1), .val (.int u2), .val (.ref a4), .val (.ref a5), .val (.ref a7), .val (.ref a10), .val (.ref a7), .val (.ref a19), .unset, .unset, .unset, .unset, .unset, .unset, .unset, .unset, .unset]) rfl (pc' := 120) rfl ?_
        refine Go.iconst S20 (v := 0) at_120 rfl (pc' := 121) rfl ?_
        refine Go.istore S20 at_121 (Ls' := #[.val (.int zl), .val (.int z0), .val (.int z1), .val (.int z2), .val (.int (2 : Int32)), .val (.int u0), .val (.int u1), .val (.int u2), .val (.ref a4), .val (.ref a5), .val (.ref a7), .val (.ref a10), .val (.ref a7), .val (.ref a19), .val (.int (0 : Int32)), .unset, .unset, .unset, .unset, .unset, .unset, .unset, .unset]) rfl (pc' := 123) rfl ?_
        refine Go.iload S20 at_123 rfl (pc' := 125) rfl ?_
        refine Go.if_le S20 at_125 (pt := 138) (by decide) (pc' := 128) rfl ?_ ?_
        · intro c125; exact absurd (by decide) c125
        · intro c125
          refine Go.iload S20 at_128 rfl (pc' := 130) rfl ?_
          refine Go.iload S20 at_130 rfl (pc' := 132) rfl ?_
          refine Go.invokestatic S20 (y := ⟨"com/example/markmint/markmint/core/store/FieldsHasNextPinLaw", "sp", "(C)I"⟩) (rm_sp hw u0 S20.ext) (wd112 hw) (wd113 hw) (wd2 hw) (wd114 hw) (by decide) at_132 rfl pd23 (argsL := [(.int u0)]) rfl rfl rfl (by decide) (W := 1) rfl (by decide) (by decide) (by decide) all0 (pc' := 135) rfl ?_
          intro v21 T21 h21 L21 S21 K21 q21
          obtain ⟨rfl, rfl⟩ := q21
          show Go _ _ _ _ T21 (mkF m 135 #[.val (.int zl), .val (.int z0), .val (.int z1), .val (.int z2), .val (.int (2 : Int32)), .val (.int u0), .val (.int u1), .val (.int u2), .val (.ref a4), .val (.ref a5), .val (.ref a7), .val (.ref a10), .val (.ref a7), .val (.ref a19), .val (.int (0 : Int32)), .unset, .unset, .unset, .unset, .unset, .unset, .unset, .unset] [(.int (own_s u0)), (.int (0 : Int32))])
          refine Go.iadd S21 at_135 (pc' := 136) rfl ?_
          refine Go.istore S21 at_136 (Ls' := #[.val (.int zl), .val (.int z0), .val (.int z1), .val (.int z2), .val (.int (2 : Int32)), .val (.int u0), .val (.int u1), .val (.int u2), .val (.ref a4), .val (.ref a5), .val (.ref a7), .val (.ref a10), .val (.ref a7), .val (.ref a19), .val (.int ((0 : Int32) + (own_s u0))), .unset, .unset, .unset, .unset, .unset, .unset, .unset, .unset]) rfl (pc' := 138) rfl ?_
          refine Go.iload S21 at_138 rfl (pc' := 140) rfl ?_
          refine Go.iconst S21 (v := 1) at_140 rfl (pc' := 141) rfl ?_
          refine Go.icmp_le S21 at_141 (pt := 154) (by decide) (pc' := 144) rfl ?_ ?_
          · intro c141; exact absurd (by decide) c141
          · intro c141
            refine Go.iload S21 at_144 rfl (pc' := 146) rfl ?_
            refine Go.iload S21 at_146 rfl (pc' := 148) rfl ?_
            refine Go.invokestatic S21 (y := ⟨"com/example/markmint/markmint/core/store/FieldsHasNextPinLaw", "sp", "(C)I"⟩) (rm_sp hw u1 S21.ext) (wd112 hw) (wd113 hw) (wd2 hw) (wd114 hw) (by decide) at_148 rfl pd23 (argsL := [(.int u1)]) rfl rfl rfl (by decide) (W := 1) rfl (by decide) (by decide) (by decide) all0 (pc' := 151) rfl ?_
            intro v22 T22 h22 L22 S22 K22 q22
            obtain ⟨rfl, rfl⟩ := q22
            show Go _ _ _ _ T22 (mkF m 151 #[.val (.int zl), .val (.int z0), .val (.int z1), .val (.int z2), .val (.int (2 : Int32)), .val (.int u0), .val (.int u1), .val (.int u2), .val (.ref a4), .val (.ref a5), .val (.ref a7), .val (.ref a10), .val (.ref a7), .val (.ref a19), .val (.int ((0 : Int32) + (own_s u0))), .unset, .unset, .unset, .unset, .unset, .unset, .unset, .unset] [(.int (own_s u1)), (.int ((0 : Int32) + (own_s u0)))])
            refine Go.iadd S22 at_151 (pc' := 152) rfl ?_
            refine Go.istore S22 at_152 (Ls' := #[.val (.int zl), .val (.int z0), .val (.int z1), .val (.int z2), .val (.int (2 : Int32)), .val (.int u0), .val (.int u1), .val (.int u2), .val (.ref a4), .val (.ref a5), .val (.ref a7), .val (.ref a10), .val (.ref a7), .val (.ref a19), .val (.int (((0 : Int32) + (own_s u0)) + (own_s u1))), .unset, .unset, .unset, .unset, .unset, .unset, .unset, .unset]) rfl (pc' := 154) rfl ?_
            refine Go.iload S22 at_154 rfl (pc' := 156) rfl ?_
            refine Go.iconst S22 (v := 2) at_156 rfl (pc' := 157) rfl ?_
            refine Go.icmp_le S22 at_157 (pt := 170) (by decide) (pc' := 160) rfl ?_ ?_
            · intro c157
              exact own_tail hw (.val (.int zl)) (.val (.int z0)) (.val (.int z1)) (.val (.int z2)) (.val (.int (2 : Int32))) (.val (.int u0)) (.val (.int u1)) (.val (.int u2)) (.val (.ref a4)) (.val (.ref a5)) (.val (.ref a7)) (.val (.ref a10)) (.val (.ref a7)) a19 ts kb [u0, u1] fw cs (((0 : Int32) + (own_s u0)) + (own_s u1)) (S22.more (by decide) (by decide)) N hn (by simp) (fun z hz => by simp only [List.mem_cons, List.not_mem_nil, or_false] at hz; rcases hz with rfl | rfl <;> first | exact hu0 | exact hu1 | exact hu2) A (Or.inr (Or.inl hvp)) Ff Fr Cs Cn hh1 hcw (by simp only [own_sp, own_s]; (repeat' split) <;> rfl)
            · intro c157; exact absurd c157 (by decide)
    · intro c86
      subst c86
      refine Go.aload S13 at_89 rfl rfl (pc' := 91) rfl ?_
      refine Go.goto S13 at_91 (pc' := 107) (by decide) ?_
      refine Go.astore S13 at_107 rfl (Ls' := #[.val (.int zl), .val (.int z0), .val (.int z1), .val (.int z2), .val (.int (1 : Int32)), .val (.int u0), .val (.int u1), .val (.int u2), .val (.ref a4), .val (.ref a5), .val (.ref a7), .val (.ref a10), .val (.ref a5), .unset, .unset, .unset, .unset, .unset, .unset, .unset, .unset, .unset, .unset]) rfl (pc' := 109) rfl ?_
      refine Go.new S13 (wd5 hw) (wd6 hw) (wd7 hw) at_109 (by decide) (by decide) (pc' := 112) rfl ?_
      intro T23 h23 a23 S23 E23 hg23 hz23 hk23 X23 D23
      have n_a4_a23 : a4 ≠ a23 := Nat.ne_of_lt (Nat.lt_of_lt_of_le V4.lt (Nat.le_of_eq hg23))
      have n_a5_a23 : a5 ≠ a23 := Nat.ne_of_lt (Nat.lt_of_lt_of_le V6.lt (Nat.le_of_eq hg23))
      have n_a7_a23 : a7 ≠ a23 := Nat.ne_of_lt (Nat.lt_of_lt_of_le V9.lt (Nat.le_of_eq hg23))
      have n_a10_a23 : a10 ≠ a23 := Nat.ne_of_lt (Nat.lt_of_lt_of_le V13.lt (Nat.le_of_eq hg23))
      replace hn := Nat.le_trans hn E23.1
      replace V4 := V4.ext E23
      replace V6 := V6.ext E23
      replace V9 := V9.ext E23
      replace V13 := V13.ext E23
      have F23_value : Fld Z h23 a23 "java/lang/String" "value" "[B" .null := D23 (Or.inr (wd20 hw)) (ty := (.array .byte)) (by decide)
      have F23_coder : Fld Z h23 a23 "java/lang/String" "coder" "B" (.int (0 : Int32)) := D23 (Or.inr (wd21 hw)) (ty := .byte) (by decide)
      refine Go.dup S23 at_112 rfl (pc' := 113) rfl ?_
      refine Go.aload S23 at_113 rfl rfl (pc' := 115) rfl ?_
      refine Go.invokespecial S23 (y := ⟨"java/lang/String", "<init>", "([C)V"⟩) (rm_sinit hw a23 a5 kA5 [u0] cs (by simp) (by simp) (fun z hz => by simp only [List.mem_cons, List.not_mem_nil, or_false] at hz; rcases hz with rfl <;> first | exact hu0.2 | exact hu1.2 | exact hu2.2) S23.ext hz23 X23 F23_value F23_coder n_a5_a23 V6 Cs Cn) rfl rfl (wd8 hw) (wd9 hw) (wd7 hw) (wd10 hw) (by decide) at_115 rfl pd22 (argsL := [(.ref a5)]) rfl rfl rfl (by decide) (W := 1) rfl (by decide) (by decide) (by decide) (allS (Or.inr hk23) all0) (pc' := 118) rfl ?_
      intro v24 T24 h24 L24 S24 K24 q24
      obtain ⟨rfl, ts, kb, A, ht⟩ := q24
      replace hn := Nat.le_trans hn K24.1
      replace V4 := V4.keep K24 (ninS n_a4_a23 nin0)
      replace V6 := V6.keep K24 (ninS n_a5_a23 nin0)
      replace V9 := V9.keep K24 (ninS n_a7_a23 nin0)
      replace V13 := V13.keep K24 (ninS n_a10_a23 nin0)
      replace X23 := X23.keep K24
      show Go _ _ _ _ T24 (mkF m 118 #[.val (.int zl), .val (.int z0), .val (.int z1), .val (.int z2), .val (.int (1 : Int32)), .val (.int u0), .val (.int u1), .val (.int u2), .val (.ref a4), .val (.ref a5), .val (.ref a7), .val (.ref a10), .val (.ref a5), .unset, .unset, .unset, .unset, .unset, .unset, .unset, .unset, .unset, .unset] [(.ref a23)])
      refine Go.astore S24 at_118 rfl (Ls' := #[.val (.int zl), .val (.int z0), .val (.int z1), .val (.int z2), .val (.int (1 : Int32)), .val (.int u0), .val (.int u1), .val (.int u2), .val (.ref a4), .val (.ref a5), .val (.ref a7), .val (.ref a10), .val (.ref a5), .val (.ref a23), .unset, .unset, .unset, .unset, .unset, .unset, .unset, .unset, .unset]) rfl (pc' := 120) rfl ?_
      refine Go.iconst S24 (v := 0) at_120 rfl (pc' := 121) rfl ?_
      refine Go.istore S24 at_121 (Ls' := #[.val (.int zl), .val (.int z0), .val (.int z1), .val (.int z2), .val (.int (1 : Int32)), .val (.int u0), .val (.int u1), .val (.int u2), .val (.ref a4), .val (.ref a5), .val (.ref a7), .val (.ref a10), .val (.ref a5), .val (.ref a23), .val (.int (0 : Int32)), .unset, .unset, .unset, .unset, .unset, .unset, .unset, .unset]) rfl (pc' := 123) rfl ?_
      refine Go.iload S24 at_123 rfl (pc' := 125) rfl ?_
      refine Go.if_le S24 at_125 (pt := 138) (by decide) (pc' := 128) rfl ?_ ?_
      · intro c125; exact absurd (by decide) c125
      · intro c125
        refine Go.iload S24 at_128 rfl (pc' := 130) rfl ?_
        refine Go.iload S24 at_130 rfl (pc' := 132) rfl ?_
        refine Go.invokestatic S24 (y := ⟨"com/example/markmint/markmint/core/store/FieldsHasNextPinLaw", "sp", "(C)I"⟩) (rm_sp hw u0 S24.ext) (wd112 hw) (wd113 hw) (wd2 hw) (wd114 hw) (by decide) at_132 rfl pd23 (argsL := [(.int u0)]) rfl rfl rfl (by decide) (W := 1) rfl (by decide) (by decide) (by decide) all0 (pc' := 135) rfl ?_
        intro v25 T25 h25 L25 S25 K25 q25
        obtain ⟨rfl, rfl⟩ := q25
        show Go _ _ _ _ T25 (mkF m 135 #[.val (.int zl), .val (.int z0), .val (.int z1), .val (.int z2), .val (.int (1 : Int32)), .val (.int u0), .val (.int u1), .val (.int u2), .val (.ref a4), .val (.ref a5), .val (.ref a7), .val (.ref a10), .val (.ref a5), .val (.ref a23), .val (.int (0 : Int32)), .unset, .unset, .unset, .unset, .unset, .unset, .unset, .unset] [(.int (own_s u0)), (.int (0 : Int32))])
        refine Go.iadd S25 at_135 (pc' := 136) rfl ?_
        refine Go.istore S25 at_136 (Ls' := #[.val (.int zl), .val (.int z0), .val (.int z1), .val (.int z2), .val (.int (1 : Int32)), .val (.int u0), .val (.int u1), .val (.int u2), .val (.ref a4), .val (.ref a5), .val (.ref a7), .val (.ref a10), .val (.ref a5), .val (.ref a23), .val (.int ((0 : Int32) + (own_s u0))), .unset, .unset, .unset, .unset, .unset, .unset, .unset, .unset]) rfl (pc' := 138) rfl ?_
        refine Go.iload S25 at_138 rfl (pc' := 140) rfl ?_
        refine Go.iconst S25 (v := 1) at_140 rfl (pc' := 141) rfl ?_
        refine Go.icmp_le S25 at_141 (pt := 154) (by decide) (pc' := 144) rfl ?_ ?_
        · intro c141
          refine Go.iload S25 at_154 rfl (pc' := 156) rfl ?_
          refine Go.iconst S25 (v := 2) at_156 rfl (pc' := 157) rfl ?_
          refine Go.icmp_le S25 at_157 (pt := 170) (by decide) (pc' := 160) rfl ?_ ?_
          · intro c157
            exact own_tail hw (.val (.int zl)) (.val (.int z0)) (.val (.int z1)) (.val (.int z2)) (.val (.int (1 : Int32))) (.val (.int u0)) (.val (.int u1)) (.val (.int u2)) (.val (.ref a4)) (.val (.ref a5)) (.val (.ref a7)) (.val (.ref a10)) (.val (.ref a5)) a23 ts kb [u0] fw cs ((0 : Int32) + (own_s u0)) (S25.more (by decide) (by decide)) N hn (by simp) (fun z hz => by simp only [List.mem_cons, List.not_mem_nil, or_false] at hz; rcases hz with rfl <;> first | exact hu0 | exact hu1 | exact hu2) A (Or.inr (Or.inl hvp)) Ff Fr Cs Cn hh1 hcw (by simp only [own_sp, own_s]; (repeat' split) <;> rfl)
          · intro c157; exact absurd c157 (by decide)
        · intro c141; exact absurd c141 (by decide)
  · intro c75
    subst c75
    refine Go.aload S13 at_78 rfl rfl (pc' := 80) rfl ?_
    refine Go.goto S13 at_80 (pc' := 107) (by decide) ?_
    refine Go.astore S13 at_107 rfl (Ls' := #[.val (.int zl), .val (.int z0), .val (.int z1), .val (.int z2), .val (.int (0 : Int32)), .val (.int u0), .val (.int u1), .val (.int u2), .val (.ref a4), .val (.ref a5), .val (.ref a7), .val (.ref a10), .val (.ref a4), .unset, .unset, .unset, .unset, .unset, .unset, .unset, .unset, .unset, .unset]) rfl (pc' := 109) rfl ?_
    refine Go.new S13 (wd5 hw) (wd6 hw) (wd7 hw) at_109 (by decide) (by decide) (pc' := 112) rfl ?_
    intro T26 h26 a26 S26 E26 hg26 hz26 hk26 X26 D26
    have n_a4_a26 : a4 ≠ a26 := Nat.ne_of_lt (Nat.lt_of_lt_of_le V4.lt (Nat.le_of_eq hg26))
    have n_a5_a26 : a5 ≠ a26 := Nat.ne_of_lt (Nat.lt_of_lt_of_le V6.lt (Nat.le_of_eq hg26))
    have n_a7_a26 : a7 ≠ a26 := Nat.ne_of_lt (Nat.lt_of_lt_of_le V9.lt (Nat.le_of_eq hg26))
    have n_a10_a26 : a10 ≠ a26 := Nat.ne_of_lt (Nat.lt_of_lt_of_le V13.lt (Nat.le_of_eq hg26))
    replace hn := Nat.le_trans hn E26.1
    replace V4 := V4.ext E26
    replace V6 := V6.ext E26
    replace V9 := V9.ext E26
    replace V13 := V13.ext E26
    have F26_value : Fld Z h26 a26 "java/lang/String" "value" "[B" .null := D26 (Or.inr (wd20 hw)) (ty := (.array .byte)) (by decide)
    have F26_coder : Fld Z h26 a26 "java/lang/String" "coder" "B" (.int (0 : Int32)) := D26 (Or.inr (wd21 hw)) (ty := .byte) (by decide)
    refine Go.dup S26 at_112 rfl (pc' := 113) rfl ?_
    refine Go.aload S26 at_113 rfl rfl (pc' := 115) rfl ?_
    refine Go.invokespecialW S26 (y := ⟨"java/lang/String", "<init>", "([C)V"⟩) (rm_sinitE hw a26 a4 kA4 S26.ext hz26 X26 F26_value F26_coder hh hcw V4) N hn (fun vm hv => IB.warm hvp hv) rfl rfl (wd8 hw) (wd9 hw) (wd7 hw) (wd10 hw) (by decide) at_115 rfl pd22 (argsL := [(.ref a4)]) rfl rfl rfl (by decide) (W := 1) rfl (by decide) (by decide) (by decide) (allS (Or.inr hk26) all0) (pc' := 118) rfl ?_
    intro v27 sb27 T27 h27 L27 S27 N27 K27 q27
    obtain ⟨rfl, ts, kb, A⟩ := q27
    replace V4 := V4.keep K27 (ninS n_a4_a26 nin0)
    replace V6 := V6.keep K27 (ninS n_a5_a26 nin0)
    replace V9 := V9.keep K27 (ninS n_a7_a26 nin0)
    replace V13 := V13.keep K27 (ninS n_a10_a26 nin0)
    replace X26 := X26.keep K27
    replace hn : h27.size ≤ h27.size := Nat.le_refl _
    show Go _ _ _ _ T27 (mkF m 118 #[.val (.int zl), .val (.int z0), .val (.int z1), .val (.int z2), .val (.int (0 : Int32)), .val (.int u0), .val (.int u1), .val (.int u2), .val (.ref a4), .val (.ref a5), .val (.ref a7), .val (.ref a10), .val (.ref a4), .unset, .unset, .unset, .unset, .unset, .unset, .unset, .unset, .unset, .unset] [(.ref a26)])
    refine Go.astore S27 at_118 rfl (Ls' := #[.val (.int zl), .val (.int z0), .val (.int z1), .val (.int z2), .val (.int (0 : Int32)), .val (.int u0), .val (.int u1), .val (.int u2), .val (.ref a4), .val (.ref a5), .val (.ref a7), .val (.ref a10), .val (.ref a4), .val (.ref a26), .unset, .unset, .unset, .unset, .unset, .unset, .unset, .unset, .unset]) rfl (pc' := 120) rfl ?_
    refine Go.iconst S27 (v := 0) at_120 rfl (pc' := 121) rfl ?_
    refine Go.istore S27 at_121 (Ls' := #[.val (.int zl), .val (.int z0), .val (.int z1), .val (.int z2), .val (.int (0 : Int32)), .val (.int u0), .val (.int u1), .val (.int u2), .val (.ref a4), .val (.ref a5), .val (.ref a7), .val (.ref a10), .val (.ref a4), .val (.ref a26), .val (.int (0 : Int32)), .unset, .unset, .unset, .unset, .unset, .unset, .unset, .unset]) rfl (pc' := 123) rfl ?_
    refine Go.iload S27 at_123 rfl (pc' := 125) rfl ?_
    refine Go.if_le S27 at_125 (pt := 138) (by decide) (pc' := 128) rfl ?_ ?_
    · intro c125
      refine Go.iload S27 at_138 rfl (pc' := 140) rfl ?_
      refine Go.iconst S27 (v := 1) at_140 rfl (pc' := 141) rfl ?_
      refine Go.icmp_le S27 at_141 (pt := 154) (by decide) (pc' := 144) rfl ?_ ?_
      · intro c141
        refine Go.iload S27 at_154 rfl (pc' := 156) rfl ?_
        refine Go.iconst S27 (v := 2) at_156 rfl (pc' := 157) rfl ?_
        refine Go.icmp_le S27 at_157 (pt := 170) (by decide) (pc' := 160) rfl ?_ ?_
        · intro c157
          exact own_tail hw (.val (.int zl)) (.val (.int z0)) (.val (.int z1)) (.val (.int z2)) (.val (.int (0 : Int32))) (.val (.int u0)) (.val (.int u1)) (.val (.int u2)) (.val (.ref a4)) (.val (.ref a5)) (.val (.ref a7)) (.val (.ref a10)) (.val (.ref a4)) a26 ts kb [] fw cs (0 : Int32) (S27.more (by decide) (by decide)) N27 hn (by simp) (fun z hz => absurd hz (by simp)) A (Or.inl rfl) Ff Fr Cs Cn hh1 hcw (by rfl)
        · intro c157; exact absurd c157 (by decide)
      · intro c141; exact absurd c141 (by decide)
    · intro c125; exact absurd c125 (by decide)
set_option maxRecDepth 65536 in
set_option maxHeartbeats 4000000 in
theorem comes_1 {Post : Tables → Env → Array Value → State → Outcome → State → Prop} (hpost : ∀ tb e args s v u, (limb_1_1.after args s (.returned v) u = true ∧ limb_1_2.after args s (.returned v) u = true ∧ True) → Jvm.Pilot.@@N@@.Jvm.D.FramedW s (.returned v) u (Jvm.fieldLocs frame_1_writes args s ++ Jvm.arrayLocs frame_1_arrays args s ++ Jvm.staticLocs frame_1_statics s) 40 2176 → Post tb e args s (.returned v) u) :
    ArmFor flags0 classFile x code maxLocals ret World_1 tables_1 room_1 Calls_1 rest_1 Pre_1 Post := by
  intro l hfl _ _ p e ha hc hk s m args below hf hA hF happ hP
  obtain ⟨hcalls, hrest, hpre⟩ := hP
  obtain ⟨-, -, -, hnamed, -, -, -, hat⟩ := (Spec.applies_iff hf).mp happ
  obtain ⟨hg, hn⟩ := and_e (Cond.before_iff.mp (show (Jvm.Cond.and given_1 narrow_1).before args s = true from hpre))
  obtain ⟨g1a, g1b⟩ := and_e hg
  obtain ⟨g2a, g2b⟩ := and_e g1b
  obtain ⟨g3a, g3b⟩ := and_e g2b
  obtain ⟨g4a, g4b⟩ := and_e g3b
  obtain ⟨w0, w1, w2, w3, rfl⟩ : ∃ w0 w1 w2 w3 : Value, args = #[w0, w1, w2, w3] := by
    have hs : args.size = 4 := by simpa [Cond.value, given_1] using g1a
    obtain ⟨L⟩ := args
    match L, hs with
    | [w0, w1, w2, w3], _ => exact ⟨w0, w1, w2, w3, rfl⟩
  have hw : HW s _ := fun d (hd : d ∈ tables_1) => atoms_spec (ws := Jvm.Cond.code x code maxLocals ret :: tables_1) hat d (List.mem_cons_of_mem _ hd)
  have hfit : Fit s := fun {y c} hc i hi => by
    obtain ⟨ha, rfl⟩ := Array.getElem?_eq_some_iff.mp hc
    have q := List.all_eq_true.mp ((Array.all_eq_true_iff_forall_mem.mp hF) _ (Array.getElem_mem ha)) i (List.mem_range.mpr hi)
    simpa [Array.getElem?_eq_getElem hi] using q
  obtain ⟨i0, ei0⟩ := is_v g2a
  obtain rfl : w0 = (.int i0) := Option.some.inj ei0
  obtain ⟨i1, ei1⟩ := is_v g3a
  obtain rfl : w1 = (.int i1) := Option.some.inj ei1
  obtain ⟨i2, ei2⟩ := is_v g4a
  obtain rfl : w2 = (.int i2) := Option.some.inj ei2
  obtain ⟨i3, ei3⟩ := is_v g4b
  obtain rfl : w3 = (.int i3) := Option.some.inj ei3
  obtain ⟨hsets, -⟩ := atoms_of _ (rest_1_c_eq ▸ (show rest_1_c.before _ s = true from hrest))
  obtain ⟨cs, evc⟩ := is_v (Cond.before_iff.mp (hsets _ (List.mem_of_getElem? (i := 1) rfl)))
  have Cs : Sta s s.heap "java/lang/String" "COMPACT_STRINGS" "Z" (.int cs) := Sta.start evc (Or.inl (hsets _ (List.mem_of_getElem? (i := 0) rfl)))
  have Cn : ¬ cs = 0 := fun q => by
    have z := not_v (Cond.before_iff.mp (hsets _ (List.mem_of_getElem? (i := 2) rfl)))
    have y := eq_i evc (Term.int_eval (0 : Int32)) (congrArg Value.int q)
    exact absurd (y.symm.trans z) (by decide)
  have hcw : Jvm.Lit.compactW.before _ s = true := hsets _ (List.mem_of_getElem? (i := 2) rfl)
  obtain ⟨fw, evf, Fr⟩ := isR_v (Cond.before_iff.mp (hsets _ (List.mem_of_getElem? (i := 8) rfl)))
  have Ff : Sta s s.heap "jdk/internal/util/Preconditions" "SIOOBE_FORMATTER" "Ljava/util/function/BiFunction;" fw := Sta.start evf (Or.inl (hsets _ (List.mem_of_getElem? (i := 7) rfl)))
  have hh : Jvm.Lit.constHeld s "java/lang/String" 7 := hcalls.1 ("java/lang/String", 7) (by simp [consts_1])
  have hh1 : Jvm.Lit.constHeld s "java/lang/StringLatin1" 151 := hcalls.1 ("java/lang/StringLatin1", 151) (by simp [consts_1])
  obtain ⟨n, o, h1, h2, h3, _, L, rfl, ⟨N, -, -, rfl⟩, hq⟩ := rm_code (l := l) hw i0 i1 i2 i3 fw cs (h0 := s.heap) ⟨Nat.le_refl _, fun _ _ q => q⟩ Ff Fr Cs Cn hh hcw hh1 tables_1 p e ha hc hk s m _ below hf ((Spec.applies_iff_loose hf).mp happ).1 ⟨rfl, State.Warmed39.refl s, rfl, IB.start⟩ trivial
  refine ⟨n, _, h1, h2, h3, hpost _ _ _ _ _ _ ⟨Cond.after_iff.mpr rfl, Cond.after_iff.mpr (eq_i res_at (Term.int_eval (1)) rfl), trivial⟩ ⟨hq.1, hq.2.1, hq.2.2.1, (hq.2.2.2.sift fun y hy => Or.inr (N y hy)).mono (by decide) (by decide)⟩⟩
theorem main_1_1 : Claimed_1_1 := comes_1 fun _ _ _ _ _ _ h hF => ⟨h.1, hF⟩
theorem main_1_2 : Claimed_1_2 := comes_1 fun _ _ _ _ _ _ h hF => ⟨h.2.1, hF⟩
end Jvm.Pilot.@@N@@
namespace Jvm.Pilot.@@N@@
open Jvm Jvm.ClassFile Sem Op Lib Jvm.Free Jvm.Stand Jvm.Pilot.@@N@@.Jvm.D
/-! MADE BY PROGRAM (witnessworld.py) out of the Statement's table words and the real class files: 21 classes; the members and pool entries that the words name. The judged class is class 1, her method 3. -/
namespace start1
open Jvm.ClassFile
def u (s : String) : CpInfo := .utf8 (stringToUtf16 s)
/-- a pool by its gaps: so many unusable entries, then the entry; so many at the end -/
def gap : Nat → List CpInfo → List CpInfo
  | 0, r => r
  | n + 1, r => .unusable :: gap n r
def poolList (es : List (Nat × CpInfo)) (last : Nat) : List CpInfo := es.foldr (fun e r => gap e.1 (e.2 :: r)) (gap last [])
def pool (es : List (Nat × CpInfo)) (last : Nat) : Array CpInfo := ⟨poolList es last⟩
def fileOf (pool : Array CpInfo) (this : Nat) (attrs : Array Attribute := #[]) (ms : Array MethodInfo := #[]) (fl : Nat := 33) (sup : Nat := 0) (ifs : Array Nat := #[]) (fds : Array FieldInfo := #[]) : ClassFile where
  minorVersion := 0
  majorVersion := 65
  constantPool := pool
  accessFlags := fl
  thisClass := this
  superClass := sup
  interfaces := ifs
  fields := fds
  methods := ms
  attributes := attrs
def plain (name : String) (sup : Option ClassId) : Class where
  name := name
  kind := .ordinary
  loader := none
  accessFlags := 33
  super := sup
  interfaces := #[]
  cf := none
  fields := #[]
  methods := #[]
  instanceTypes := #[]
  staticTypes := #[]
  resolved := #[]
  callSites := []
  init := .initialized
  statics := none
  mirror := none

def pool0 : Array CpInfo := pool [(5, u "<init>"), (0, u "()V"), (1, .class_ 10), (1, u "java/lang/Object")] 113

def k0c0 : Code := { maxStack := 0, maxLocals := 1, code := object_method_1_code, exceptionTable := #[], attributes := #[] }
def k0m0 : Method := { name := "<init>", desc := "()V", sig := { parameters := [], returnType := none }, accessFlags := 1, code := some k0c0 }
/-- java/lang/Object -/
def k0 : Class := { plain "java/lang/Object" none with
  accessFlags := 33
  interfaces := #[]
  cf := some (fileOf pool0 8 #[] #[{ accessFlags := 1, nameIndex := 5, descriptorIndex := 6, attributes := #[] }] 33 0 #[] #[])
  fields := #[]
  methods := #[k0m0]
  instanceTypes := #[]
  staticTypes := #[]
  resolved := Array.replicate 124 none
  statics := none }

def pool1 : Array CpInfo := pool [(2, .class_ 4), (1, u "java/lang/Object"), (0, u "<init>"), (0, u "()V"), (0, .methodref 8 9), (0, .class_ 10), (0, .nameAndType 11 12), (0, u "com/example/markmint/markmint/core/store/FieldsHasNextPinLaw"), (0, u "draw"), (0, u "(I)C"), (0, .class_ 14), (0, u "java/lang/String"), (0, .methodref 13 16), (0, .nameAndType 5 17), (0, u "([C)V"), (0, .methodref 8 19), (0, .nameAndType 20 21), (0, u "sp"), (0, u "(C)I"), (0, .class_ 23), (0, u "com/example/markmint/markmint/core/store/Fields"), (0, .methodref 22 25), (0, .nameAndType 5 26), (0, u "(Ljava/lang/CharSequence;)V"), (0, .methodref 22 28), (0, .nameAndType 29 30), (0, u "hasNext"), (0, u "()Z"), (0, .methodref 22 32), (0, .nameAndType 33 34), (0, u "next"), (0, u "()Ljava/lang/String;"), (3, u "law"), (0, u "(IIII)Z")] 4

def k1m0 : Method := { name := "<init>", desc := "()V", sig := { parameters := [], returnType := none }, accessFlags := 1, code := none }
def k1c1 : Code := { maxStack := 2, maxLocals := 1, code := method_2_code, exceptionTable := #[], attributes := #[] }
def k1m1 : Method := { name := "draw", desc := "(I)C", sig := { parameters := [.int], returnType := some .char }, accessFlags := 10, code := some k1c1 }
def k1c2 : Code := { maxStack := 2, maxLocals := 1, code := method_3_code, exceptionTable := #[], attributes := #[] }
def k1m2 : Method := { name := "sp", desc := "(C)I", sig := { parameters := [.char], returnType := some .int }, accessFlags := 10, code := some k1c2 }
def k1c3 : Code := { maxStack := 4, maxLocals := 23, code := code, exceptionTable := #[], attributes := #[] }
def k1m3 : Method := { name := "law", desc := "(IIII)Z", sig := { parameters := [.int, .int, .int, .int], returnType := some .boolean }, accessFlags := 9, code := some k1c3 }
/-- com/example/markmint/markmint/core/store/FieldsHasNextPinLaw -/
def k1 : Class := { plain "com/example/markmint/markmint/core/store/FieldsHasNextPinLaw" (some 0) with
  accessFlags := 49
  interfaces := #[]
  cf := some (fileOf pool1 8 #[] #[{ accessFlags := 1, nameIndex := 5, descriptorIndex := 6, attributes := #[] }, { accessFlags := 10, nameIndex := 11, descriptorIndex := 12, attributes := #[] }, { accessFlags := 10, nameIndex := 20, descriptorIndex := 21, attributes := #[] }, { accessFlags := 9, nameIndex := 38, descriptorIndex := 39, attributes := #[] }] 49 2 #[] #[])
  fields := #[]
  methods := #[k1m0, k1m1, k1m2, k1m3]
  instanceTypes := #[]
  staticTypes := #[]
  resolved := Array.replicate 44 none
  statics := none }

def pool2 : Array CpInfo := pool [(1, .class_ 2), (0, u "java/io/Serializable"), (0, .class_ 4), (0, u "java/lang/Object")] 2

/-- java/io/Serializable -/
def k2 : Class := { plain "java/io/Serializable" (some 0) with
  accessFlags := 1537
  interfaces := #[]
  cf := some (fileOf pool2 1 #[] #[] 1537 3 #[] #[])
  fields := #[]
  methods := #[]
  instanceTypes := #[]
  staticTypes := #[]
  resolved := Array.replicate 7 none
  statics := none }

def pool3 : Array CpInfo := pool [(1, .class_ 2), (0, u "java/lang/Comparable"), (0, .class_ 4), (0, u "java/lang/Object")] 7

/-- java/lang/Comparable -/
def k3 : Class := { plain "java/lang/Comparable" (some 0) with
  accessFlags := 1537
  interfaces := #[]
  cf := some (fileOf pool3 1 #[] #[] 1537 3 #[] #[])
  fields := #[]
  methods := #[]
  instanceTypes := #[]
  staticTypes := #[]
  resolved := Array.replicate 12 none
  statics := none }

def pool4 : Array CpInfo := pool [(2, .class_ 4), (1, u "java/lang/CharSequence"), (0, u "length"), (0, u "()I"), (38, u "charAt"), (0, u "(I)C"), (0, .class_ 48), (0, u "java/lang/CharSequence$1CodePointIterator"), (10, .class_ 60), (0, u "java/lang/CharSequence$1CharIterator"), (5, .class_ 67), (0, u "java/lang/Object"), (8, u "subSequence"), (0, u "(II)Ljava/lang/CharSequence;"), (0, u "toString"), (0, u "()Ljava/lang/String;")] 51

def k4m0 : Method := { name := "length", desc := "()I", sig := { parameters := [], returnType := some .int }, accessFlags := 1025, code := none }
def k4m1 : Method := { name := "charAt", desc := "(I)C", sig := { parameters := [.int], returnType := some .char }, accessFlags := 1025, code := none }
def k4m2 : Method := { name := "subSequence", desc := "(II)Ljava/lang/CharSequence;", sig := { parameters := [.int, .int], returnType := some (.object "java/lang/CharSequence") }, accessFlags := 1025, code := none }
def k4m3 : Method := { name := "toString", desc := "()Ljava/lang/String;", sig := { parameters := [], returnType := some (.object "java/lang/String") }, accessFlags := 1025, code := none }
/-- java/lang/CharSequence -/
def k4 : Class := { plain "java/lang/CharSequence" (some 0) with
  accessFlags := 1537
  interfaces := #[]
  cf := some (fileOf pool4 2 #[.nestMembers #[47, 59]] #[{ accessFlags := 1025, nameIndex := 5, descriptorIndex := 6, attributes := #[] }, { accessFlags := 1025, nameIndex := 45, descriptorIndex := 46, attributes := #[] }, { accessFlags := 1025, nameIndex := 76, descriptorIndex := 77, attributes := #[] }, { accessFlags := 1025, nameIndex := 78, descriptorIndex := 79, attributes := #[] }] 1537 66 #[] #[])
  fields := #[]
  methods := #[k4m0, k4m1, k4m2, k4m3]
  instanceTypes := #[]
  staticTypes := #[]
  resolved := Array.replicate 131 none
  statics := none }

def pool5 : Array CpInfo := pool [(1, .class_ 2), (0, u "java/lang/constant/Constable"), (0, .class_ 4), (0, u "java/lang/Object")] 6

/-- java/lang/constant/Constable -/
def k5 : Class := { plain "java/lang/constant/Constable" (some 0) with
  accessFlags := 1537
  interfaces := #[]
  cf := some (fileOf pool5 1 #[] #[] 1537 3 #[] #[])
  fields := #[]
  methods := #[]
  instanceTypes := #[]
  staticTypes := #[]
  resolved := Array.replicate 11 none
  statics := none }

def pool6 : Array CpInfo := pool [(1, .class_ 2), (0, u "java/lang/constant/ConstantDesc"), (0, .class_ 4), (0, u "java/lang/Object")] 32

/-- java/lang/constant/ConstantDesc -/
def k6 : Class := { plain "java/lang/constant/ConstantDesc" (some 0) with
  accessFlags := 1537
  interfaces := #[]
  cf := some (fileOf pool6 1 #[] #[] 1537 3 #[] #[])
  fields := #[]
  methods := #[]
  instanceTypes := #[]
  staticTypes := #[]
  resolved := Array.replicate 37 none
  statics := none }

def pool7 : Array CpInfo := pool [(1, .methodref 2 3), (0, .class_ 4), (0, .nameAndType 5 6), (0, u "java/lang/Object"), (0, u "<init>"), (0, u "()V"), (0, .string 8), (0, u ""), (0, .fieldref 10 11), (0, .class_ 12), (0, .nameAndType 13 14), (0, u "java/lang/String"), (0, u "value"), (0, u "[B"), (0, .fieldref 10 16), (0, .nameAndType 17 18), (0, u "coder"), (0, u "B"), (2, u "hash"), (0, u "I"), (2, u "hashIsZero"), (0, u "Z"), (0, .methodref 10 28), (0, .nameAndType 5 29), (0, u "([CIILjava/lang/Void;)V"), (8, .fieldref 10 39), (0, .nameAndType 40 26), (0, u "COMPACT_STRINGS"), (1, .class_ 44), (1, u "java/lang/StringUTF16"), (0, u "compress"), (1, .methodref 42 48), (0, .nameAndType 49 50), (0, u "coderFromArrayLen"), (0, u "([BI)B"), (56, .class_ 109), (1, u "java/lang/StringLatin1"), (32, u "()Z"), (34, .methodref 42 178), (0, .nameAndType 45 179), (0, u "([CII)[B"), (31, u "([BB)V"), (122, u "()I"), (0, .methodref 10 336), (0, .nameAndType 17 337), (0, u "()B"), (25, u "([BI)C"), (27, u "(II)V"), (35, u "(I)C"), (35, u "toString"), (0, u "()Ljava/lang/String;"), (27, .methodref 10 493), (0, .nameAndType 494 142), (0, u "isLatin1"), (0, .methodref 107 496), (0, .nameAndType 497 363), (0, u "charAt"), (3, u "checkIndex"), (3, .methodref 10 506), (0, .nameAndType 507 334), (0, u "length"), (5, u "checkFromToIndex"), (7, .methodref 10 522), (0, .nameAndType 523 524), (0, u "checkBoundsBeginEnd"), (0, u "(III)V"), (50, .class_ 576), (0, u "java/lang/CharSequence"), (22, u "CASE_INSENSITIVE_ORDER"), (0, u "Ljava/util/Comparator;"), (80, .methodref 10 682), (0, .nameAndType 683 684), (0, u "substring"), (0, u "(II)Ljava/lang/String;"), (0, .methodref 107 686), (0, .nameAndType 687 688), (0, u "newString"), (0, u "([BII)Ljava/lang/String;"), (321, u "([C)V"), (42, .fieldref 1054 1055), (0, .class_ 1056), (0, .nameAndType 1057 1058), (0, u "jdk/internal/util/Preconditions"), (0, u "SIOOBE_FORMATTER"), (0, u "Ljava/util/function/BiFunction;"), (0, .methodref 1054 1060), (0, .nameAndType 501 1061), (0, u "(IILjava/util/function/BiFunction;)I"), (0, .methodref 1054 1063), (0, .nameAndType 513 1064), (0, u "(IIILjava/util/function/BiFunction;)I"), (36, u "serialPersistentFields"), (0, u "[Ljava/io/ObjectStreamField;"), (0, .class_ 1104), (0, u "java/lang/String$CaseInsensitiveComparator"), (1, .class_ 1107), (0, u "java/io/Serializable"), (0, .class_ 1109), (0, u "java/lang/Comparable"), (0, .class_ 1111), (0, u "java/lang/constant/Constable"), (0, .class_ 1113), (0, u "java/lang/constant/ConstantDesc"), (2, u "serialVersionUID"), (0, u "J"), (3, u "REPL"), (0, u "C"), (2, u "LATIN1"), (1, u "UTF16"), (157, u "subSequence"), (0, u "(II)Ljava/lang/CharSequence;")] 164

def k7m0 : Method := { name := "<init>", desc := "()V", sig := { parameters := [], returnType := none }, accessFlags := 1, code := none }
def k7c1 : Code := { maxStack := 5, maxLocals := 2, code := jdk_42_method_3_code, exceptionTable := #[], attributes := #[] }
def k7m1 : Method := { name := "<init>", desc := "([C)V", sig := { parameters := [(.array .char)], returnType := none }, accessFlags := 1, code := some k7c1 }
def k7c2 : Code := { maxStack := 2, maxLocals := 1, code := jdk_42_method_54_code, exceptionTable := #[], attributes := #[] }
def k7m2 : Method := { name := "length", desc := "()I", sig := { parameters := [], returnType := some .int }, accessFlags := 1, code := some k7c2 }
def k7c3 : Code := { maxStack := 2, maxLocals := 2, code := jdk_42_method_56_code, exceptionTable := #[], attributes := #[] }
def k7m3 : Method := { name := "charAt", desc := "(I)C", sig := { parameters := [.int], returnType := some .char }, accessFlags := 1, code := some k7c3 }
def k7c4 : Code := { maxStack := 3, maxLocals := 5, code := jdk_42_method_92_code, exceptionTable := #[], attributes := #[] }
def k7m4 : Method := { name := "substring", desc := "(II)Ljava/lang/String;", sig := { parameters := [.int, .int], returnType := some (.object "java/lang/String") }, accessFlags := 1, code := some k7c4 }
def k7c5 : Code := { maxStack := 3, maxLocals := 3, code := jdk_42_method_93_code, exceptionTable := #[], attributes := #[] }
def k7m5 : Method := { name := "subSequence", desc := "(II)Ljava/lang/CharSequence;", sig := { parameters := [.int, .int], returnType := some (.object "java/lang/CharSequence") }, accessFlags := 1, code := some k7c5 }
def k7c6 : Code := { maxStack := 1, maxLocals := 1, code := jdk_42_method_126_code, exceptionTable := #[], attributes := #[] }
def k7m6 : Method := { name := "toString", desc := "()Ljava/lang/String;", sig := { parameters := [], returnType := some (.object "java/lang/String") }, accessFlags := 1, code := some k7c6 }
def k7c7 : Code := { maxStack := 4, maxLocals := 6, code := jdk_42_method_149_code, exceptionTable := #[], attributes := #[] }
def k7m7 : Method := { name := "<init>", desc := "([CIILjava/lang/Void;)V", sig := { parameters := [(.array .char), .int, .int, (.object "java/lang/Void")], returnType := none }, accessFlags := 2, code := some k7c7 }
def k7c8 : Code := { maxStack := 2, maxLocals := 3, code := jdk_42_method_151_code, exceptionTable := #[], attributes := #[] }
def k7m8 : Method := { name := "<init>", desc := "([BB)V", sig := { parameters := [(.array .byte), .byte], returnType := none }, accessFlags := 0, code := some k7c8 }
def k7c9 : Code := { maxStack := 1, maxLocals := 1, code := jdk_42_method_152_code, exceptionTable := #[], attributes := #[] }
def k7m9 : Method := { name := "coder", desc := "()B", sig := { parameters := [], returnType := some .byte }, accessFlags := 0, code := some k7c9 }
def k7c10 : Code := { maxStack := 1, maxLocals := 1, code := jdk_42_method_154_code, exceptionTable := #[], attributes := #[] }
def k7m10 : Method := { name := "isLatin1", desc := "()Z", sig := { parameters := [], returnType := some .boolean }, accessFlags := 0, code := some k7c10 }
def k7c11 : Code := { maxStack := 3, maxLocals := 2, code := jdk_42_method_155_code, exceptionTable := #[], attributes := #[] }
def k7m11 : Method := { name := "checkIndex", desc := "(II)V", sig := { parameters := [.int, .int], returnType := none }, accessFlags := 8, code := some k7c11 }
def k7c12 : Code := { maxStack := 4, maxLocals := 3, code := jdk_42_method_158_code, exceptionTable := #[], attributes := #[] }
def k7m12 : Method := { name := "checkBoundsBeginEnd", desc := "(III)V", sig := { parameters := [.int, .int, .int], returnType := none }, accessFlags := 8, code := some k7c12 }
/-- java/lang/String -/
def k7 : Class := { plain "java/lang/String" (some 0) with
  accessFlags := 49
  interfaces := #[2, 3, 4, 5, 6]
  cf := some (fileOf pool7 10 #[.nestMembers #[1103]] #[{ accessFlags := 1, nameIndex := 5, descriptorIndex := 6, attributes := #[] }, { accessFlags := 1, nameIndex := 5, descriptorIndex := 1010, attributes := #[] }, { accessFlags := 1, nameIndex := 507, descriptorIndex := 334, attributes := #[] }, { accessFlags := 1, nameIndex := 497, descriptorIndex := 427, attributes := #[] }, { accessFlags := 1, nameIndex := 683, descriptorIndex := 684, attributes := #[] }, { accessFlags := 1, nameIndex := 1285, descriptorIndex := 1286, attributes := #[] }, { accessFlags := 1, nameIndex := 463, descriptorIndex := 464, attributes := #[] }, { accessFlags := 2, nameIndex := 5, descriptorIndex := 29, attributes := #[] }, { accessFlags := 0, nameIndex := 5, descriptorIndex := 211, attributes := #[] }, { accessFlags := 0, nameIndex := 17, descriptorIndex := 337, attributes := #[] }, { accessFlags := 0, nameIndex := 494, descriptorIndex := 142, attributes := #[] }, { accessFlags := 8, nameIndex := 501, descriptorIndex := 391, attributes := #[] }, { accessFlags := 8, nameIndex := 523, descriptorIndex := 524, attributes := #[] }] 49 2 #[1106, 1108, 575, 1110, 1112] #[{ accessFlags := 18, nameIndex := 13, descriptorIndex := 14, attributes := #[] }, { accessFlags := 18, nameIndex := 17, descriptorIndex := 18, attributes := #[] }, { accessFlags := 2, nameIndex := 21, descriptorIndex := 22, attributes := #[] }, { accessFlags := 2, nameIndex := 25, descriptorIndex := 26, attributes := #[] }, { accessFlags := 26, nameIndex := 1116, descriptorIndex := 1117, attributes := #[] }, { accessFlags := 24, nameIndex := 40, descriptorIndex := 26, attributes := #[] }, { accessFlags := 26, nameIndex := 1101, descriptorIndex := 1102, attributes := #[] }, { accessFlags := 26, nameIndex := 1121, descriptorIndex := 1122, attributes := #[] }, { accessFlags := 25, nameIndex := 599, descriptorIndex := 600, attributes := #[] }, { accessFlags := 24, nameIndex := 1125, descriptorIndex := 18, attributes := #[] }, { accessFlags := 24, nameIndex := 1127, descriptorIndex := 18, attributes := #[] }])
  fields := #[{ name := "value", type := (.array .byte), accessFlags := 18, slot := 0, constantValue := 0 }, { name := "coder", type := .byte, accessFlags := 18, slot := 1, constantValue := 0 }, { name := "hash", type := .int, accessFlags := 2, slot := 2, constantValue := 0 }, { name := "hashIsZero", type := .boolean, accessFlags := 2, slot := 3, constantValue := 0 }, { name := "serialVersionUID", type := .long, accessFlags := 26, slot := 0, constantValue := 0 }, { name := "COMPACT_STRINGS", type := .boolean, accessFlags := 24, slot := 1, constantValue := 0 }, { name := "serialPersistentFields", type := (.array (.object "java/io/ObjectStreamField")), accessFlags := 26, slot := 2, constantValue := 0 }, { name := "REPL", type := .char, accessFlags := 26, slot := 3, constantValue := 0 }, { name := "CASE_INSENSITIVE_ORDER", type := (.object "java/util/Comparator"), accessFlags := 25, slot := 4, constantValue := 0 }, { name := "LATIN1", type := .byte, accessFlags := 24, slot := 5, constantValue := 0 }, { name := "UTF16", type := .byte, accessFlags := 24, slot := 6, constantValue := 0 }]
  methods := #[k7m0, k7m1, k7m2, k7m3, k7m4, k7m5, k7m6, k7m7, k7m8, k7m9, k7m10, k7m11, k7m12]
  instanceTypes := #[(.array .byte), .byte, .int, .boolean]
  staticTypes := #[.long, .boolean, (.array (.object "java/io/ObjectStreamField")), .char, (.object "java/util/Comparator"), .byte, .byte]
  resolved := Array.replicate 1451 none
  statics := some 0 }

def pool8 : Array CpInfo := pool [(1, .methodref 2 3), (0, .class_ 4), (0, .nameAndType 5 6), (0, u "java/lang/Object"), (0, u "<init>"), (0, u "()V"), (0, .fieldref 8 9), (0, .class_ 10), (0, .nameAndType 11 12), (0, u "com/example/markmint/markmint/core/store/Fields"), (0, u "line"), (0, u "Ljava/lang/CharSequence;"), (0, .fieldref 8 14), (0, .nameAndType 15 16), (0, u "next"), (0, u "I"), (0, .methodref 8 18), (0, .nameAndType 19 20), (0, u "start"), (0, u "()I"), (0, .methodref 8 22), (0, .nameAndType 23 24), (0, u "end"), (0, u "(I)I"), (0, .interfaceMethodref 26 27), (0, .class_ 28), (0, .nameAndType 29 20), (0, u "java/lang/CharSequence"), (0, u "length"), (0, .interfaceMethodref 26 31), (0, .nameAndType 32 33), (0, u "subSequence"), (0, u "(II)Ljava/lang/CharSequence;"), (0, .interfaceMethodref 26 35), (0, .nameAndType 36 37), (0, u "toString"), (0, u "()Ljava/lang/String;"), (14, .interfaceMethodref 26 53), (0, .nameAndType 54 55), (0, u "charAt"), (0, u "(I)C"), (0, u "(Ljava/lang/CharSequence;)V"), (2, u "hasNext"), (0, u "()Z")] 20

def k8c0 : Code := { maxStack := 2, maxLocals := 2, code := prog_45_method_1_code, exceptionTable := #[], attributes := #[] }
def k8m0 : Method := { name := "<init>", desc := "(Ljava/lang/CharSequence;)V", sig := { parameters := [(.object "java/lang/CharSequence")], returnType := none }, accessFlags := 1, code := some k8c0 }
def k8c1 : Code := { maxStack := 1, maxLocals := 1, code := prog_45_method_2_code, exceptionTable := #[], attributes := #[] }
def k8m1 : Method := { name := "hasNext", desc := "()Z", sig := { parameters := [], returnType := some .boolean }, accessFlags := 1, code := some k8c1 }
def k8c2 : Code := { maxStack := 3, maxLocals := 3, code := prog_45_method_3_code, exceptionTable := #[], attributes := #[] }
def k8m2 : Method := { name := "next", desc := "()Ljava/lang/String;", sig := { parameters := [], returnType := some (.object "java/lang/String") }, accessFlags := 1, code := some k8c2 }
def k8c3 : Code := { maxStack := 3, maxLocals := 1, code := prog_45_method_5_code, exceptionTable := #[], attributes := #[] }
def k8m3 : Method := { name := "start", desc := "()I", sig := { parameters := [], returnType := some .int }, accessFlags := 2, code := some k8c3 }
def k8c4 : Code := { maxStack := 2, maxLocals := 3, code := prog_45_method_6_code, exceptionTable := #[], attributes := #[] }
def k8m4 : Method := { name := "end", desc := "(I)I", sig := { parameters := [.int], returnType := some .int }, accessFlags := 2, code := some k8c4 }
/-- com/example/markmint/markmint/core/store/Fields -/
def k8 : Class := { plain "com/example/markmint/markmint/core/store/Fields" (some 0) with
  accessFlags := 49
  interfaces := #[]
  cf := some (fileOf pool8 8 #[] #[{ accessFlags := 1, nameIndex := 5, descriptorIndex := 56, attributes := #[] }, { accessFlags := 1, nameIndex := 59, descriptorIndex := 60, attributes := #[] }, { accessFlags := 1, nameIndex := 15, descriptorIndex := 37, attributes := #[] }, { accessFlags := 2, nameIndex := 19, descriptorIndex := 20, attributes := #[] }, { accessFlags := 2, nameIndex := 23, descriptorIndex := 24, attributes := #[] }] 49 2 #[] #[{ accessFlags := 18, nameIndex := 11, descriptorIndex := 12, attributes := #[] }, { accessFlags := 2, nameIndex := 15, descriptorIndex := 16, attributes := #[] }])
  fields := #[{ name := "line", type := (.object "java/lang/CharSequence"), accessFlags := 18, slot := 0, constantValue := 0 }, { name := "next", type := .int, accessFlags := 2, slot := 1, constantValue := 0 }]
  methods := #[k8m0, k8m1, k8m2, k8m3, k8m4]
  instanceTypes := #[(.object "java/lang/CharSequence"), .int]
  staticTypes := #[]
  resolved := Array.replicate 81 none
  statics := none }

def pool9 : Array CpInfo := pool [(2, .class_ 4), (1, u "java/lang/Object"), (0, u "<init>"), (0, u "()V"), (17, .class_ 26), (1, u "jdk/internal/util/Preconditions"), (6, u "checkIndex"), (13, u "checkFromToIndex"), (7, .class_ 56), (0, u "jdk/internal/util/Preconditions$4"), (57, .class_ 115), (0, u "jdk/internal/util/Preconditions$1"), (7, u "SIOOBE_FORMATTER"), (0, u "Ljava/util/function/BiFunction;"), (0, .class_ 126), (0, u "jdk/internal/util/Preconditions$2"), (3, u "AIOOBE_FORMATTER"), (0, .class_ 132), (0, u "jdk/internal/util/Preconditions$3"), (3, u "IOOBE_FORMATTER"), (41, u "(IILjava/util/function/BiFunction;)I"), (4, u "(IIILjava/util/function/BiFunction;)I")] 10

def k9m0 : Method := { name := "<init>", desc := "()V", sig := { parameters := [], returnType := none }, accessFlags := 1, code := none }
def k9c1 : Code := { maxStack := 3, maxLocals := 3, code := jdk_41_method_11_code, exceptionTable := #[], attributes := #[] }
def k9m1 : Method := { name := "checkIndex", desc := "(IILjava/util/function/BiFunction;)I", sig := { parameters := [.int, .int, (.object "java/util/function/BiFunction")], returnType := some .int }, accessFlags := 9, code := some k9c1 }
def k9c2 : Code := { maxStack := 4, maxLocals := 4, code := jdk_41_method_12_code, exceptionTable := #[], attributes := #[] }
def k9m2 : Method := { name := "checkFromToIndex", desc := "(IIILjava/util/function/BiFunction;)I", sig := { parameters := [.int, .int, .int, (.object "java/util/function/BiFunction")], returnType := some .int }, accessFlags := 9, code := some k9c2 }
/-- jdk/internal/util/Preconditions -/
def k9 : Class := { plain "jdk/internal/util/Preconditions" (some 0) with
  accessFlags := 33
  interfaces := #[]
  cf := some (fileOf pool9 24 #[.nestMembers #[55, 131, 125, 114]] #[{ accessFlags := 1, nameIndex := 5, descriptorIndex := 6, attributes := #[] }, { accessFlags := 9, nameIndex := 33, descriptorIndex := 178, attributes := #[] }, { accessFlags := 9, nameIndex := 47, descriptorIndex := 183, attributes := #[] }] 33 2 #[] #[{ accessFlags := 25, nameIndex := 123, descriptorIndex := 124, attributes := #[] }, { accessFlags := 25, nameIndex := 130, descriptorIndex := 124, attributes := #[] }, { accessFlags := 25, nameIndex := 136, descriptorIndex := 124, attributes := #[] }])
  fields := #[{ name := "SIOOBE_FORMATTER", type := (.object "java/util/function/BiFunction"), accessFlags := 25, slot := 0, constantValue := 0 }, { name := "AIOOBE_FORMATTER", type := (.object "java/util/function/BiFunction"), accessFlags := 25, slot := 1, constantValue := 0 }, { name := "IOOBE_FORMATTER", type := (.object "java/util/function/BiFunction"), accessFlags := 25, slot := 2, constantValue := 0 }]
  methods := #[k9m0, k9m1, k9m2]
  instanceTypes := #[]
  staticTypes := #[(.object "java/util/function/BiFunction"), (.object "java/util/function/BiFunction"), (.object "java/util/function/BiFunction")]
  resolved := Array.replicate 194 none
  statics := some 1 }

def pool10 : Array CpInfo := pool [(6, .class_ 8), (1, u "java/lang/Object"), (0, u "<init>"), (0, u "()V"), (1, .class_ 14), (1, u "java/lang/StringUTF16"), (31, u "$assertionsDisabled"), (0, u "Z"), (13, u "HI_BYTE_SHIFT"), (0, u "I"), (2, u "LO_BYTE_SHIFT"), (49, .methodref 12 116), (0, .nameAndType 117 118), (0, u "compress"), (0, u "([CI[BII)I"), (3, u "([CII)[B"), (138, u "coderFromArrayLen"), (0, u "([BI)B"), (106, .class_ 371), (1, u "java/lang/StringUTF16$LinesSpliterator"), (58, u "MAX_LENGTH"), (196, .class_ 628), (0, u "java/lang/StringUTF16$CodePointsSpliterator"), (0, .class_ 630), (0, u "java/lang/StringUTF16$CharsSpliterator")] 4

def k10m0 : Method := { name := "<init>", desc := "()V", sig := { parameters := [], returnType := none }, accessFlags := 0, code := none }
def k10c1 : Code := { maxStack := 2, maxLocals := 2, code := jdk_52_method_15_code, exceptionTable := #[], attributes := #[] }
def k10m1 : Method := { name := "coderFromArrayLen", desc := "([BI)B", sig := { parameters := [(.array .byte), .int], returnType := some .byte }, accessFlags := 8, code := some k10c1 }
def k10c2 : Code := { maxStack := 5, maxLocals := 6, code := jdk_52_method_16_code, exceptionTable := #[], attributes := #[] }
def k10m2 : Method := { name := "compress", desc := "([CII)[B", sig := { parameters := [(.array .char), .int, .int], returnType := some (.array .byte) }, accessFlags := 9, code := some k10c2 }
def k10c3 : Code := { maxStack := 3, maxLocals := 7, code := jdk_52_method_21_code, exceptionTable := #[], attributes := #[] }
def k10m3 : Method := { name := "compress", desc := "([CI[BII)I", sig := { parameters := [(.array .char), .int, (.array .byte), .int, .int], returnType := some .int }, accessFlags := 9, code := some k10c3 }
/-- java/lang/StringUTF16 -/
def k10 : Class := { plain "java/lang/StringUTF16" (some 0) with
  accessFlags := 48
  interfaces := #[]
  cf := some (fileOf pool10 12 #[.nestMembers #[627, 629, 369]] #[{ accessFlags := 0, nameIndex := 9, descriptorIndex := 10, attributes := #[] }, { accessFlags := 8, nameIndex := 261, descriptorIndex := 262, attributes := #[] }, { accessFlags := 9, nameIndex := 117, descriptorIndex := 122, attributes := #[] }, { accessFlags := 9, nameIndex := 117, descriptorIndex := 118, attributes := #[] }] 48 6 #[] #[{ accessFlags := 26, nameIndex := 61, descriptorIndex := 62, attributes := #[] }, { accessFlags := 26, nameIndex := 65, descriptorIndex := 62, attributes := #[] }, { accessFlags := 24, nameIndex := 430, descriptorIndex := 62, attributes := #[] }, { accessFlags := 4120, nameIndex := 46, descriptorIndex := 47, attributes := #[] }])
  fields := #[{ name := "HI_BYTE_SHIFT", type := .int, accessFlags := 26, slot := 0, constantValue := 0 }, { name := "LO_BYTE_SHIFT", type := .int, accessFlags := 26, slot := 1, constantValue := 0 }, { name := "MAX_LENGTH", type := .int, accessFlags := 24, slot := 2, constantValue := 0 }, { name := "$assertionsDisabled", type := .boolean, accessFlags := 4120, slot := 3, constantValue := 0 }]
  methods := #[k10m0, k10m1, k10m2, k10m3]
  instanceTypes := #[]
  staticTypes := #[.int, .int, .int, .boolean]
  resolved := Array.replicate 635 none
  statics := none }

def pool11 : Array CpInfo := pool [(1, .class_ 2), (0, u "java/lang/String"), (1, .class_ 6), (1, u "java/lang/Object"), (0, u "<init>"), (0, u "()V"), (0, .methodref 1 10), (0, .nameAndType 11 12), (0, u "checkIndex"), (0, u "(II)V"), (1, .class_ 16), (1, u "java/lang/StringLatin1"), (36, u "([BI)C"), (58, .methodref 1 113), (0, .nameAndType 7 114), (0, u "([BB)V"), (6, u "$assertionsDisabled"), (0, u "Z"), (8, .class_ 133), (1, u "java/util/Arrays"), (17, .string 152), (0, u ""), (43, u "newString"), (0, u "([BII)Ljava/lang/String;"), (23, .class_ 223), (1, u "java/lang/StringLatin1$LinesSpliterator"), (8, .methodref 131 233), (0, .nameAndType 234 235), (0, u "copyOfRange"), (0, u "([BII)[B"), (16, u "charAt"), (137, .class_ 391), (0, u "java/lang/StringLatin1$CharsSpliterator")] 3

def k11m0 : Method := { name := "<init>", desc := "()V", sig := { parameters := [], returnType := none }, accessFlags := 0, code := none }
def k11c1 : Code := { maxStack := 2, maxLocals := 2, code := jdk_43_method_2_code, exceptionTable := #[], attributes := #[] }
def k11m1 : Method := { name := "charAt", desc := "([BI)C", sig := { parameters := [(.array .byte), .int], returnType := some .char }, accessFlags := 9, code := some k11c1 }
def k11c2 : Code := { maxStack := 6, maxLocals := 3, code := jdk_43_method_47_code, exceptionTable := #[], attributes := #[] }
def k11m2 : Method := { name := "newString", desc := "([BII)Ljava/lang/String;", sig := { parameters := [(.array .byte), .int, .int], returnType := some (.object "java/lang/String") }, accessFlags := 9, code := some k11c2 }
/-- java/lang/StringLatin1 -/
def k11 : Class := { plain "java/lang/StringLatin1" (some 0) with
  accessFlags := 48
  interfaces := #[]
  cf := some (fileOf pool11 14 #[.nestMembers #[390, 221]] #[{ accessFlags := 0, nameIndex := 7, descriptorIndex := 8, attributes := #[] }, { accessFlags := 9, nameIndex := 252, descriptorIndex := 53, attributes := #[] }, { accessFlags := 9, nameIndex := 196, descriptorIndex := 197, attributes := #[] }] 48 4 #[] #[{ accessFlags := 4120, nameIndex := 121, descriptorIndex := 122, attributes := #[] }])
  fields := #[{ name := "$assertionsDisabled", type := .boolean, accessFlags := 4120, slot := 0, constantValue := 0 }]
  methods := #[k11m0, k11m1, k11m2]
  instanceTypes := #[]
  staticTypes := #[.boolean]
  resolved := Array.replicate 395 none
  statics := none }

def pool12 : Array CpInfo := pool [(2, .class_ 4), (1, u "java/lang/Object"), (0, u "<init>"), (0, u "()V"), (7, .class_ 16), (1, u "java/util/Arrays"), (57, .class_ 76), (1, u "java/util/Arrays$NaturalOrder"), (36, .class_ 115), (1, u "java/util/Arrays$LegacyMergeSort"), (1, u "Z"), (21, u "copyOfRange"), (10, .methodref 151 152), (0, .class_ 153), (0, .nameAndType 154 155), (0, u "java/lang/System"), (0, u "arraycopy"), (0, u "(Ljava/lang/Object;ILjava/lang/Object;II)V"), (148, .methodref 305 306), (0, .class_ 307), (0, .nameAndType 308 309), (0, u "java/lang/Math"), (0, u "min"), (0, u "(II)I"), (29, .methodref 14 340), (0, .nameAndType 341 342), (0, u "copyOfRangeByte"), (0, u "([BII)[B"), (0, .methodref 14 344), (0, .nameAndType 345 346), (0, u "checkLength"), (0, u "(II)V"), (28, .class_ 376), (0, u "java/util/Arrays$ArrayList"), (68, u "$assertionsDisabled"), (269, u "MIN_ARRAY_SORT_GRAN"), (0, u "I"), (2, u "INSERTIONSORT_THRESHOLD"), (255, .class_ 976), (0, u "java/util/Arrays$ArrayItr")] 52

def k12m0 : Method := { name := "<init>", desc := "()V", sig := { parameters := [], returnType := none }, accessFlags := 2, code := none }
def k12c1 : Code := { maxStack := 4, maxLocals := 2, code := jdk_65_method_131_code, exceptionTable := #[], attributes := #[] }
def k12m1 : Method := { name := "checkLength", desc := "(II)V", sig := { parameters := [.int, .int], returnType := none }, accessFlags := 10, code := some k12c1 }
def k12c2 : Code := { maxStack := 3, maxLocals := 3, code := jdk_65_method_132_code, exceptionTable := #[], attributes := #[] }
def k12m2 : Method := { name := "copyOfRange", desc := "([BII)[B", sig := { parameters := [(.array .byte), .int, .int], returnType := some (.array .byte) }, accessFlags := 9, code := some k12c2 }
def k12c3 : Code := { maxStack := 6, maxLocals := 5, code := jdk_65_method_133_code, exceptionTable := #[], attributes := #[] }
def k12m3 : Method := { name := "copyOfRangeByte", desc := "([BII)[B", sig := { parameters := [(.array .byte), .int, .int], returnType := some (.array .byte) }, accessFlags := 10, code := some k12c3 }
/-- java/util/Arrays -/
def k12 : Class := { plain "java/util/Arrays" (some 0) with
  accessFlags := 49
  interfaces := #[]
  cf := some (fileOf pool12 14 #[.nestMembers #[975, 375, 113, 74]] #[{ accessFlags := 2, nameIndex := 5, descriptorIndex := 6, attributes := #[] }, { accessFlags := 10, nameIndex := 345, descriptorIndex := 346, attributes := #[] }, { accessFlags := 9, nameIndex := 139, descriptorIndex := 342, attributes := #[] }, { accessFlags := 10, nameIndex := 341, descriptorIndex := 342, attributes := #[] }] 49 2 #[] #[{ accessFlags := 26, nameIndex := 715, descriptorIndex := 716, attributes := #[] }, { accessFlags := 26, nameIndex := 719, descriptorIndex := 716, attributes := #[] }, { accessFlags := 4120, nameIndex := 445, descriptorIndex := 117, attributes := #[] }])
  fields := #[{ name := "MIN_ARRAY_SORT_GRAN", type := .int, accessFlags := 26, slot := 0, constantValue := 0 }, { name := "INSERTIONSORT_THRESHOLD", type := .int, accessFlags := 26, slot := 1, constantValue := 0 }, { name := "$assertionsDisabled", type := .boolean, accessFlags := 4120, slot := 2, constantValue := 0 }]
  methods := #[k12m0, k12m1, k12m2, k12m3]
  instanceTypes := #[]
  staticTypes := #[.int, .int, .boolean]
  resolved := Array.replicate 1029 none
  statics := none }

def pool13 : Array CpInfo := pool [(1, .class_ 2), (0, u "java/lang/Math"), (1, .class_ 6), (1, u "java/lang/Object"), (0, u "<init>"), (0, u "()V"), (89, .class_ 100), (1, u "java/lang/Math$RandomNumberGeneratorHolder"), (71, u "negativeZeroFloatBits"), (0, u "J"), (2, u "negativeZeroDoubleBits"), (24, u "min"), (43, u "$assertionsDisabled"), (0, u "Z"), (88, u "(II)I"), (2, u "twoToTheDoubleScaleDown"), (0, u "D"), (4, u "twoToTheDoubleScaleUp"), (9, u "E"), (3, u "PI"), (2, u "TAU"), (2, u "DEGREES_TO_RADIANS"), (0, u "RADIANS_TO_DEGREES")] 94

def k13m0 : Method := { name := "<init>", desc := "()V", sig := { parameters := [], returnType := none }, accessFlags := 2, code := none }
def k13c1 : Code := { maxStack := 2, maxLocals := 2, code := jdk_29_method_69_code, exceptionTable := #[], attributes := #[] }
def k13m1 : Method := { name := "min", desc := "(II)I", sig := { parameters := [.int, .int], returnType := some .int }, accessFlags := 9, code := some k13c1 }
/-- java/lang/Math -/
def k13 : Class := { plain "java/lang/Math" (some 0) with
  accessFlags := 49
  interfaces := #[]
  cf := some (fileOf pool13 1 #[.nestMembers #[98]] #[{ accessFlags := 2, nameIndex := 7, descriptorIndex := 8, attributes := #[] }, { accessFlags := 9, nameIndex := 201, descriptorIndex := 335, attributes := #[] }] 49 4 #[] #[{ accessFlags := 25, nameIndex := 354, descriptorIndex := 339, attributes := #[] }, { accessFlags := 25, nameIndex := 358, descriptorIndex := 339, attributes := #[] }, { accessFlags := 25, nameIndex := 361, descriptorIndex := 339, attributes := #[] }, { accessFlags := 26, nameIndex := 364, descriptorIndex := 339, attributes := #[] }, { accessFlags := 26, nameIndex := 365, descriptorIndex := 339, attributes := #[] }, { accessFlags := 26, nameIndex := 172, descriptorIndex := 173, attributes := #[] }, { accessFlags := 26, nameIndex := 176, descriptorIndex := 173, attributes := #[] }, { accessFlags := 8, nameIndex := 344, descriptorIndex := 339, attributes := #[] }, { accessFlags := 8, nameIndex := 338, descriptorIndex := 339, attributes := #[] }, { accessFlags := 4120, nameIndex := 245, descriptorIndex := 246, attributes := #[] }])
  fields := #[{ name := "E", type := .double, accessFlags := 25, slot := 0, constantValue := 0 }, { name := "PI", type := .double, accessFlags := 25, slot := 1, constantValue := 0 }, { name := "TAU", type := .double, accessFlags := 25, slot := 2, constantValue := 0 }, { name := "DEGREES_TO_RADIANS", type := .double, accessFlags := 26, slot := 3, constantValue := 0 }, { name := "RADIANS_TO_DEGREES", type := .double, accessFlags := 26, slot := 4, constantValue := 0 }, { name := "negativeZeroFloatBits", type := .long, accessFlags := 26, slot := 5, constantValue := 0 }, { name := "negativeZeroDoubleBits", type := .long, accessFlags := 26, slot := 6, constantValue := 0 }, { name := "twoToTheDoubleScaleUp", type := .double, accessFlags := 8, slot := 7, constantValue := 0 }, { name := "twoToTheDoubleScaleDown", type := .double, accessFlags := 8, slot := 8, constantValue := 0 }, { name := "$assertionsDisabled", type := .boolean, accessFlags := 4120, slot := 9, constantValue := 0 }]
  methods := #[k13m0, k13m1]
  instanceTypes := #[]
  staticTypes := #[.double, .double, .double, .double, .double, .long, .long, .double, .double, .boolean]
  resolved := Array.replicate 460 none
  statics := none }

def pool14 : Array CpInfo := pool [(2, .class_ 4), (1, u "java/lang/Object"), (0, u "<init>"), (0, u "()V"), (1, .class_ 10), (1, u "java/lang/System"), (0, u "allowSecurityManager"), (0, u "I"), (16, u "cons"), (0, u "Ljava/io/Console;"), (77, .class_ 110), (1, u "java/lang/System$CallersHolder"), (43, u "initialErrStream"), (0, u "Ljava/io/PrintStream;"), (19, u "security"), (0, u "Ljava/lang/SecurityManager;"), (31, .class_ 209), (0, u "java/lang/System$1"), (7, u "props"), (0, u "Ljava/util/Properties;"), (2, u "lineSeparator"), (0, u "Ljava/lang/String;"), (96, .class_ 321), (1, u "java/lang/System$LoggerFinder"), (5, .class_ 328), (0, u "java/lang/System$Logger"), (67, u "err"), (2, u "out"), (91, u "notSupportedJnuEncoding"), (15, u "in"), (17, u "initialIn"), (0, u "Ljava/io/InputStream;"), (35, u "bootLayer"), (0, u "Ljava/lang/ModuleLayer;"), (99, .class_ 664), (0, u "java/lang/System$2"), (9, u "NEVER"), (2, u "MAYBE"), (49, u "arraycopy"), (0, u "(Ljava/lang/Object;ILjava/lang/Object;II)V"), (72, .class_ 802), (0, u "java/lang/System$Logger$Level")] 31

def k14m0 : Method := { name := "<init>", desc := "()V", sig := { parameters := [], returnType := none }, accessFlags := 2, code := none }
def k14m1 : Method := { name := "arraycopy", desc := "(Ljava/lang/Object;ILjava/lang/Object;II)V", sig := { parameters := [(.object "java/lang/Object"), .int, (.object "java/lang/Object"), .int, .int], returnType := none }, accessFlags := 265, code := none }
/-- java/lang/System -/
def k14 : Class := { plain "java/lang/System" (some 0) with
  accessFlags := 49
  interfaces := #[]
  cf := some (fileOf pool14 8 #[.nestMembers #[319, 327, 801, 108, 663, 208]] #[{ accessFlags := 2, nameIndex := 5, descriptorIndex := 6, attributes := #[] }, { accessFlags := 265, nameIndex := 727, descriptorIndex := 728, attributes := #[] }] 49 2 #[] #[{ accessFlags := 25, nameIndex := 507, descriptorIndex := 526, attributes := #[] }, { accessFlags := 25, nameIndex := 399, descriptorIndex := 155, attributes := #[] }, { accessFlags := 25, nameIndex := 396, descriptorIndex := 155, attributes := #[] }, { accessFlags := 10, nameIndex := 525, descriptorIndex := 526, attributes := #[] }, { accessFlags := 26, nameIndex := 674, descriptorIndex := 12, attributes := #[] }, { accessFlags := 26, nameIndex := 677, descriptorIndex := 12, attributes := #[] }, { accessFlags := 10, nameIndex := 11, descriptorIndex := 12, attributes := #[] }, { accessFlags := 74, nameIndex := 175, descriptorIndex := 176, attributes := #[] }, { accessFlags := 10, nameIndex := 491, descriptorIndex := 222, attributes := #[] }, { accessFlags := 74, nameIndex := 29, descriptorIndex := 30, attributes := #[] }, { accessFlags := 74, nameIndex := 154, descriptorIndex := 155, attributes := #[] }, { accessFlags := 10, nameIndex := 217, descriptorIndex := 218, attributes := #[] }, { accessFlags := 10, nameIndex := 221, descriptorIndex := 222, attributes := #[] }, { accessFlags := 8, nameIndex := 562, descriptorIndex := 563, attributes := #[] }])
  fields := #[{ name := "in", type := (.object "java/io/InputStream"), accessFlags := 25, slot := 0, constantValue := 0 }, { name := "out", type := (.object "java/io/PrintStream"), accessFlags := 25, slot := 1, constantValue := 0 }, { name := "err", type := (.object "java/io/PrintStream"), accessFlags := 25, slot := 2, constantValue := 0 }, { name := "initialIn", type := (.object "java/io/InputStream"), accessFlags := 10, slot := 3, constantValue := 0 }, { name := "NEVER", type := .int, accessFlags := 26, slot := 4, constantValue := 0 }, { name := "MAYBE", type := .int, accessFlags := 26, slot := 5, constantValue := 0 }, { name := "allowSecurityManager", type := .int, accessFlags := 10, slot := 6, constantValue := 0 }, { name := "security", type := (.object "java/lang/SecurityManager"), accessFlags := 74, slot := 7, constantValue := 0 }, { name := "notSupportedJnuEncoding", type := (.object "java/lang/String"), accessFlags := 10, slot := 8, constantValue := 0 }, { name := "cons", type := (.object "java/io/Console"), accessFlags := 74, slot := 9, constantValue := 0 }, { name := "initialErrStream", type := (.object "java/io/PrintStream"), accessFlags := 74, slot := 10, constantValue := 0 }, { name := "props", type := (.object "java/util/Properties"), accessFlags := 10, slot := 11, constantValue := 0 }, { name := "lineSeparator", type := (.object "java/lang/String"), accessFlags := 10, slot := 12, constantValue := 0 }, { name := "bootLayer", type := (.object "java/lang/ModuleLayer"), accessFlags := 8, slot := 13, constantValue := 0 }]
  methods := #[k14m0, k14m1]
  instanceTypes := #[]
  staticTypes := #[(.object "java/io/InputStream"), (.object "java/io/PrintStream"), (.object "java/io/PrintStream"), (.object "java/io/InputStream"), .int, .int, .int, (.object "java/lang/SecurityManager"), (.object "java/lang/String"), (.object "java/io/Console"), (.object "java/io/PrintStream"), (.object "java/util/Properties"), (.object "java/lang/String"), (.object "java/lang/ModuleLayer")]
  resolved := Array.replicate 834 none
  statics := none }

def pool15 : Array CpInfo := pool [(9, u "<init>"), (6, .class_ 18), (1, u "java/lang/Object"), (0, u "()V"), (1, .class_ 23), (1, u "jdk/internal/util/ArraysSupport"), (0, u "LOG2_ARRAY_LONG_INDEX_SCALE"), (0, u "I"), (2, u "U"), (0, u "Ljdk/internal/misc/Unsafe;"), (8, u "BIG_ENDIAN"), (0, u "Z"), (8, u "LOG2_BYTE_BIT_SIZE"), (4, u "LOG2_ARRAY_INT_INDEX_SCALE"), (54, u "JLA"), (0, u "Ljdk/internal/access/JavaLangAccess;"), (11, u "LOG2_ARRAY_BOOLEAN_INDEX_SCALE"), (9, u "LOG2_ARRAY_BYTE_INDEX_SCALE"), (5, u "LOG2_ARRAY_CHAR_INDEX_SCALE"), (5, u "LOG2_ARRAY_SHORT_INDEX_SCALE"), (18, u "LOG2_ARRAY_FLOAT_INDEX_SCALE"), (24, u "LOG2_ARRAY_DOUBLE_INDEX_SCALE"), (89, u "T_BOOLEAN"), (2, u "T_CHAR"), (1, u "T_FLOAT"), (1, u "T_DOUBLE"), (1, u "T_BYTE"), (1, u "T_SHORT"), (1, u "T_INT"), (1, u "T_LONG"), (1, u "SOFT_MAX_ARRAY_LENGTH")] 83

def k15m0 : Method := { name := "<init>", desc := "()V", sig := { parameters := [], returnType := none }, accessFlags := 2, code := none }
/-- jdk/internal/util/ArraysSupport -/
def k15 : Class := { plain "jdk/internal/util/ArraysSupport" (some 0) with
  accessFlags := 33
  interfaces := #[]
  cf := some (fileOf pool15 21 #[] #[{ accessFlags := 2, nameIndex := 9, descriptorIndex := 19, attributes := #[] }] 33 16 #[] #[{ accessFlags := 24, nameIndex := 28, descriptorIndex := 29, attributes := #[] }, { accessFlags := 26, nameIndex := 38, descriptorIndex := 39, attributes := #[] }, { accessFlags := 25, nameIndex := 121, descriptorIndex := 25, attributes := #[] }, { accessFlags := 25, nameIndex := 131, descriptorIndex := 25, attributes := #[] }, { accessFlags := 25, nameIndex := 137, descriptorIndex := 25, attributes := #[] }, { accessFlags := 25, nameIndex := 143, descriptorIndex := 25, attributes := #[] }, { accessFlags := 25, nameIndex := 53, descriptorIndex := 25, attributes := #[] }, { accessFlags := 25, nameIndex := 24, descriptorIndex := 25, attributes := #[] }, { accessFlags := 25, nameIndex := 162, descriptorIndex := 25, attributes := #[] }, { accessFlags := 25, nameIndex := 187, descriptorIndex := 25, attributes := #[] }, { accessFlags := 26, nameIndex := 48, descriptorIndex := 25, attributes := #[] }, { accessFlags := 25, nameIndex := 277, descriptorIndex := 25, attributes := #[] }, { accessFlags := 25, nameIndex := 280, descriptorIndex := 25, attributes := #[] }, { accessFlags := 25, nameIndex := 282, descriptorIndex := 25, attributes := #[] }, { accessFlags := 25, nameIndex := 284, descriptorIndex := 25, attributes := #[] }, { accessFlags := 25, nameIndex := 286, descriptorIndex := 25, attributes := #[] }, { accessFlags := 25, nameIndex := 288, descriptorIndex := 25, attributes := #[] }, { accessFlags := 25, nameIndex := 290, descriptorIndex := 25, attributes := #[] }, { accessFlags := 25, nameIndex := 292, descriptorIndex := 25, attributes := #[] }, { accessFlags := 26, nameIndex := 108, descriptorIndex := 109, attributes := #[] }, { accessFlags := 25, nameIndex := 294, descriptorIndex := 25, attributes := #[] }])
  fields := #[{ name := "U", type := (.object "jdk/internal/misc/Unsafe"), accessFlags := 24, slot := 0, constantValue := 0 }, { name := "BIG_ENDIAN", type := .boolean, accessFlags := 26, slot := 1, constantValue := 0 }, { name := "LOG2_ARRAY_BOOLEAN_INDEX_SCALE", type := .int, accessFlags := 25, slot := 2, constantValue := 0 }, { name := "LOG2_ARRAY_BYTE_INDEX_SCALE", type := .int, accessFlags := 25, slot := 3, constantValue := 0 }, { name := "LOG2_ARRAY_CHAR_INDEX_SCALE", type := .int, accessFlags := 25, slot := 4, constantValue := 0 }, { name := "LOG2_ARRAY_SHORT_INDEX_SCALE", type := .int, accessFlags := 25, slot := 5, constantValue := 0 }, { name := "LOG2_ARRAY_INT_INDEX_SCALE", type := .int, accessFlags := 25, slot := 6, constantValue := 0 }, { name := "LOG2_ARRAY_LONG_INDEX_SCALE", type := .int, accessFlags := 25, slot := 7, constantValue := 0 }, { name := "LOG2_ARRAY_FLOAT_INDEX_SCALE", type := .int, accessFlags := 25, slot := 8, constantValue := 0 }, { name := "LOG2_ARRAY_DOUBLE_INDEX_SCALE", type := .int, accessFlags := 25, slot := 9, constantValue := 0 }, { name := "LOG2_BYTE_BIT_SIZE", type := .int, accessFlags := 26, slot := 10, constantValue := 0 }, { name := "T_BOOLEAN", type := .int, accessFlags := 25, slot := 11, constantValue := 0 }, { name := "T_CHAR", type := .int, accessFlags := 25, slot := 12, constantValue := 0 }, { name := "T_FLOAT", type := .int, accessFlags := 25, slot := 13, constantValue := 0 }, { name := "T_DOUBLE", type := .int, accessFlags := 25, slot := 14, constantValue := 0 }, { name := "T_BYTE", type := .int, accessFlags := 25, slot := 15, constantValue := 0 }, { name := "T_SHORT", type := .int, accessFlags := 25, slot := 16, constantValue := 0 }, { name := "T_INT", type := .int, accessFlags := 25, slot := 17, constantValue := 0 }, { name := "T_LONG", type := .int, accessFlags := 25, slot := 18, constantValue := 0 }, { name := "JLA", type := (.object "jdk/internal/access/JavaLangAccess"), accessFlags := 26, slot := 19, constantValue := 0 }, { name := "SOFT_MAX_ARRAY_LENGTH", type := .int, accessFlags := 25, slot := 20, constantValue := 0 }]
  methods := #[k15m0]
  instanceTypes := #[]
  staticTypes := #[(.object "jdk/internal/misc/Unsafe"), .boolean, .int, .int, .int, .int, .int, .int, .int, .int, .int, .int, .int, .int, .int, .int, .int, .int, .int, (.object "jdk/internal/access/JavaLangAccess"), .int]
  resolved := Array.replicate 378 none
  statics := none }

def pool16 : Array CpInfo := pool [(1, u "java/lang/Cloneable"), (0, .class_ 1), (0, u "java/lang/Object"), (0, .class_ 3)] 3

/-- java/lang/Cloneable -/
def k16 : Class := { plain "java/lang/Cloneable" (some 0) with
  accessFlags := 1537
  interfaces := #[]
  cf := some (fileOf pool16 2 #[] #[] 1537 4 #[] #[])
  fields := #[]
  methods := #[]
  instanceTypes := #[]
  staticTypes := #[]
  resolved := Array.replicate 8 none
  statics := none }

/-- the primitive byte -/
def k17 : Class := { plain "byte" none with kind := .primitive 'B', accessFlags := 0x411 }
/-- [B -/
def k18 : Class := { plain "[B" (some 0) with kind := .array 17 .byte, interfaces := #[16, 2], accessFlags := 1041 }

/-- the primitive char -/
def k19 : Class := { plain "char" none with kind := .primitive 'C', accessFlags := 0x411 }
/-- [C -/
def k20 : Class := { plain "[C" (some 0) with kind := .array 19 .char, interfaces := #[16, 2], accessFlags := 1041 }

def heap : Heap := #[{ cls := 7, slots := #[.long 0, .int 1, .null, .int 0, .null, .int 0, .int 0], vm := .statics 7 },
  { cls := 9, slots := #[.null, .null, .null], vm := .statics 9 }]
def classes : Array Class := #[k0, k1, k2, k3, k4, k5, k6, k7, k8, k9, k10, k11, k12, k13, k14, k15, k16, k17, k18, k19, k20]
def interned : List (Array UInt16 × Addr) := []
def slotsUsed : Nat := 10
def theMethod : MethodId := ⟨1, 3⟩
def args0 : Array Value := #[.int 1, .int 5, .int 7, .int 9]
def aboutOver (below : List Frame) : State where
  vm := { classes := classes, interned := interned.toArray }
  heap := heap
  slotsUsed := slotsUsed
  threads := #[{ frames := .invoking theMethod args0 :: below }]
def below0 : List Frame := [.native { method := ⟨0, 0⟩, args := #[] }]
def about1 : State := aboutOver below0
def p0 : Program := .bare "" "" ""
def e0 : Env := launch0.env 0 0 0
theorem w_frames : about1.frames = Frame.invoking theMethod args0 :: below0 := rfl
set_option maxRecDepth 65536 in
theorem w_args : argsFit about1.vm theMethod args0 = true := by decide +kernel
set_option maxRecDepth 65536 in
theorem w_heap : heapFits about1 = true := by decide +kernel
set_option maxRecDepth 65536 in
theorem w_runnable : about1.curStatus? = some .runnable := by decide +kernel
set_option maxRecDepth 65536 in
theorem w_alone : about1.alone = true := by decide +kernel
set_option maxRecDepth 65536 in
theorem w_named : about1.methodNamed? x = some theMethod := by decide +kernel
set_option maxRecDepth 65536 in
theorem w_hears : about1.hears theMethod below0 = true := by decide +kernel
set_option maxRecDepth 65536 in
theorem w_ripe : about1.ripe theMethod args0 below0 = true := by decide +kernel
theorem w_running : about1.status = .running := rfl
set_option maxRecDepth 65536 in
theorem w_room : about1.hasRoom e0.platform room_1 = true :=
  launch0.hasRoom_least _ room_1 (by decide +kernel) (by decide +kernel) (by decide +kernel) (by decide +kernel) (by decide +kernel) (by decide +kernel)
theorem allAtoms_all (ts : List Jvm.Cond) (a : Array Jvm.Value) (st : Jvm.State) : (allAtoms ts).before a st = ts.all (fun c => c.before a st) := by
  induction ts with
  | nil => rfl
  | cons c t ih =>
    show (Jvm.Cond.and c (allAtoms t)).before a st = _
    rw [Jvm.Cond.before_and, ih, List.all_cons]
def words1 : List Jvm.Cond := Jvm.Cond.code x code maxLocals ret :: tables_1
/-- a 'code' word, met by the world's own term for the bytes: nothing is compared byte by byte -/
theorem code_word {y : MethodName} {bytes : ByteArray} {mx : Nat} {rt : Option FieldType} {a : Array Value} {s : State} {m : MethodId} {meth : Method} {c : Code} (h1 : s.methodNamed? y = some m) (h2 : s.vm.method? m = some meth) (h3 : meth.code = some c) (h4 : c.code = bytes)
    (h5 : (c.maxLocals == mx && c.exceptionTable.isEmpty && decide (c.maxStack ≤ mostOperands) && decide (meth.sig.returnType = rt) && !meth.locks && decide (parseMethodDescriptor y.desc = some meth.sig)) = true) : (Jvm.Cond.code y bytes mx rt).before a s = true := by
  simp only [Bool.and_eq_true, beq_iff_eq, Bool.not_eq_true', decide_eq_true_eq] at h5
  obtain ⟨⟨⟨⟨⟨g1, g2⟩, g3⟩, g4⟩, g5⟩, g6⟩ := h5
  simp [Cond.before, Cond.holds, Cond.value, h1, h2, h3, h4, g1, g2, g3, g4, g5, g6]
def isCode : Jvm.Cond → Bool
  | .code _ _ _ _ => true
  | _ => false
theorem all_split {L : List Jvm.Cond} {P : Jvm.Cond → Bool} (h1 : L.all (fun c => isCode c || P c) = true) (h2 : ∀ c ∈ L.filter isCode, P c = true) : L.all P = true := by
  refine List.all_eq_true.mpr fun c hc => ?_
  have h := List.all_eq_true.mp h1 c hc
  rcases Bool.eq_false_or_eq_true (isCode c) with hi | hi
  · exact h2 c (List.mem_filter.mpr ⟨hc, hi⟩)
  · simpa [hi] using h
set_option maxRecDepth 65536 in
theorem w_c0 : (Jvm.Cond.code x code maxLocals ret).before args0 about1 = true := code_word (m := ⟨1, 3⟩) (meth := k1m3) (c := k1c3) (by decide +kernel) rfl rfl rfl (by decide +kernel)
set_option maxRecDepth 65536 in
theorem w_c1 : (Jvm.Cond.code ({ cls := "com/example/markmint/markmint/core/store/FieldsHasNextPinLaw", name := "draw", desc := "(I)C" } : Jvm.MethodName) method_2_code (1 : Nat) (Option.some Jvm.ClassFile.FieldType.char)).before args0 about1 = true := code_word (m := ⟨1, 1⟩) (meth := k1m1) (c := k1c1) (by decide +kernel) rfl rfl rfl (by decide +kernel)
set_option maxRecDepth 65536 in
theorem w_c2 : (Jvm.Cond.code ({ cls := "java/lang/String", name := "<init>", desc := "([C)V" } : Jvm.MethodName) jdk_42_method_3_code (2 : Nat) (Option.none : Option Jvm.ClassFile.FieldType)).before args0 about1 = true := code_word (m := ⟨7, 1⟩) (meth := k7m1) (c := k7c1) (by decide +kernel) rfl rfl rfl (by decide +kernel)
set_option maxRecDepth 65536 in
theorem w_c3 : (Jvm.Cond.code ({ cls := "java/lang/String", name := "<init>", desc := "([CIILjava/lang/Void;)V" } : Jvm.MethodName) jdk_42_method_149_code (6 : Nat) (Option.none : Option Jvm.ClassFile.FieldType)).before args0 about1 = true := code_word (m := ⟨7, 7⟩) (meth := k7m7) (c := k7c7) (by decide +kernel) rfl rfl rfl (by decide +kernel)
set_option maxRecDepth 65536 in
theorem w_c4 : (Jvm.Cond.code ({ cls := "java/lang/Object", name := "<init>", desc := "()V" } : Jvm.MethodName) object_method_1_code (1 : Nat) (Option.none : Option Jvm.ClassFile.FieldType)).before args0 about1 = true := code_word (m := ⟨0, 0⟩) (meth := k0m0) (c := k0c0) (by decide +kernel) rfl rfl rfl (by decide +kernel)
set_option maxRecDepth 65536 in
theorem w_c5 : (Jvm.Cond.code ({ cls := "com/example/markmint/markmint/core/store/Fields", name := "<init>", desc := "(Ljava/lang/CharSequence;)V" } : Jvm.MethodName) prog_45_method_1_code (2 : Nat) (Option.none : Option Jvm.ClassFile.FieldType)).before args0 about1 = true := code_word (m := ⟨8, 0⟩) (meth := k8m0) (c := k8c0) (by decide +kernel) rfl rfl rfl (by decide +kernel)
set_option maxRecDepth 65536 in
theorem w_c6 : (Jvm.Cond.code ({ cls := "com/example/markmint/markmint/core/store/Fields", name := "hasNext", desc := "()Z" } : Jvm.MethodName) prog_45_method_2_code (1 : Nat) (Option.some Jvm.ClassFile.FieldType.boolean)).before args0 about1 = true := code_word (m := ⟨8, 1⟩) (meth := k8m1) (c := k8c1) (by decide +kernel) rfl rfl rfl (by decide +kernel)
set_option maxRecDepth 65536 in
theorem w_c7 : (Jvm.Cond.code ({ cls := "com/example/markmint/markmint/core/store/Fields", name := "next", desc := "()Ljava/lang/String;" } : Jvm.MethodName) prog_45_method_3_code (3 : Nat) (Option.some (Jvm.ClassFile.FieldType.object "java/lang/String"))).before args0 about1 = true := code_word (m := ⟨8, 2⟩) (meth := k8m2) (c := k8c2) (by decide +kernel) rfl rfl rfl (by decide +kernel)
set_option maxRecDepth 65536 in
theorem w_c8 : (Jvm.Cond.code ({ cls := "com/example/markmint/markmint/core/store/Fields", name := "start", desc := "()I" } : Jvm.MethodName) prog_45_method_5_code (1 : Nat) (Option.some Jvm.ClassFile.FieldType.int)).before args0 about1 = true := code_word (m := ⟨8, 3⟩) (meth := k8m3) (c := k8c3) (by decide +kernel) rfl rfl rfl (by decide +kernel)
set_option maxRecDepth 65536 in
theorem w_c9 : (Jvm.Cond.code ({ cls := "com/example/markmint/markmint/core/store/Fields", name := "end", desc := "(I)I" } : Jvm.MethodName) prog_45_method_6_code (3 : Nat) (Option.some Jvm.ClassFile.FieldType.int)).before args0 about1 = true := code_word (m := ⟨8, 4⟩) (meth := k8m4) (c := k8c4) (by decide +kernel) rfl rfl rfl (by decide +kernel)
set_option maxRecDepth 65536 in
theorem w_c10 : (Jvm.Cond.code ({ cls := "java/lang/String", name := "length", desc := "()I" } : Jvm.MethodName) jdk_42_method_54_code (1 : Nat) (Option.some Jvm.ClassFile.FieldType.int)).before args0 about1 = true := code_word (m := ⟨7, 2⟩) (meth := k7m2) (c := k7c2) (by decide +kernel) rfl rfl rfl (by decide +kernel)
set_option maxRecDepth 65536 in
theorem w_c11 : (Jvm.Cond.code ({ cls := "java/lang/String", name := "coder", desc := "()B" } : Jvm.MethodName) jdk_42_method_152_code (1 : Nat) (Option.some Jvm.ClassFile.FieldType.byte)).before args0 about1 = true := code_word (m := ⟨7, 9⟩) (meth := k7m9) (c := k7c9) (by decide +kernel) rfl rfl rfl (by decide +kernel)
set_option maxRecDepth 65536 in
theorem w_c12 : (Jvm.Cond.code ({ cls := "java/lang/String", name := "subSequence", desc := "(II)Ljava/lang/CharSequence;" } : Jvm.MethodName) jdk_42_method_93_code (3 : Nat) (Option.some (Jvm.ClassFile.FieldType.object "java/lang/CharSequence"))).before args0 about1 = true := code_word (m := ⟨7, 5⟩) (meth := k7m5) (c := k7c5) (by decide +kernel) rfl rfl rfl (by decide +kernel)
set_option maxRecDepth 65536 in
theorem w_c13 : (Jvm.Cond.code ({ cls := "java/lang/String", name := "substring", desc := "(II)Ljava/lang/String;" } : Jvm.MethodName) jdk_42_method_92_code (5 : Nat) (Option.some (Jvm.ClassFile.FieldType.object "java/lang/String"))).before args0 about1 = true := code_word (m := ⟨7, 4⟩) (meth := k7m4) (c := k7c4) (by decide +kernel) rfl rfl rfl (by decide +kernel)
set_option maxRecDepth 65536 in
theorem w_c14 : (Jvm.Cond.code ({ cls := "java/lang/String", name := "checkBoundsBeginEnd", desc := "(III)V" } : Jvm.MethodName) jdk_42_method_158_code (3 : Nat) (Option.none : Option Jvm.ClassFile.FieldType)).before args0 about1 = true := code_word (m := ⟨7, 12⟩) (meth := k7m12) (c := k7c12) (by decide +kernel) rfl rfl rfl (by decide +kernel)
set_option maxRecDepth 65536 in
theorem w_c15 : (Jvm.Cond.code ({ cls := "jdk/internal/util/Preconditions", name := "checkFromToIndex", desc := "(IIILjava/util/function/BiFunction;)I" } : Jvm.MethodName) jdk_41_method_12_code (4 : Nat) (Option.some Jvm.ClassFile.FieldType.int)).before args0 about1 = true := code_word (m := ⟨9, 2⟩) (meth := k9m2) (c := k9c2) (by decide +kernel) rfl rfl rfl (by decide +kernel)
set_option maxRecDepth 65536 in
theorem w_c16 : (Jvm.Cond.code ({ cls := "java/lang/String", name := "toString", desc := "()Ljava/lang/String;" } : Jvm.MethodName) jdk_42_method_126_code (1 : Nat) (Option.some (Jvm.ClassFile.FieldType.object "java/lang/String"))).before args0 about1 = true := code_word (m := ⟨7, 6⟩) (meth := k7m6) (c := k7c6) (by decide +kernel) rfl rfl rfl (by decide +kernel)
set_option maxRecDepth 65536 in
theorem w_c17 : (Jvm.Cond.code ({ cls := "java/lang/StringUTF16", name := "compress", desc := "([CII)[B" } : Jvm.MethodName) jdk_52_method_16_code (6 : Nat) (Option.some (Jvm.ClassFile.FieldType.array Jvm.ClassFile.FieldType.byte))).before args0 about1 = true := code_word (m := ⟨10, 2⟩) (meth := k10m2) (c := k10c2) (by decide +kernel) rfl rfl rfl (by decide +kernel)
set_option maxRecDepth 65536 in
theorem w_c18 : (Jvm.Cond.code ({ cls := "java/lang/StringUTF16", name := "compress", desc := "([CI[BII)I" } : Jvm.MethodName) jdk_52_method_21_code (7 : Nat) (Option.some Jvm.ClassFile.FieldType.int)).before args0 about1 = true := code_word (m := ⟨10, 3⟩) (meth := k10m3) (c := k10c3) (by decide +kernel) rfl rfl rfl (by decide +kernel)
set_option maxRecDepth 65536 in
theorem w_c19 : (Jvm.Cond.code ({ cls := "java/lang/StringUTF16", name := "coderFromArrayLen", desc := "([BI)B" } : Jvm.MethodName) jdk_52_method_15_code (2 : Nat) (Option.some Jvm.ClassFile.FieldType.byte)).before args0 about1 = true := code_word (m := ⟨10, 1⟩) (meth := k10m1) (c := k10c1) (by decide +kernel) rfl rfl rfl (by decide +kernel)
set_option maxRecDepth 65536 in
theorem w_c20 : (Jvm.Cond.code ({ cls := "com/example/markmint/markmint/core/store/FieldsHasNextPinLaw", name := "sp", desc := "(C)I" } : Jvm.MethodName) method_3_code (1 : Nat) (Option.some Jvm.ClassFile.FieldType.int)).before args0 about1 = true := code_word (m := ⟨1, 2⟩) (meth := k1m2) (c := k1c2) (by decide +kernel) rfl rfl rfl (by decide +kernel)
set_option maxRecDepth 65536 in
theorem w_c21 : (Jvm.Cond.code ({ cls := "java/lang/String", name := "charAt", desc := "(I)C" } : Jvm.MethodName) jdk_42_method_56_code (2 : Nat) (Option.some Jvm.ClassFile.FieldType.char)).before args0 about1 = true := code_word (m := ⟨7, 3⟩) (meth := k7m3) (c := k7c3) (by decide +kernel) rfl rfl rfl (by decide +kernel)
set_option maxRecDepth 65536 in
theorem w_c22 : (Jvm.Cond.code ({ cls := "java/lang/String", name := "isLatin1", desc := "()Z" } : Jvm.MethodName) jdk_42_method_154_code (1 : Nat) (Option.some Jvm.ClassFile.FieldType.boolean)).before args0 about1 = true := code_word (m := ⟨7, 10⟩) (meth := k7m10) (c := k7c10) (by decide +kernel) rfl rfl rfl (by decide +kernel)
set_option maxRecDepth 65536 in
theorem w_c23 : (Jvm.Cond.code ({ cls := "java/lang/StringLatin1", name := "charAt", desc := "([BI)C" } : Jvm.MethodName) jdk_43_method_2_code (2 : Nat) (Option.some Jvm.ClassFile.FieldType.char)).before args0 about1 = true := code_word (m := ⟨11, 1⟩) (meth := k11m1) (c := k11c1) (by decide +kernel) rfl rfl rfl (by decide +kernel)
set_option maxRecDepth 65536 in
theorem w_c24 : (Jvm.Cond.code ({ cls := "java/lang/String", name := "checkIndex", desc := "(II)V" } : Jvm.MethodName) jdk_42_method_155_code (2 : Nat) (Option.none : Option Jvm.ClassFile.FieldType)).before args0 about1 = true := code_word (m := ⟨7, 11⟩) (meth := k7m11) (c := k7c11) (by decide +kernel) rfl rfl rfl (by decide +kernel)
set_option maxRecDepth 65536 in
theorem w_c25 : (Jvm.Cond.code ({ cls := "jdk/internal/util/Preconditions", name := "checkIndex", desc := "(IILjava/util/function/BiFunction;)I" } : Jvm.MethodName) jdk_41_method_11_code (3 : Nat) (Option.some Jvm.ClassFile.FieldType.int)).before args0 about1 = true := code_word (m := ⟨9, 1⟩) (meth := k9m1) (c := k9c1) (by decide +kernel) rfl rfl rfl (by decide +kernel)
set_option maxRecDepth 65536 in
theorem w_c26 : (Jvm.Cond.code ({ cls := "java/lang/StringLatin1", name := "newString", desc := "([BII)Ljava/lang/String;" } : Jvm.MethodName) jdk_43_method_47_code (3 : Nat) (Option.some (Jvm.ClassFile.FieldType.object "java/lang/String"))).before args0 about1 = true := code_word (m := ⟨11, 2⟩) (meth := k11m2) (c := k11c2) (by decide +kernel) rfl rfl rfl (by decide +kernel)
set_option maxRecDepth 65536 in
theorem w_c27 : (Jvm.Cond.code ({ cls := "java/util/Arrays", name := "copyOfRange", desc := "([BII)[B" } : Jvm.MethodName) jdk_65_method_132_code (3 : Nat) (Option.some (Jvm.ClassFile.FieldType.array Jvm.ClassFile.FieldType.byte))).before args0 about1 = true := code_word (m := ⟨12, 2⟩) (meth := k12m2) (c := k12c2) (by decide +kernel) rfl rfl rfl (by decide +kernel)
set_option maxRecDepth 65536 in
theorem w_c28 : (Jvm.Cond.code ({ cls := "java/util/Arrays", name := "copyOfRangeByte", desc := "([BII)[B" } : Jvm.MethodName) jdk_65_method_133_code (5 : Nat) (Option.some (Jvm.ClassFile.FieldType.array Jvm.ClassFile.FieldType.byte))).before args0 about1 = true := code_word (m := ⟨12, 3⟩) (meth := k12m3) (c := k12c3) (by decide +kernel) rfl rfl rfl (by decide +kernel)
set_option maxRecDepth 65536 in
theorem w_c29 : (Jvm.Cond.code ({ cls := "java/util/Arrays", name := "checkLength", desc := "(II)V" } : Jvm.MethodName) jdk_65_method_131_code (2 : Nat) (Option.none : Option Jvm.ClassFile.FieldType)).before args0 about1 = true := code_word (m := ⟨12, 1⟩) (meth := k12m1) (c := k12c1) (by decide +kernel) rfl rfl rfl (by decide +kernel)
set_option maxRecDepth 65536 in
theorem w_c30 : (Jvm.Cond.code ({ cls := "java/lang/Math", name := "min", desc := "(II)I" } : Jvm.MethodName) jdk_29_method_69_code (2 : Nat) (Option.some Jvm.ClassFile.FieldType.int)).before args0 about1 = true := code_word (m := ⟨13, 1⟩) (meth := k13m1) (c := k13c1) (by decide +kernel) rfl rfl rfl (by decide +kernel)
set_option maxRecDepth 65536 in
theorem w_c31 : (Jvm.Cond.code ({ cls := "java/lang/String", name := "<init>", desc := "([BB)V" } : Jvm.MethodName) jdk_42_method_151_code (3 : Nat) (Option.none : Option Jvm.ClassFile.FieldType)).before args0 about1 = true := code_word (m := ⟨7, 8⟩) (meth := k7m8) (c := k7c8) (by decide +kernel) rfl rfl rfl (by decide +kernel)
def codes1 : List Jvm.Cond := [Jvm.Cond.code x code maxLocals ret, Jvm.Cond.code ({ cls := "com/example/markmint/markmint/core/store/FieldsHasNextPinLaw", name := "draw", desc := "(I)C" } : Jvm.MethodName) method_2_code (1 : Nat) (Option.some Jvm.ClassFile.FieldType.char), Jvm.Cond.code ({ cls := "java/lang/String", name := "<init>", desc := "([C)V" } : Jvm.MethodName) jdk_42_method_3_code (2 : Nat) (Option.none : Option Jvm.ClassFile.FieldType), Jvm.Cond.code ({ cls := "java/lang/String", name := "<init>", desc := "([CIILjava/lang/Void;)V" } : Jvm.MethodName) jdk_42_method_149_code (6 : Nat) (Option.none : Option Jvm.ClassFile.FieldType), Jvm.Cond.code ({ cls := "java/lang/Object", name := "<init>", desc := "()V" } : Jvm.MethodName) object_method_1_code (1 : Nat) (Option.none : Option Jvm.ClassFile.FieldType), Jvm.Cond.code ({ cls := "com/example/markmint/markmint/core/store/Fields", name := "<init>", desc := "(Ljava/lang/CharSequence;)V" } : Jvm.MethodName) prog_45_method_1_code (2 : Nat) (Option.none : Option Jvm.ClassFile.FieldType), Jvm.Cond.code ({ cls := "com/example/markmint/markmint/core/store/Fields", name := "hasNext", desc := "()Z" } : Jvm.MethodName) prog_45_method_2_code (1 : Nat) (Option.some Jvm.ClassFile.FieldType.boolean), Jvm.Cond.code ({ cls := "com/example/markmint/markmint/core/store/Fields", name := "next", desc := "()Ljava/lang/String;" } : Jvm.MethodName) prog_45_method_3_code (3 : Nat) (Option.some (Jvm.ClassFile.FieldType.object "java/lang/String")), Jvm.Cond.code ({ cls := "com/example/markmint/markmint/core/store/Fields", name := "start", desc := "()I" } : Jvm.MethodName) prog_45_method_5_code (1 : Nat) (Option.some Jvm.ClassFile.FieldType.int), Jvm.Cond.code ({ cls := "com/example/markmint/markmint/core/store/Fields", name := "end", desc := "(I)I" } : Jvm.MethodName) prog_45_method_6_code (3 : Nat) (Option.some Jvm.ClassFile.FieldType.int), Jvm.Cond.code ({ cls := "java/lang/String", name := "length", desc := "()I" } : Jvm.MethodName) jdk_42_method_54_code (1 : Nat) (Option.some Jvm.ClassFile.FieldType.int), Jvm.Cond.code ({ cls := "java/lang/String", name := "coder", desc := "()B" } : Jvm.MethodName) jdk_42_method_152_code (1 : Nat) (Option.some Jvm.ClassFile.FieldType.byte), Jvm.Cond.code ({ cls := "java/lang/String", name := "subSequence", desc := "(II)Ljava/lang/CharSequence;" } : Jvm.MethodName) jdk_42_method_93_code (3 : Nat) (Option.some (Jvm.ClassFile.FieldType.object "java/lang/CharSequence")), Jvm.Cond.code ({ cls := "java/lang/String", name := "substring", desc := "(II)Ljava/lang/String;" } : Jvm.MethodName) jdk_42_method_92_code (5 : Nat) (Option.some (Jvm.ClassFile.FieldType.object "java/lang/String")), Jvm.Cond.code ({ cls := "java/lang/String", name := "checkBoundsBeginEnd", desc := "(III)V" } : Jvm.MethodName) jdk_42_method_158_code (3 : Nat) (Option.none : Option Jvm.ClassFile.FieldType), Jvm.Cond.code ({ cls := "jdk/internal/util/Preconditions", name := "checkFromToIndex", desc := "(IIILjava/util/function/BiFunction;)I" } : Jvm.MethodName) jdk_41_method_12_code (4 : Nat) (Option.some Jvm.ClassFile.FieldType.int), Jvm.Cond.code ({ cls := "java/lang/String", name := "toString", desc := "()Ljava/lang/String;" } : Jvm.MethodName) jdk_42_method_126_code (1 : Nat) (Option.some (Jvm.ClassFile.FieldType.object "java/lang/String")), Jvm.Cond.code ({ cls := "java/lang/StringUTF16", name := "compress", desc := "([CII)[B" } : Jvm.MethodName) jdk_52_method_16_code (6 : Nat) (Option.some (Jvm.ClassFile.FieldType.array Jvm.ClassFile.FieldType.byte)), Jvm.Cond.code ({ cls := "java/lang/StringUTF16", name := "compress", desc := "([CI[BII)I" } : Jvm.MethodName) jdk_52_method_21_code (7 : Nat) (Option.some Jvm.ClassFile.FieldType.int), Jvm.Cond.code ({ cls := "java/lang/StringUTF16", name := "coderFromArrayLen", desc := "([BI)B" } : Jvm.MethodName) jdk_52_method_15_code (2 : Nat) (Option.some Jvm.ClassFile.FieldType.byte), Jvm.Cond.code ({ cls := "com/example/markmint/markmint/core/store/FieldsHasNextPinLaw", name := "sp", desc := "(C)I" } : Jvm.MethodName) method_3_code (1 : Nat) (Option.some Jvm.ClassFile.FieldType.int), Jvm.Cond.code ({ cls := "java/lang/String", name := "charAt", desc := "(I)C" } : Jvm.MethodName) jdk_42_method_56_code (2 : Nat) (Option.some Jvm.ClassFile.FieldType.char), Jvm.Cond.code ({ cls := "java/lang/String", name := "isLatin1", desc := "()Z" } : Jvm.MethodName) jdk_42_method_154_code (1 : Nat) (Option.some Jvm.ClassFile.FieldType.boolean), Jvm.Cond.code ({ cls := "java/lang/StringLatin1", name := "charAt", desc := "([BI)C" } : Jvm.MethodName) jdk_43_method_2_code (2 : Nat) (Option.some Jvm.ClassFile.FieldType.char), Jvm.Cond.code ({ cls := "java/lang/String", name := "checkIndex", desc := "(II)V" } : Jvm.MethodName) jdk_42_method_155_code (2 : Nat) (Option.none : Option Jvm.ClassFile.FieldType), Jvm.Cond.code ({ cls := "jdk/internal/util/Preconditions", name := "checkIndex", desc := "(IILjava/util/function/BiFunction;)I" } : Jvm.MethodName) jdk_41_method_11_code (3 : Nat) (Option.some Jvm.ClassFile.FieldType.int), Jvm.Cond.code ({ cls := "java/lang/StringLatin1", name := "newString", desc := "([BII)Ljava/lang/String;" } : Jvm.MethodName) jdk_43_method_47_code (3 : Nat) (Option.some (Jvm.ClassFile.FieldType.object "java/lang/String")), Jvm.Cond.code ({ cls := "java/util/Arrays", name := "copyOfRange", desc := "([BII)[B" } : Jvm.MethodName) jdk_65_method_132_code (3 : Nat) (Option.some (Jvm.ClassFile.FieldType.array Jvm.ClassFile.FieldType.byte)), Jvm.Cond.code ({ cls := "java/util/Arrays", name := "copyOfRangeByte", desc := "([BII)[B" } : Jvm.MethodName) jdk_65_method_133_code (5 : Nat) (Option.some (Jvm.ClassFile.FieldType.array Jvm.ClassFile.FieldType.byte)), Jvm.Cond.code ({ cls := "java/util/Arrays", name := "checkLength", desc := "(II)V" } : Jvm.MethodName) jdk_65_method_131_code (2 : Nat) (Option.none : Option Jvm.ClassFile.FieldType), Jvm.Cond.code ({ cls := "java/lang/Math", name := "min", desc := "(II)I" } : Jvm.MethodName) jdk_29_method_69_code (2 : Nat) (Option.some Jvm.ClassFile.FieldType.int), Jvm.Cond.code ({ cls := "java/lang/String", name := "<init>", desc := "([BB)V" } : Jvm.MethodName) jdk_42_method_151_code (3 : Nat) (Option.none : Option Jvm.ClassFile.FieldType)]
set_option maxRecDepth 65536 in
theorem codes_eq : words1.filter isCode = codes1 := rfl
theorem w_codes : ∀ c ∈ words1.filter isCode, c.before args0 about1 = true := by
  rw [codes_eq]
  intro c hc
  simp only [codes1, List.mem_cons, List.not_mem_nil, or_false] at hc
  rcases hc with rfl | rfl | rfl | rfl | rfl | rfl | rfl | rfl | rfl | rfl | rfl | rfl | rfl | rfl | rfl | rfl | rfl | rfl | rfl | rfl | rfl | rfl | rfl | rfl | rfl | rfl | rfl | rfl | rfl | rfl | rfl | rfl
  · exact w_c0
  · exact w_c1
  · exact w_c2
  · exact w_c3
  · exact w_c4
  · exact w_c5
  · exact w_c6
  · exact w_c7
  · exact w_c8
  · exact w_c9
  · exact w_c10
  · exact w_c11
  · exact w_c12
  · exact w_c13
  · exact w_c14
  · exact w_c15
  · exact w_c16
  · exact w_c17
  · exact w_c18
  · exact w_c19
  · exact w_c20
  · exact w_c21
  · exact w_c22
  · exact w_c23
  · exact w_c24
  · exact w_c25
  · exact w_c26
  · exact w_c27
  · exact w_c28
  · exact w_c29
  · exact w_c30
  · exact w_c31
set_option maxRecDepth 65536 in
theorem w_t1 : (words1.take 24).all (fun c => isCode c || c.before args0 about1) = true := by decide +kernel
set_option maxRecDepth 65536 in
theorem w_t2 : ((words1.drop 24).take 24).all (fun c => isCode c || c.before args0 about1) = true := by decide +kernel
set_option maxRecDepth 65536 in
theorem w_t3 : (((words1.drop 24).drop 24).take 24).all (fun c => isCode c || c.before args0 about1) = true := by decide +kernel
set_option maxRecDepth 65536 in
theorem w_t4 : ((((words1.drop 24).drop 24).drop 24).take 24).all (fun c => isCode c || c.before args0 about1) = true := by decide +kernel
set_option maxRecDepth 65536 in
theorem w_t5 : (((((words1.drop 24).drop 24).drop 24).drop 24).take 24).all (fun c => isCode c || c.before args0 about1) = true := by decide +kernel
set_option maxRecDepth 65536 in
theorem w_t6 : ((((((words1.drop 24).drop 24).drop 24).drop 24).drop 24).take 24).all (fun c => isCode c || c.before args0 about1) = true := by decide +kernel
set_option maxRecDepth 65536 in
theorem w_t7 : ((((((words1.drop 24).drop 24).drop 24).drop 24).drop 24).drop 24).all (fun c => isCode c || c.before args0 about1) = true := by decide +kernel
theorem w_tables : (allAtoms (Jvm.Cond.code x code maxLocals ret :: tables_1)).before args0 about1 = true := by
  rw [allAtoms_all]
  show words1.all (fun c => c.before args0 about1) = true
  refine all_split ?_ w_codes
  rw [← List.take_append_drop 24 words1, List.all_append, w_t1, ← List.take_append_drop 24 (words1.drop 24), List.all_append, w_t2, ← List.take_append_drop 24 ((words1.drop 24).drop 24), List.all_append, w_t3, ← List.take_append_drop 24 (((words1.drop 24).drop 24).drop 24), List.all_append, w_t4, ← List.take_append_drop 24 ((((words1.drop 24).drop 24).drop 24).drop 24), List.all_append, w_t5, ← List.take_append_drop 24 (((((words1.drop 24).drop 24).drop 24).drop 24).drop 24), List.all_append, w_t6, w_t7]
  rfl
set_option maxRecDepth 65536 in
theorem w_rest : rest_1_c.before args0 about1 = true := by decide +kernel
set_option maxRecDepth 65536 in
theorem w_case : (Jvm.Cond.and given_1 narrow_1).before args0 about1 = true := by decide +kernel
set_option maxRecDepth 65536 in
theorem w_consts : constsHeld consts_1 about1 := Jvm.Lit.constsHeldB_iff.mp (by decide +kernel)
theorem w_applies : (headSpec (Jvm.Cond.code x code maxLocals ret :: tables_1) room_1).applies x e0.platform about1 = true :=
  (Spec.applies_iff w_frames).mpr ⟨w_running, w_runnable, w_alone, w_named, w_hears, w_ripe, w_room, w_tables⟩
theorem atStart : AtStart classFile x code maxLocals ret World_1 tables_1 room_1 Calls_1 rest_1 Pre_1 launch0 p0 e0 about1 theMethod args0 below0 :=
  ⟨lists_1, trivial, launch0.admits_env _ _ _, launch0.least_env, fairChoices_fair.cas, fairChoices_fair.clock, w_frames, w_args, w_heap, w_applies, ⟨w_consts, trivial⟩, w_rest, w_case⟩
end start1
theorem witness_1 : WitnessClaimed_1 := ⟨start1.p0, start1.e0, start1.about1, start1.theMethod, start1.args0, start1.below0, start1.atStart⟩
end Jvm.Pilot.@@N@@
