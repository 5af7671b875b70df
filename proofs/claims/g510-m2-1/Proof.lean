import JvmDerived
import JvmDerived.Pilot.@@N@@Statement
import JvmDerived.Pilot.@@N@@Code
set_option linter.unusedVariables false
set_option linter.unusedSimpArgs false
namespace Jvm.Own
open Sem ClassFile Op Lib Jvm.Stand Jvm.Free Jvm.LawKit Jvm.RoadKit
/-- the run goes on from the frame g over T and comes to an end of which P holds -/
def Go (p : Program) (e : Env) (below : List Frame) (P : Outcome → State → Prop) (T : State) (g : JFrame) : Prop :=
  ∃ U o, Steps p.tables e below (T.setTop g) U ∧ U.status = .running ∧ Ended U below o ∧ P o U
/-- what a body's end says: it returned v; it wrote in new cells alone, kept the heap h0 but for ws and the start's heap whole; Q of what it returned and of the heap -/
def PostOf (Z s : State) (h0 : Heap) (ws : List Addr) (kc ks : Nat) (Q : Option Value → Heap → Prop) (o : Outcome) (U : State) : Prop :=
  ∃ v L, o = .returned v ∧ (Fr Z.heap.size L ∧ Keep h0 U.heap ws ∧ Ext Z.heap U.heap ∧ Q v U.heap) ∧ FrameEnd s o U L kc ks
/-- a body's contract for the arguments as at the heap h0 -/
def OMeets (l : Launch) (Z : State) (y : MethodName) (bytes : ByteArray) (nl : Nat) (ret : Option FieldType) (R : Room) (as : Array Value) (h0 : Heap) (ws : List Addr) (Q : Option Value → Heap → Prop) : Prop :=
  ∀ wd : List Jvm.Cond, MetFree l y (head1 (Jvm.Cond.code y bytes nl ret :: wd) R) (fun a U => a = as ∧ Z.Warmed39 U.vm ∧ U.heap = h0) (fun _ _ _ _ _ => True)
    (fun _ U o U' => PostOf Z U h0 ws R.cells R.slots Q o U')
/-- where the run of one body stands: what is fixed, the library's Stand, the heap, what was written, what is kept -/
def St (p : Program) (l : Launch) (e : Env) (R : Room) (s : State) (m : MethodId) (args : Array Value) (below : List Frame) (meth : Method) (c : Code) (Z : State) (own : String) (bytes : ByteArray) (nl : Nat) (ret : Option FieldType) (nm : String)
    (h0 : Heap) (ws : List Addr) (T : State) (h : Heap) (locs : List Loc) (cells slots : Nat) : Prop :=
  (p.tables.exec = Jvm.exec ∧ c.code = bytes ∧ c.maxLocals = nl ∧ Z.Warmed39 s.vm ∧ s.vm.findClass own = some m.cls ∧ meth.sig.returnType = ret ∧ meth.locks = false ∧ meth.name = nm) ∧
  Stand p l e R s m args below meth c T locs cells slots ∧ T.heap = h ∧ Fr Z.heap.size locs ∧ Keep h0 h ws ∧ Ext Z.heap h
section Steps
variable {p : Program} {l : Launch} {e : Env} {R : Room} {s : State} {m : MethodId} {args : Array Value} {below : List Frame} {meth : Method} {c : Code} {Z : State} {own : String} {bytes : ByteArray} {nl : Nat} {ret : Option FieldType} {nm : String}
  {h0 : Heap} {ws : List Addr} {T : State} {h : Heap} {locs : List Loc} {cells slots : Nat} {P : Outcome → State → Prop} {pc pc' : Nat} {Ls Ls' : Array Slot} {st : List Value} {a0 : Array Value}
theorem off0 {a b : Nat} {o : Int} (h : (a : Int) + o = (b : Int)) : 0 ≤ (a : Int) + o := by omega
theorem off1 {a b : Nat} {o : Int} (h : (a : Int) + o = (b : Int)) : ((a : Int) + o).toNat = b := by omega
theorem Go.of {T' : State} {g g' : JFrame} (k : Go p e below P T' g') (f : ∀ t, Steps p.tables e below (T'.setTop g') t → Steps p.tables e below (T.setTop g) t) : Go p e below P T g := by
  obtain ⟨U, o, h1, h2⟩ := k
  exact ⟨U, o, f _ h1, h2⟩
theorem Go.imp {g : JFrame} {P' : Outcome → State → Prop} (k : Go p e below P T g) (f : ∀ o U, P o U → P' o U) : Go p e below P' T g := by
  obtain ⟨U, o, h1, h2, h3, h4⟩ := k
  exact ⟨U, o, h1, h2, h3, f _ _ h4⟩
theorem St.ex (S : St p l e R s m args below meth c Z own bytes nl ret nm h0 ws T h locs cells slots) : p.tables.exec = Jvm.exec := S.1.1
theorem St.hd (S : St p l e R s m args below meth c Z own bytes nl ret nm h0 ws T h locs cells slots) {r : Except DecodeError (Instr × Nat)} (h2 : decode bytes pc = r) : decode c.code pc = r := S.1.2.1 ▸ h2
theorem St.hnl (S : St p l e R s m args below meth c Z own bytes nl ret nm h0 ws T h locs cells slots) : c.maxLocals = nl := S.1.2.2.1
theorem St.hZ (S : St p l e R s m args below meth c Z own bytes nl ret nm h0 ws T h locs cells slots) : Z.Warmed39 s.vm := S.1.2.2.2.1
theorem St.hown (S : St p l e R s m args below meth c Z own bytes nl ret nm h0 ws T h locs cells slots) : s.vm.findClass own = some m.cls := S.1.2.2.2.2.1
theorem St.hret (S : St p l e R s m args below meth c Z own bytes nl ret nm h0 ws T h locs cells slots) : meth.sig.returnType = ret := S.1.2.2.2.2.2.1
theorem St.locks (S : St p l e R s m args below meth c Z own bytes nl ret nm h0 ws T h locs cells slots) : meth.locks = false := S.1.2.2.2.2.2.2.1
theorem St.hnm (S : St p l e R s m args below meth c Z own bytes nl ret nm h0 ws T h locs cells slots) : meth.name = nm := S.1.2.2.2.2.2.2.2
theorem St.X (S : St p l e R s m args below meth c Z own bytes nl ret nm h0 ws T h locs cells slots) : Stand p l e R s m args below meth c T locs cells slots := S.2.1
theorem St.eT (S : St p l e R s m args below meth c Z own bytes nl ret nm h0 ws T h locs cells slots) : T.heap = h := S.2.2.1
theorem St.fr (S : St p l e R s m args below meth c Z own bytes nl ret nm h0 ws T h locs cells slots) : Fr Z.heap.size locs := S.2.2.2.1
theorem St.keep (S : St p l e R s m args below meth c Z own bytes nl ret nm h0 ws T h locs cells slots) : Keep h0 h ws := S.2.2.2.2.1
theorem St.ext (S : St p l e R s m args below meth c Z own bytes nl ret nm h0 ws T h locs cells slots) : Ext Z.heap h := S.2.2.2.2.2
theorem St.more (S : St p l e R s m args below meth c Z own bytes nl ret nm h0 ws T h locs cells slots) {cells' slots' : Nat} (hc : cells ≤ cells') (hs : slots ≤ slots') : St p l e R s m args below meth c Z own bytes nl ret nm h0 ws T h locs cells' slots' := ⟨S.1, S.X.more hc hs, S.2.2⟩
theorem St.next (S : St p l e R s m args below meth c Z own bytes nl ret nm h0 ws T h locs cells slots) {T' : State} {h' : Heap} {locs' : List Loc} {cells' slots' : Nat} (X : Stand p l e R s m args below meth c T' locs' cells' slots') (e1 : T'.heap = h') (N : Fr Z.heap.size locs') (K : Keep h0 h' ws) (E : Ext Z.heap h') : St p l e R s m args below meth c Z own bytes nl ret nm h0 ws T' h' locs' cells' slots' := ⟨S.1, X, e1, N, K, E⟩
theorem Go.iloadN (S : St p l e R s m args below meth c Z own bytes nl ret nm h0 ws T h locs cells slots) {k : Fin 4} {v : Int32} (hd : decode bytes pc = .ok (.iload_n k, 1)) (hl : Ls[k.val]? = some (.val (.int v))) (hp : pc + 1 = pc') (k : Go p e below P T (mkF m pc' Ls (.int v :: st))) : Go p e below P T (mkF m pc Ls st) := by
  subst hp
  exact k.of fun t q => XS.iloadN S.X.here S.ex rfl (S.hd hd) hl q
theorem Go.iload (S : St p l e R s m args below meth c Z own bytes nl ret nm h0 ws T h locs cells slots) {k : Nat} {v : Int32} (hd : decode bytes pc = .ok (.iload k, 2)) (hl : Ls[k]? = some (.val (.int v))) (hp : pc + 2 = pc') (k : Go p e below P T (mkF m pc' Ls (.int v :: st))) : Go p e below P T (mkF m pc Ls st) := by
  subst hp
  exact k.of fun t q => XS.iload S.X.here S.ex rfl (S.hd hd) hl q
theorem Go.istoreN (S : St p l e R s m args below meth c Z own bytes nl ret nm h0 ws T h locs cells slots) {k : Fin 4} {v : Int32} (hd : decode bytes pc = .ok (.istore_n k, 1)) (hl : storeLocals Ls k.val (.int v) = some Ls') (hp : pc + 1 = pc') (k : Go p e below P T (mkF m pc' Ls' st)) : Go p e below P T (mkF m pc Ls (.int v :: st)) := by
  subst hp
  exact k.of fun t q => XS.istoreN S.X.here S.ex rfl (S.hd hd) rfl hl q
theorem Go.istore (S : St p l e R s m args below meth c Z own bytes nl ret nm h0 ws T h locs cells slots) {k : Nat} {v : Int32} (hd : decode bytes pc = .ok (.istore k, 2)) (hl : storeLocals Ls k (.int v) = some Ls') (hp : pc + 2 = pc') (k : Go p e below P T (mkF m pc' Ls' st)) : Go p e below P T (mkF m pc Ls (.int v :: st)) := by
  subst hp
  exact k.of fun t q => XS.istore S.X.here S.ex rfl (S.hd hd) rfl hl q
theorem Go.lloadN (S : St p l e R s m args below meth c Z own bytes nl ret nm h0 ws T h locs cells slots) {k : Fin 4} {v : Int64} (hd : decode bytes pc = .ok (.lload_n k, 1)) (hl : Ls[k.val]? = some (.val (.long v))) (hp : pc + 1 = pc') (k : Go p e below P T (mkF m pc' Ls (.long v :: st))) : Go p e below P T (mkF m pc Ls st) := by
  subst hp
  exact k.of fun t q => XS.lloadN S.X.here S.ex rfl (S.hd hd) hl q
theorem Go.lload (S : St p l e R s m args below meth c Z own bytes nl ret nm h0 ws T h locs cells slots) {k : Nat} {v : Int64} (hd : decode bytes pc = .ok (.lload k, 2)) (hl : Ls[k]? = some (.val (.long v))) (hp : pc + 2 = pc') (k : Go p e below P T (mkF m pc' Ls (.long v :: st))) : Go p e below P T (mkF m pc Ls st) := by
  subst hp
  exact k.of fun t q => XS.lload S.X.here S.ex rfl (S.hd hd) hl q
theorem Go.lstoreN (S : St p l e R s m args below meth c Z own bytes nl ret nm h0 ws T h locs cells slots) {k : Fin 4} {v : Int64} (hd : decode bytes pc = .ok (.lstore_n k, 1)) (hl : storeLocals Ls k.val (.long v) = some Ls') (hp : pc + 1 = pc') (k : Go p e below P T (mkF m pc' Ls' st)) : Go p e below P T (mkF m pc Ls (.long v :: st)) := by
  subst hp
  exact k.of fun t q => XS.lstoreN S.X.here S.ex rfl (S.hd hd) rfl hl q
theorem Go.lstore (S : St p l e R s m args below meth c Z own bytes nl ret nm h0 ws T h locs cells slots) {k : Nat} {v : Int64} (hd : decode bytes pc = .ok (.lstore k, 2)) (hl : storeLocals Ls k (.long v) = some Ls') (hp : pc + 2 = pc') (k : Go p e below P T (mkF m pc' Ls' st)) : Go p e below P T (mkF m pc Ls (.long v :: st)) := by
  subst hp
  exact k.of fun t q => XS.lstore S.X.here S.ex rfl (S.hd hd) rfl hl q
theorem Go.aloadN (S : St p l e R s m args below meth c Z own bytes nl ret nm h0 ws T h locs cells slots) {k : Fin 4} {v : Value} (hd : decode bytes pc = .ok (.aload_n k, 1)) (hl : Ls[k.val]? = some (.val v)) (hr : v.isRef = true) (hp : pc + 1 = pc') (k : Go p e below P T (mkF m pc' Ls (v :: st))) : Go p e below P T (mkF m pc Ls st) := by
  subst hp
  exact k.of fun t q => XS.aloadN S.X.here S.ex rfl (S.hd hd) hl hr q
theorem Go.aload (S : St p l e R s m args below meth c Z own bytes nl ret nm h0 ws T h locs cells slots) {k : Nat} {v : Value} (hd : decode bytes pc = .ok (.aload k, 2)) (hl : Ls[k]? = some (.val v)) (hr : v.isRef = true) (hp : pc + 2 = pc') (k : Go p e below P T (mkF m pc' Ls (v :: st))) : Go p e below P T (mkF m pc Ls st) := by
  subst hp
  exact k.of fun t q => XS.aload S.X.here S.ex rfl (S.hd hd) hl hr q
theorem Go.astoreN (S : St p l e R s m args below meth c Z own bytes nl ret nm h0 ws T h locs cells slots) {k : Fin 4} {v : Value} (hd : decode bytes pc = .ok (.astore_n k, 1)) (hr : v.isRef = true) (hl : storeLocals Ls k.val v = some Ls') (hp : pc + 1 = pc') (k : Go p e below P T (mkF m pc' Ls' st)) : Go p e below P T (mkF m pc Ls (v :: st)) := by
  subst hp
  exact k.of fun t q => XS.astoreN S.X.here S.ex rfl (S.hd hd) rfl hr hl q
theorem Go.astore (S : St p l e R s m args below meth c Z own bytes nl ret nm h0 ws T h locs cells slots) {k : Nat} {v : Value} (hd : decode bytes pc = .ok (.astore k, 2)) (hr : v.isRef = true) (hl : storeLocals Ls k v = some Ls') (hp : pc + 2 = pc') (k : Go p e below P T (mkF m pc' Ls' st)) : Go p e below P T (mkF m pc Ls (v :: st)) := by
  subst hp
  exact k.of fun t q => XS.astore S.X.here S.ex rfl (S.hd hd) rfl hr hl q
theorem Go.iconst (S : St p l e R s m args below meth c Z own bytes nl ret nm h0 ws T h locs cells slots) {i : Int} {v : Int32} (hd : decode bytes pc = .ok (.iconst i, 1)) (hv : Int32.ofInt i = v) (hp : pc + 1 = pc') (k : Go p e below P T (mkF m pc' Ls (.int v :: st))) : Go p e below P T (mkF m pc Ls st) := by
  subst hp hv
  exact k.of fun t q => XS.iconst S.X.here S.ex rfl (S.hd hd) q
theorem Go.bipush (S : St p l e R s m args below meth c Z own bytes nl ret nm h0 ws T h locs cells slots) {i : Int} {v : Int32} (hd : decode bytes pc = .ok (.bipush i, 2)) (hv : (Int8.ofInt i).toInt32 = v) (hp : pc + 2 = pc') (k : Go p e below P T (mkF m pc' Ls (.int v :: st))) : Go p e below P T (mkF m pc Ls st) := by
  subst hp hv
  exact k.of fun t q => XS.bipush S.X.here S.ex rfl (S.hd hd) q
theorem Go.sipush (S : St p l e R s m args below meth c Z own bytes nl ret nm h0 ws T h locs cells slots) {i : Int} {v : Int32} (hd : decode bytes pc = .ok (.sipush i, 3)) (hv : (Int16.ofInt i).toInt32 = v) (hp : pc + 3 = pc') (k : Go p e below P T (mkF m pc' Ls (.int v :: st))) : Go p e below P T (mkF m pc Ls st) := by
  subst hp hv
  exact k.of fun t q => XS.sipush S.X.here S.ex rfl (S.hd hd) q
theorem Go.lconst (S : St p l e R s m args below meth c Z own bytes nl ret nm h0 ws T h locs cells slots) {i : Fin 2} {v : Int64} (hd : decode bytes pc = .ok (.lconst i, 1)) (hv : Int64.ofNat i = v) (hp : pc + 1 = pc') (k : Go p e below P T (mkF m pc' Ls (.long v :: st))) : Go p e below P T (mkF m pc Ls st) := by
  subst hp hv
  exact k.of fun t q => XS.lconst S.X.here S.ex rfl (S.hd hd) q
theorem Go.aconst_null (S : St p l e R s m args below meth c Z own bytes nl ret nm h0 ws T h locs cells slots)  (hd : decode bytes pc = .ok (.aconst_null, 1)) (hp : pc + 1 = pc') (k : Go p e below P T (mkF m pc' Ls (.null :: st))) : Go p e below P T (mkF m pc Ls st) := by
  subst hp
  exact k.of fun t q => XS.aconstNull S.X.here S.ex rfl (S.hd hd) q
theorem Go.iadd (S : St p l e R s m args below meth c Z own bytes nl ret nm h0 ws T h locs cells slots) {x y : Int32} (hd : decode bytes pc = .ok (.iadd, 1)) (hp : pc + 1 = pc') (k : Go p e below P T (mkF m pc' Ls (.int (x + y) :: st))) : Go p e below P T (mkF m pc Ls (.int y :: .int x :: st)) := by
  subst hp
  exact k.of fun t q => XS.iadd S.X.here S.ex rfl (S.hd hd) rfl q
theorem Go.ladd (S : St p l e R s m args below meth c Z own bytes nl ret nm h0 ws T h locs cells slots) {x y : Int64} (hd : decode bytes pc = .ok (.ladd, 1)) (hp : pc + 1 = pc') (k : Go p e below P T (mkF m pc' Ls (.long (x + y) :: st))) : Go p e below P T (mkF m pc Ls (.long y :: .long x :: st)) := by
  subst hp
  exact k.of fun t q => XS.ladd S.X.here S.ex rfl (S.hd hd) rfl q
theorem Go.isub (S : St p l e R s m args below meth c Z own bytes nl ret nm h0 ws T h locs cells slots) {x y : Int32} (hd : decode bytes pc = .ok (.isub, 1)) (hp : pc + 1 = pc') (k : Go p e below P T (mkF m pc' Ls (.int (x - y) :: st))) : Go p e below P T (mkF m pc Ls (.int y :: .int x :: st)) := by
  subst hp
  exact k.of fun t q => XS.isub S.X.here S.ex rfl (S.hd hd) rfl q
theorem Go.lsub (S : St p l e R s m args below meth c Z own bytes nl ret nm h0 ws T h locs cells slots) {x y : Int64} (hd : decode bytes pc = .ok (.lsub, 1)) (hp : pc + 1 = pc') (k : Go p e below P T (mkF m pc' Ls (.long (x - y) :: st))) : Go p e below P T (mkF m pc Ls (.long y :: .long x :: st)) := by
  subst hp
  exact k.of fun t q => XS.lsub S.X.here S.ex rfl (S.hd hd) rfl q
theorem Go.imul (S : St p l e R s m args below meth c Z own bytes nl ret nm h0 ws T h locs cells slots) {x y : Int32} (hd : decode bytes pc = .ok (.imul, 1)) (hp : pc + 1 = pc') (k : Go p e below P T (mkF m pc' Ls (.int (x * y) :: st))) : Go p e below P T (mkF m pc Ls (.int y :: .int x :: st)) := by
  subst hp
  exact k.of fun t q => XS.imul S.X.here S.ex rfl (S.hd hd) rfl q
theorem Go.lmul (S : St p l e R s m args below meth c Z own bytes nl ret nm h0 ws T h locs cells slots) {x y : Int64} (hd : decode bytes pc = .ok (.lmul, 1)) (hp : pc + 1 = pc') (k : Go p e below P T (mkF m pc' Ls (.long (x * y) :: st))) : Go p e below P T (mkF m pc Ls (.long y :: .long x :: st)) := by
  subst hp
  exact k.of fun t q => XS.lmul S.X.here S.ex rfl (S.hd hd) rfl q
theorem Go.iand (S : St p l e R s m args below meth c Z own bytes nl ret nm h0 ws T h locs cells slots) {x y : Int32} (hd : decode bytes pc = .ok (.iand, 1)) (hp : pc + 1 = pc') (k : Go p e below P T (mkF m pc' Ls (.int (x &&& y) :: st))) : Go p e below P T (mkF m pc Ls (.int y :: .int x :: st)) := by
  subst hp
  exact k.of fun t q => XS.iand S.X.here S.ex rfl (S.hd hd) rfl q
theorem Go.land (S : St p l e R s m args below meth c Z own bytes nl ret nm h0 ws T h locs cells slots) {x y : Int64} (hd : decode bytes pc = .ok (.land, 1)) (hp : pc + 1 = pc') (k : Go p e below P T (mkF m pc' Ls (.long (x &&& y) :: st))) : Go p e below P T (mkF m pc Ls (.long y :: .long x :: st)) := by
  subst hp
  exact k.of fun t q => XS.land S.X.here S.ex rfl (S.hd hd) rfl q
theorem Go.ior (S : St p l e R s m args below meth c Z own bytes nl ret nm h0 ws T h locs cells slots) {x y : Int32} (hd : decode bytes pc = .ok (.ior, 1)) (hp : pc + 1 = pc') (k : Go p e below P T (mkF m pc' Ls (.int (x ||| y) :: st))) : Go p e below P T (mkF m pc Ls (.int y :: .int x :: st)) := by
  subst hp
  exact k.of fun t q => XS.ior S.X.here S.ex rfl (S.hd hd) rfl q
theorem Go.lor (S : St p l e R s m args below meth c Z own bytes nl ret nm h0 ws T h locs cells slots) {x y : Int64} (hd : decode bytes pc = .ok (.lor, 1)) (hp : pc + 1 = pc') (k : Go p e below P T (mkF m pc' Ls (.long (x ||| y) :: st))) : Go p e below P T (mkF m pc Ls (.long y :: .long x :: st)) := by
  subst hp
  exact k.of fun t q => XS.lor S.X.here S.ex rfl (S.hd hd) rfl q
theorem Go.ixor (S : St p l e R s m args below meth c Z own bytes nl ret nm h0 ws T h locs cells slots) {x y : Int32} (hd : decode bytes pc = .ok (.ixor, 1)) (hp : pc + 1 = pc') (k : Go p e below P T (mkF m pc' Ls (.int (x ^^^ y) :: st))) : Go p e below P T (mkF m pc Ls (.int y :: .int x :: st)) := by
  subst hp
  exact k.of fun t q => XS.ixor S.X.here S.ex rfl (S.hd hd) rfl q
theorem Go.lxor (S : St p l e R s m args below meth c Z own bytes nl ret nm h0 ws T h locs cells slots) {x y : Int64} (hd : decode bytes pc = .ok (.lxor, 1)) (hp : pc + 1 = pc') (k : Go p e below P T (mkF m pc' Ls (.long (x ^^^ y) :: st))) : Go p e below P T (mkF m pc Ls (.long y :: .long x :: st)) := by
  subst hp
  exact k.of fun t q => XS.lxor S.X.here S.ex rfl (S.hd hd) rfl q
theorem Go.ishl (S : St p l e R s m args below meth c Z own bytes nl ret nm h0 ws T h locs cells slots) {x : Int32} {y : Int32} (hd : decode bytes pc = .ok (.ishl, 1)) (hp : pc + 1 = pc') (k : Go p e below P T (mkF m pc' Ls (.int (x <<< (y &&& 31)) :: st))) : Go p e below P T (mkF m pc Ls (.int y :: .int x :: st)) := by
  subst hp
  exact k.of fun t q => XS.ishl S.X.here S.ex rfl (S.hd hd) rfl q
theorem Go.ishr (S : St p l e R s m args below meth c Z own bytes nl ret nm h0 ws T h locs cells slots) {x : Int32} {y : Int32} (hd : decode bytes pc = .ok (.ishr, 1)) (hp : pc + 1 = pc') (k : Go p e below P T (mkF m pc' Ls (.int (x >>> (y &&& 31)) :: st))) : Go p e below P T (mkF m pc Ls (.int y :: .int x :: st)) := by
  subst hp
  exact k.of fun t q => XS.ishr S.X.here S.ex rfl (S.hd hd) rfl q
theorem Go.iushr (S : St p l e R s m args below meth c Z own bytes nl ret nm h0 ws T h locs cells slots) {x : Int32} {y : Int32} (hd : decode bytes pc = .ok (.iushr, 1)) (hp : pc + 1 = pc') (k : Go p e below P T (mkF m pc' Ls (.int ((x.toUInt32 >>> (y &&& 31).toUInt32).toInt32) :: st))) : Go p e below P T (mkF m pc Ls (.int y :: .int x :: st)) := by
  subst hp
  exact k.of fun t q => XS.iushr S.X.here S.ex rfl (S.hd hd) rfl q
theorem Go.lshl (S : St p l e R s m args below meth c Z own bytes nl ret nm h0 ws T h locs cells slots) {x : Int64} {y : Int32} (hd : decode bytes pc = .ok (.lshl, 1)) (hp : pc + 1 = pc') (k : Go p e below P T (mkF m pc' Ls (.long (x <<< (y &&& 0x3f).toInt64) :: st))) : Go p e below P T (mkF m pc Ls (.int y :: .long x :: st)) := by
  subst hp
  exact k.of fun t q => XS.lshl S.X.here S.ex rfl (S.hd hd) rfl q
theorem Go.lshr (S : St p l e R s m args below meth c Z own bytes nl ret nm h0 ws T h locs cells slots) {x : Int64} {y : Int32} (hd : decode bytes pc = .ok (.lshr, 1)) (hp : pc + 1 = pc') (k : Go p e below P T (mkF m pc' Ls (.long (x >>> (y &&& 0x3f).toInt64) :: st))) : Go p e below P T (mkF m pc Ls (.int y :: .long x :: st)) := by
  subst hp
  exact k.of fun t q => XS.lshr S.X.here S.ex rfl (S.hd hd) rfl q
theorem Go.lushr (S : St p l e R s m args below meth c Z own bytes nl ret nm h0 ws T h locs cells slots) {x : Int64} {y : Int32} (hd : decode bytes pc = .ok (.lushr, 1)) (hp : pc + 1 = pc') (k : Go p e below P T (mkF m pc' Ls (.long ((x.toUInt64 >>> (y &&& 0x3f).toInt64.toUInt64).toInt64) :: st))) : Go p e below P T (mkF m pc Ls (.int y :: .long x :: st)) := by
  subst hp
  exact k.of fun t q => XS.lushr S.X.here S.ex rfl (S.hd hd) rfl q
theorem Go.i2l (S : St p l e R s m args below meth c Z own bytes nl ret nm h0 ws T h locs cells slots) {x : Int32} (hd : decode bytes pc = .ok (.i2l, 1)) (hp : pc + 1 = pc') (k : Go p e below P T (mkF m pc' Ls (.long (x.toInt64) :: st))) : Go p e below P T (mkF m pc Ls (.int x :: st)) := by
  subst hp
  exact k.of fun t q => XS.i2l S.X.here S.ex rfl (S.hd hd) rfl q
theorem Go.l2i (S : St p l e R s m args below meth c Z own bytes nl ret nm h0 ws T h locs cells slots) {x : Int64} (hd : decode bytes pc = .ok (.l2i, 1)) (hp : pc + 1 = pc') (k : Go p e below P T (mkF m pc' Ls (.int (x.toInt32) :: st))) : Go p e below P T (mkF m pc Ls (.long x :: st)) := by
  subst hp
  exact k.of fun t q => XS.l2i S.X.here S.ex rfl (S.hd hd) rfl q
theorem Go.i2b (S : St p l e R s m args below meth c Z own bytes nl ret nm h0 ws T h locs cells slots) {x : Int32} (hd : decode bytes pc = .ok (.i2b, 1)) (hp : pc + 1 = pc') (k : Go p e below P T (mkF m pc' Ls (.int (x.toInt8.toInt32) :: st))) : Go p e below P T (mkF m pc Ls (.int x :: st)) := by
  subst hp
  exact k.of fun t q => XS.i2b S.X.here S.ex rfl (S.hd hd) rfl q
theorem Go.i2s (S : St p l e R s m args below meth c Z own bytes nl ret nm h0 ws T h locs cells slots) {x : Int32} (hd : decode bytes pc = .ok (.i2s, 1)) (hp : pc + 1 = pc') (k : Go p e below P T (mkF m pc' Ls (.int (x.toInt16.toInt32) :: st))) : Go p e below P T (mkF m pc Ls (.int x :: st)) := by
  subst hp
  exact k.of fun t q => XS.i2s S.X.here S.ex rfl (S.hd hd) rfl q
theorem Go.i2c (S : St p l e R s m args below meth c Z own bytes nl ret nm h0 ws T h locs cells slots) {x : Int32} (hd : decode bytes pc = .ok (.i2c, 1)) (hp : pc + 1 = pc') (k : Go p e below P T (mkF m pc' Ls (.int (x.toUInt32.toUInt16.toUInt32.toInt32) :: st))) : Go p e below P T (mkF m pc Ls (.int x :: st)) := by
  subst hp
  exact k.of fun t q => XS.i2c S.X.here S.ex rfl (S.hd hd) rfl q
theorem Go.ineg (S : St p l e R s m args below meth c Z own bytes nl ret nm h0 ws T h locs cells slots) {x : Int32} (hd : decode bytes pc = .ok (.ineg, 1)) (hp : pc + 1 = pc') (k : Go p e below P T (mkF m pc' Ls (.int (-x) :: st))) : Go p e below P T (mkF m pc Ls (.int x :: st)) := by
  subst hp
  exact k.of fun t q => XS.ineg S.X.here S.ex rfl (S.hd hd) rfl q
theorem Go.lneg (S : St p l e R s m args below meth c Z own bytes nl ret nm h0 ws T h locs cells slots) {x : Int64} (hd : decode bytes pc = .ok (.lneg, 1)) (hp : pc + 1 = pc') (k : Go p e below P T (mkF m pc' Ls (.long (-x) :: st))) : Go p e below P T (mkF m pc Ls (.long x :: st)) := by
  subst hp
  exact k.of fun t q => XS.lneg S.X.here S.ex rfl (S.hd hd) rfl q
theorem Go.idiv (S : St p l e R s m args below meth c Z own bytes nl ret nm h0 ws T h locs cells slots) {x y : Int32} (hd : decode bytes pc = .ok (.idiv, 1)) (hy : y ≠ 0) (hp : pc + 1 = pc') (k : Go p e below P T (mkF m pc' Ls (.int (x / y) :: st))) : Go p e below P T (mkF m pc Ls (.int y :: .int x :: st)) := by
  subst hp
  exact k.of fun t q => XS.idiv S.X.here S.ex rfl (S.hd hd) rfl hy q
theorem Go.ldiv (S : St p l e R s m args below meth c Z own bytes nl ret nm h0 ws T h locs cells slots) {x y : Int64} (hd : decode bytes pc = .ok (.ldiv, 1)) (hy : y ≠ 0) (hp : pc + 1 = pc') (k : Go p e below P T (mkF m pc' Ls (.long (x / y) :: st))) : Go p e below P T (mkF m pc Ls (.long y :: .long x :: st)) := by
  subst hp
  exact k.of fun t q => XS.ldiv S.X.here S.ex rfl (S.hd hd) rfl hy q
theorem Go.irem (S : St p l e R s m args below meth c Z own bytes nl ret nm h0 ws T h locs cells slots) {x y : Int32} (hd : decode bytes pc = .ok (.irem, 1)) (hy : y ≠ 0) (hp : pc + 1 = pc') (k : Go p e below P T (mkF m pc' Ls (.int (x % y) :: st))) : Go p e below P T (mkF m pc Ls (.int y :: .int x :: st)) := by
  subst hp
  exact k.of fun t q => Jvm.RoadKit.iremM S.X S.ex rfl (S.hd hd) rfl hy q
theorem Go.lrem (S : St p l e R s m args below meth c Z own bytes nl ret nm h0 ws T h locs cells slots) {x y : Int64} (hd : decode bytes pc = .ok (.lrem, 1)) (hy : y ≠ 0) (hp : pc + 1 = pc') (k : Go p e below P T (mkF m pc' Ls (.long (x % y) :: st))) : Go p e below P T (mkF m pc Ls (.long y :: .long x :: st)) := by
  subst hp
  rw [← lrem_mod] at k
  exact k.of fun t q => XS.lrem S.X.here S.ex rfl (S.hd hd) rfl hy q
theorem Go.iinc (S : St p l e R s m args below meth c Z own bytes nl ret nm h0 ws T h locs cells slots) {k : Nat} {cst : Int} {x : Int32} (hd : decode bytes pc = .ok (.iinc k cst, 3)) (hl : Ls[k]? = some (.val (.int x))) (hl' : storeLocals Ls k (.int (x + Int32.ofInt cst)) = some Ls') (hp : pc + 3 = pc') (k : Go p e below P T (mkF m pc' Ls' st)) : Go p e below P T (mkF m pc Ls st) := by
  subst hp
  exact k.of fun t q => XS.iinc S.X.here S.ex rfl (S.hd hd) hl hl' q
theorem Go.dup (S : St p l e R s m args below meth c Z own bytes nl ret nm h0 ws T h locs cells slots) {x : Value} (hd : decode bytes pc = .ok (.dup, 1)) (hc : x.category = 1) (hp : pc + 1 = pc') (k : Go p e below P T (mkF m pc' Ls (x :: x :: st))) : Go p e below P T (mkF m pc Ls (x :: st)) := by
  subst hp
  exact k.of fun t q => XS.dup S.X.here S.ex rfl (S.hd hd) rfl hc q
theorem Go.pop (S : St p l e R s m args below meth c Z own bytes nl ret nm h0 ws T h locs cells slots) {x : Value} (hd : decode bytes pc = .ok (.pop, 1)) (hc : x.category = 1) (hp : pc + 1 = pc') (k : Go p e below P T (mkF m pc' Ls st)) : Go p e below P T (mkF m pc Ls (x :: st)) := by
  subst hp
  exact k.of fun t q => XS.pop S.X.here S.ex rfl (S.hd hd) rfl hc q
theorem Go.dup_x1 (S : St p l e R s m args below meth c Z own bytes nl ret nm h0 ws T h locs cells slots) {x y : Value} (hd : decode bytes pc = .ok (.dup_x1, 1)) (hc : x.category = 1) (hc' : y.category = 1) (hp : pc + 1 = pc') (k : Go p e below P T (mkF m pc' Ls (x :: y :: x :: st))) : Go p e below P T (mkF m pc Ls (x :: y :: st)) := by
  subst hp
  exact k.of fun t q => XS.dupX1 S.X.here S.ex rfl (S.hd hd) rfl hc hc' q
theorem Go.goto (S : St p l e R s m args below meth c Z own bytes nl ret nm h0 ws T h locs cells slots) {o : Int} (hd : decode bytes pc = .ok (.goto o, 3)) (hp : (pc : Int) + o = (pc' : Int)) (k : Go p e below P T (mkF m pc' Ls st)) : Go p e below P T (mkF m pc Ls st) :=
  k.of fun t q => XS.goto S.X.here S.ex rfl (pc0 := pc) rfl (S.hd hd) (off0 hp) (off1 hp) q
theorem Go.if_eq (S : St p l e R s m args below meth c Z own bytes nl ret nm h0 ws T h locs cells slots) {x : Int32} {o : Int} {pt : Nat} (hd : decode bytes pc = .ok (.ifCond .eq o, 3)) (ht : (pc : Int) + o = (pt : Int)) (hf : pc + 3 = pc') (ky : x = 0 → Go p e below P T (mkF m pt Ls st)) (kn : ¬ x = 0 → Go p e below P T (mkF m pc' Ls st)) : Go p e below P T (mkF m pc Ls (.int x :: st)) := by
  subst hf
  by_cases q : x = 0
  · exact (ky q).of fun t q' => XS.ifYes S.X.here S.ex rfl (pc0 := pc) rfl (S.hd hd) rfl (Jvm.Free.XT.i0_eq_t q) (off0 ht) (off1 ht) q'
  · exact (kn q).of fun t q' => XS.ifNo S.X.here S.ex rfl (S.hd hd) rfl (Jvm.Free.XT.i0_eq_f q) q'
theorem Go.icmp_eq (S : St p l e R s m args below meth c Z own bytes nl ret nm h0 ws T h locs cells slots) {x y : Int32} {o : Int} {pt : Nat} (hd : decode bytes pc = .ok (.if_icmp .eq o, 3)) (ht : (pc : Int) + o = (pt : Int)) (hf : pc + 3 = pc') (ky : x = y → Go p e below P T (mkF m pt Ls st)) (kn : ¬ x = y → Go p e below P T (mkF m pc' Ls st)) : Go p e below P T (mkF m pc Ls (.int y :: .int x :: st)) := by
  subst hf
  by_cases q : x = y
  · exact (ky q).of fun t q' => XS.icmpYes S.X.here S.ex rfl (pc0 := pc) rfl (S.hd hd) rfl (Jvm.Free.XT.ii_eq_t q) (off0 ht) (off1 ht) q'
  · exact (kn q).of fun t q' => XS.icmpNo S.X.here S.ex rfl (S.hd hd) rfl (Jvm.Free.XT.ii_eq_f q) q'
theorem Go.lcmp_eq (S : St p l e R s m args below meth c Z own bytes nl ret nm h0 ws T h locs cells slots) {x y : Int64} {o : Int} {pt : Nat} {pc1 : Nat} (hd1 : decode bytes pc = .ok (.lcmp, 1)) (h1 : pc + 1 = pc1) (hd : decode bytes pc1 = .ok (.ifCond .eq o, 3)) (ht : (pc1 : Int) + o = (pt : Int)) (hf : pc1 + 3 = pc') (ky : x = y → Go p e below P T (mkF m pt Ls st)) (kn : ¬ x = y → Go p e below P T (mkF m pc' Ls st)) : Go p e below P T (mkF m pc Ls (.long y :: .long x :: st)) := by
  subst hf h1
  by_cases q : x = y
  · exact (ky q).of fun t q' => Jvm.Free.XT.lcmp S.X.here S.ex rfl (S.hd hd1) rfl (XS.ifYes S.X.here S.ex rfl (pc0 := pc + 1) rfl (S.hd hd) rfl (Jvm.Free.XT.ll_eq_t q) (off0 ht) (off1 ht) q')
  · exact (kn q).of fun t q' => Jvm.Free.XT.lcmp S.X.here S.ex rfl (S.hd hd1) rfl (XS.ifNo S.X.here S.ex rfl (S.hd hd) rfl (Jvm.Free.XT.ll_eq_f q) q')
theorem Go.if_ne (S : St p l e R s m args below meth c Z own bytes nl ret nm h0 ws T h locs cells slots) {x : Int32} {o : Int} {pt : Nat} (hd : decode bytes pc = .ok (.ifCond .ne o, 3)) (ht : (pc : Int) + o = (pt : Int)) (hf : pc + 3 = pc') (ky : ¬ x = 0 → Go p e below P T (mkF m pt Ls st)) (kn : x = 0 → Go p e below P T (mkF m pc' Ls st)) : Go p e below P T (mkF m pc Ls (.int x :: st)) := by
  subst hf
  by_cases q : x = 0
  · exact (kn q).of fun t q' => XS.ifNo S.X.here S.ex rfl (S.hd hd) rfl (Jvm.Free.XT.i0_ne_f q) q'
  · exact (ky q).of fun t q' => XS.ifYes S.X.here S.ex rfl (pc0 := pc) rfl (S.hd hd) rfl (Jvm.Free.XT.i0_ne_t q) (off0 ht) (off1 ht) q'
theorem Go.icmp_ne (S : St p l e R s m args below meth c Z own bytes nl ret nm h0 ws T h locs cells slots) {x y : Int32} {o : Int} {pt : Nat} (hd : decode bytes pc = .ok (.if_icmp .ne o, 3)) (ht : (pc : Int) + o = (pt : Int)) (hf : pc + 3 = pc') (ky : ¬ x = y → Go p e below P T (mkF m pt Ls st)) (kn : x = y → Go p e below P T (mkF m pc' Ls st)) : Go p e below P T (mkF m pc Ls (.int y :: .int x :: st)) := by
  subst hf
  by_cases q : x = y
  · exact (kn q).of fun t q' => XS.icmpNo S.X.here S.ex rfl (S.hd hd) rfl (Jvm.Free.XT.ii_ne_f q) q'
  · exact (ky q).of fun t q' => XS.icmpYes S.X.here S.ex rfl (pc0 := pc) rfl (S.hd hd) rfl (Jvm.Free.XT.ii_ne_t q) (off0 ht) (off1 ht) q'
theorem Go.lcmp_ne (S : St p l e R s m args below meth c Z own bytes nl ret nm h0 ws T h locs cells slots) {x y : Int64} {o : Int} {pt : Nat} {pc1 : Nat} (hd1 : decode bytes pc = .ok (.lcmp, 1)) (h1 : pc + 1 = pc1) (hd : decode bytes pc1 = .ok (.ifCond .ne o, 3)) (ht : (pc1 : Int) + o = (pt : Int)) (hf : pc1 + 3 = pc') (ky : ¬ x = y → Go p e below P T (mkF m pt Ls st)) (kn : x = y → Go p e below P T (mkF m pc' Ls st)) : Go p e below P T (mkF m pc Ls (.long y :: .long x :: st)) := by
  subst hf h1
  by_cases q : x = y
  · exact (kn q).of fun t q' => Jvm.Free.XT.lcmp S.X.here S.ex rfl (S.hd hd1) rfl (XS.ifNo S.X.here S.ex rfl (S.hd hd) rfl (Jvm.Free.XT.ll_ne_f q) q')
  · exact (ky q).of fun t q' => Jvm.Free.XT.lcmp S.X.here S.ex rfl (S.hd hd1) rfl (XS.ifYes S.X.here S.ex rfl (pc0 := pc + 1) rfl (S.hd hd) rfl (Jvm.Free.XT.ll_ne_t q) (off0 ht) (off1 ht) q')
theorem Go.if_lt (S : St p l e R s m args below meth c Z own bytes nl ret nm h0 ws T h locs cells slots) {x : Int32} {o : Int} {pt : Nat} (hd : decode bytes pc = .ok (.ifCond .lt o, 3)) (ht : (pc : Int) + o = (pt : Int)) (hf : pc + 3 = pc') (ky : x < 0 → Go p e below P T (mkF m pt Ls st)) (kn : ¬ x < 0 → Go p e below P T (mkF m pc' Ls st)) : Go p e below P T (mkF m pc Ls (.int x :: st)) := by
  subst hf
  by_cases q : x < 0
  · exact (ky q).of fun t q' => XS.ifYes S.X.here S.ex rfl (pc0 := pc) rfl (S.hd hd) rfl (Jvm.Free.XT.i0_lt_t q) (off0 ht) (off1 ht) q'
  · exact (kn q).of fun t q' => XS.ifNo S.X.here S.ex rfl (S.hd hd) rfl (Jvm.Free.XT.i0_lt_f q) q'
theorem Go.icmp_lt (S : St p l e R s m args below meth c Z own bytes nl ret nm h0 ws T h locs cells slots) {x y : Int32} {o : Int} {pt : Nat} (hd : decode bytes pc = .ok (.if_icmp .lt o, 3)) (ht : (pc : Int) + o = (pt : Int)) (hf : pc + 3 = pc') (ky : x < y → Go p e below P T (mkF m pt Ls st)) (kn : ¬ x < y → Go p e below P T (mkF m pc' Ls st)) : Go p e below P T (mkF m pc Ls (.int y :: .int x :: st)) := by
  subst hf
  by_cases q : x < y
  · exact (ky q).of fun t q' => XS.icmpYes S.X.here S.ex rfl (pc0 := pc) rfl (S.hd hd) rfl (Jvm.Free.XT.ii_lt_t q) (off0 ht) (off1 ht) q'
  · exact (kn q).of fun t q' => XS.icmpNo S.X.here S.ex rfl (S.hd hd) rfl (Jvm.Free.XT.ii_lt_f q) q'
theorem Go.lcmp_lt (S : St p l e R s m args below meth c Z own bytes nl ret nm h0 ws T h locs cells slots) {x y : Int64} {o : Int} {pt : Nat} {pc1 : Nat} (hd1 : decode bytes pc = .ok (.lcmp, 1)) (h1 : pc + 1 = pc1) (hd : decode bytes pc1 = .ok (.ifCond .lt o, 3)) (ht : (pc1 : Int) + o = (pt : Int)) (hf : pc1 + 3 = pc') (ky : x < y → Go p e below P T (mkF m pt Ls st)) (kn : ¬ x < y → Go p e below P T (mkF m pc' Ls st)) : Go p e below P T (mkF m pc Ls (.long y :: .long x :: st)) := by
  subst hf h1
  by_cases q : x < y
  · exact (ky q).of fun t q' => Jvm.Free.XT.lcmp S.X.here S.ex rfl (S.hd hd1) rfl (XS.ifYes S.X.here S.ex rfl (pc0 := pc + 1) rfl (S.hd hd) rfl (Jvm.Free.XT.ll_lt_t q) (off0 ht) (off1 ht) q')
  · exact (kn q).of fun t q' => Jvm.Free.XT.lcmp S.X.here S.ex rfl (S.hd hd1) rfl (XS.ifNo S.X.here S.ex rfl (S.hd hd) rfl (Jvm.Free.XT.ll_lt_f q) q')
theorem Go.if_ge (S : St p l e R s m args below meth c Z own bytes nl ret nm h0 ws T h locs cells slots) {x : Int32} {o : Int} {pt : Nat} (hd : decode bytes pc = .ok (.ifCond .ge o, 3)) (ht : (pc : Int) + o = (pt : Int)) (hf : pc + 3 = pc') (ky : ¬ x < 0 → Go p e below P T (mkF m pt Ls st)) (kn : x < 0 → Go p e below P T (mkF m pc' Ls st)) : Go p e below P T (mkF m pc Ls (.int x :: st)) := by
  subst hf
  by_cases q : x < 0
  · exact (kn q).of fun t q' => XS.ifNo S.X.here S.ex rfl (S.hd hd) rfl (Jvm.Free.XT.i0_ge_f q) q'
  · exact (ky q).of fun t q' => XS.ifYes S.X.here S.ex rfl (pc0 := pc) rfl (S.hd hd) rfl (Jvm.Free.XT.i0_ge_t q) (off0 ht) (off1 ht) q'
theorem Go.icmp_ge (S : St p l e R s m args below meth c Z own bytes nl ret nm h0 ws T h locs cells slots) {x y : Int32} {o : Int} {pt : Nat} (hd : decode bytes pc = .ok (.if_icmp .ge o, 3)) (ht : (pc : Int) + o = (pt : Int)) (hf : pc + 3 = pc') (ky : ¬ x < y → Go p e below P T (mkF m pt Ls st)) (kn : x < y → Go p e below P T (mkF m pc' Ls st)) : Go p e below P T (mkF m pc Ls (.int y :: .int x :: st)) := by
  subst hf
  by_cases q : x < y
  · exact (kn q).of fun t q' => XS.icmpNo S.X.here S.ex rfl (S.hd hd) rfl (Jvm.Free.XT.ii_ge_f q) q'
  · exact (ky q).of fun t q' => XS.icmpYes S.X.here S.ex rfl (pc0 := pc) rfl (S.hd hd) rfl (Jvm.Free.XT.ii_ge_t q) (off0 ht) (off1 ht) q'
theorem Go.lcmp_ge (S : St p l e R s m args below meth c Z own bytes nl ret nm h0 ws T h locs cells slots) {x y : Int64} {o : Int} {pt : Nat} {pc1 : Nat} (hd1 : decode bytes pc = .ok (.lcmp, 1)) (h1 : pc + 1 = pc1) (hd : decode bytes pc1 = .ok (.ifCond .ge o, 3)) (ht : (pc1 : Int) + o = (pt : Int)) (hf : pc1 + 3 = pc') (ky : ¬ x < y → Go p e below P T (mkF m pt Ls st)) (kn : x < y → Go p e below P T (mkF m pc' Ls st)) : Go p e below P T (mkF m pc Ls (.long y :: .long x :: st)) := by
  subst hf h1
  by_cases q : x < y
  · exact (kn q).of fun t q' => Jvm.Free.XT.lcmp S.X.here S.ex rfl (S.hd hd1) rfl (XS.ifNo S.X.here S.ex rfl (S.hd hd) rfl (Jvm.Free.XT.ll_ge_f q) q')
  · exact (ky q).of fun t q' => Jvm.Free.XT.lcmp S.X.here S.ex rfl (S.hd hd1) rfl (XS.ifYes S.X.here S.ex rfl (pc0 := pc + 1) rfl (S.hd hd) rfl (Jvm.Free.XT.ll_ge_t q) (off0 ht) (off1 ht) q')
theorem Go.if_gt (S : St p l e R s m args below meth c Z own bytes nl ret nm h0 ws T h locs cells slots) {x : Int32} {o : Int} {pt : Nat} (hd : decode bytes pc = .ok (.ifCond .gt o, 3)) (ht : (pc : Int) + o = (pt : Int)) (hf : pc + 3 = pc') (ky : 0 < x → Go p e below P T (mkF m pt Ls st)) (kn : ¬ 0 < x → Go p e below P T (mkF m pc' Ls st)) : Go p e below P T (mkF m pc Ls (.int x :: st)) := by
  subst hf
  by_cases q : 0 < x
  · exact (ky q).of fun t q' => XS.ifYes S.X.here S.ex rfl (pc0 := pc) rfl (S.hd hd) rfl (Jvm.Free.XT.i0_gt_t q) (off0 ht) (off1 ht) q'
  · exact (kn q).of fun t q' => XS.ifNo S.X.here S.ex rfl (S.hd hd) rfl (Jvm.Free.XT.i0_gt_f q) q'
theorem Go.icmp_gt (S : St p l e R s m args below meth c Z own bytes nl ret nm h0 ws T h locs cells slots) {x y : Int32} {o : Int} {pt : Nat} (hd : decode bytes pc = .ok (.if_icmp .gt o, 3)) (ht : (pc : Int) + o = (pt : Int)) (hf : pc + 3 = pc') (ky : y < x → Go p e below P T (mkF m pt Ls st)) (kn : ¬ y < x → Go p e below P T (mkF m pc' Ls st)) : Go p e below P T (mkF m pc Ls (.int y :: .int x :: st)) := by
  subst hf
  by_cases q : y < x
  · exact (ky q).of fun t q' => XS.icmpYes S.X.here S.ex rfl (pc0 := pc) rfl (S.hd hd) rfl (Jvm.Free.XT.ii_gt_t q) (off0 ht) (off1 ht) q'
  · exact (kn q).of fun t q' => XS.icmpNo S.X.here S.ex rfl (S.hd hd) rfl (Jvm.Free.XT.ii_gt_f q) q'
theorem Go.lcmp_gt (S : St p l e R s m args below meth c Z own bytes nl ret nm h0 ws T h locs cells slots) {x y : Int64} {o : Int} {pt : Nat} {pc1 : Nat} (hd1 : decode bytes pc = .ok (.lcmp, 1)) (h1 : pc + 1 = pc1) (hd : decode bytes pc1 = .ok (.ifCond .gt o, 3)) (ht : (pc1 : Int) + o = (pt : Int)) (hf : pc1 + 3 = pc') (ky : y < x → Go p e below P T (mkF m pt Ls st)) (kn : ¬ y < x → Go p e below P T (mkF m pc' Ls st)) : Go p e below P T (mkF m pc Ls (.long y :: .long x :: st)) := by
  subst hf h1
  by_cases q : y < x
  · exact (ky q).of fun t q' => Jvm.Free.XT.lcmp S.X.here S.ex rfl (S.hd hd1) rfl (XS.ifYes S.X.here S.ex rfl (pc0 := pc + 1) rfl (S.hd hd) rfl (Jvm.Free.XT.ll_gt_t q) (off0 ht) (off1 ht) q')
  · exact (kn q).of fun t q' => Jvm.Free.XT.lcmp S.X.here S.ex rfl (S.hd hd1) rfl (XS.ifNo S.X.here S.ex rfl (S.hd hd) rfl (Jvm.Free.XT.ll_gt_f q) q')
theorem Go.if_le (S : St p l e R s m args below meth c Z own bytes nl ret nm h0 ws T h locs cells slots) {x : Int32} {o : Int} {pt : Nat} (hd : decode bytes pc = .ok (.ifCond .le o, 3)) (ht : (pc : Int) + o = (pt : Int)) (hf : pc + 3 = pc') (ky : ¬ 0 < x → Go p e below P T (mkF m pt Ls st)) (kn : 0 < x → Go p e below P T (mkF m pc' Ls st)) : Go p e below P T (mkF m pc Ls (.int x :: st)) := by
  subst hf
  by_cases q : 0 < x
  · exact (kn q).of fun t q' => XS.ifNo S.X.here S.ex rfl (S.hd hd) rfl (Jvm.Free.XT.i0_le_f q) q'
  · exact (ky q).of fun t q' => XS.ifYes S.X.here S.ex rfl (pc0 := pc) rfl (S.hd hd) rfl (Jvm.Free.XT.i0_le_t q) (off0 ht) (off1 ht) q'
theorem Go.icmp_le (S : St p l e R s m args below meth c Z own bytes nl ret nm h0 ws T h locs cells slots) {x y : Int32} {o : Int} {pt : Nat} (hd : decode bytes pc = .ok (.if_icmp .le o, 3)) (ht : (pc : Int) + o = (pt : Int)) (hf : pc + 3 = pc') (ky : ¬ y < x → Go p e below P T (mkF m pt Ls st)) (kn : y < x → Go p e below P T (mkF m pc' Ls st)) : Go p e below P T (mkF m pc Ls (.int y :: .int x :: st)) := by
  subst hf
  by_cases q : y < x
  · exact (kn q).of fun t q' => XS.icmpNo S.X.here S.ex rfl (S.hd hd) rfl (Jvm.Free.XT.ii_le_f q) q'
  · exact (ky q).of fun t q' => XS.icmpYes S.X.here S.ex rfl (pc0 := pc) rfl (S.hd hd) rfl (Jvm.Free.XT.ii_le_t q) (off0 ht) (off1 ht) q'
theorem Go.lcmp_le (S : St p l e R s m args below meth c Z own bytes nl ret nm h0 ws T h locs cells slots) {x y : Int64} {o : Int} {pt : Nat} {pc1 : Nat} (hd1 : decode bytes pc = .ok (.lcmp, 1)) (h1 : pc + 1 = pc1) (hd : decode bytes pc1 = .ok (.ifCond .le o, 3)) (ht : (pc1 : Int) + o = (pt : Int)) (hf : pc1 + 3 = pc') (ky : ¬ y < x → Go p e below P T (mkF m pt Ls st)) (kn : y < x → Go p e below P T (mkF m pc' Ls st)) : Go p e below P T (mkF m pc Ls (.long y :: .long x :: st)) := by
  subst hf h1
  by_cases q : y < x
  · exact (kn q).of fun t q' => Jvm.Free.XT.lcmp S.X.here S.ex rfl (S.hd hd1) rfl (XS.ifNo S.X.here S.ex rfl (S.hd hd) rfl (Jvm.Free.XT.ll_le_f q) q')
  · exact (ky q).of fun t q' => Jvm.Free.XT.lcmp S.X.here S.ex rfl (S.hd hd1) rfl (XS.ifYes S.X.here S.ex rfl (pc0 := pc + 1) rfl (S.hd hd) rfl (Jvm.Free.XT.ll_le_t q) (off0 ht) (off1 ht) q')
theorem Go.acmp_eq (S : St p l e R s m args below meth c Z own bytes nl ret nm h0 ws T h locs cells slots) {x y : Value} {o : Int} {pt : Nat} (hd : decode bytes pc = .ok (.if_acmp .eq o, 3)) (ht : (pc : Int) + o = (pt : Int)) (hf : pc + 3 = pc') (rx : x.isRef = true) (ry : y.isRef = true) (ky : x = y → Go p e below P T (mkF m pt Ls st)) (kn : ¬ x = y → Go p e below P T (mkF m pc' Ls st)) : Go p e below P T (mkF m pc Ls (y :: x :: st)) := by
  subst hf
  by_cases q : x = y
  · exact (ky q).of fun t q' => Jvm.RoadKit.acmp (g := mkF m pc Ls (y :: x :: st)) S.X S.ex rfl rx ry (pc0 := pc) (same := true) rfl (S.hd hd) rfl (decide_eq_true q) (off0 ht) ((off1 ht).symm.trans (if_pos rfl).symm) q'
  · exact (kn q).of fun t q' => Jvm.RoadKit.acmp (g := mkF m pc Ls (y :: x :: st)) S.X S.ex rfl rx ry (pc0 := pc) (same := false) rfl (S.hd hd) rfl (decide_eq_false q) (off0 ht) ((if_neg (fun z => nomatch z)).symm) q'
theorem Go.acmp_ne (S : St p l e R s m args below meth c Z own bytes nl ret nm h0 ws T h locs cells slots) {x y : Value} {o : Int} {pt : Nat} (hd : decode bytes pc = .ok (.if_acmp .ne o, 3)) (ht : (pc : Int) + o = (pt : Int)) (hf : pc + 3 = pc') (rx : x.isRef = true) (ry : y.isRef = true) (ky : ¬ x = y → Go p e below P T (mkF m pt Ls st)) (kn : x = y → Go p e below P T (mkF m pc' Ls st)) : Go p e below P T (mkF m pc Ls (y :: x :: st)) := by
  subst hf
  by_cases q : x = y
  · exact (kn q).of fun t q' => Jvm.RoadKit.acmp (g := mkF m pc Ls (y :: x :: st)) S.X S.ex rfl rx ry (pc0 := pc) (same := true) rfl (S.hd hd) rfl (decide_eq_true q) (off0 ht) ((if_neg (fun z => nomatch z)).symm) q'
  · exact (ky q).of fun t q' => Jvm.RoadKit.acmp (g := mkF m pc Ls (y :: x :: st)) S.X S.ex rfl rx ry (pc0 := pc) (same := false) rfl (S.hd hd) rfl (decide_eq_false q) (off0 ht) ((off1 ht).symm.trans (if_pos rfl).symm) q'
theorem Go.ifnullY (S : St p l e R s m args below meth c Z own bytes nl ret nm h0 ws T h locs cells slots) {o : Int} {pt : Nat} (hd : decode bytes pc = .ok (.ifnull o, 3)) (ht : (pc : Int) + o = (pt : Int)) (k : Go p e below P T (mkF m pt Ls st)) : Go p e below P T (mkF m pc Ls (.null :: st)) :=
  k.of fun t q => XS.ifnullYes S.X.here S.ex rfl (pc0 := pc) rfl (S.hd hd) rfl (off0 ht) (off1 ht) q
theorem Go.ifnullN (S : St p l e R s m args below meth c Z own bytes nl ret nm h0 ws T h locs cells slots) {o : Int} {b : Addr} (hd : decode bytes pc = .ok (.ifnull o, 3)) (hf : pc + 3 = pc') (k : Go p e below P T (mkF m pc' Ls st)) : Go p e below P T (mkF m pc Ls (.ref b :: st)) := by
  subst hf
  exact k.of fun t q => XS.ifnullNo S.X.here S.ex rfl (S.hd hd) rfl q
theorem Go.ifnonnullY (S : St p l e R s m args below meth c Z own bytes nl ret nm h0 ws T h locs cells slots) {o : Int} {pt : Nat} {b : Addr} (hd : decode bytes pc = .ok (.ifnonnull o, 3)) (ht : (pc : Int) + o = (pt : Int)) (k : Go p e below P T (mkF m pt Ls st)) : Go p e below P T (mkF m pc Ls (.ref b :: st)) :=
  k.of fun t q => XS.ifnonnullYes S.X.here S.ex rfl (pc0 := pc) rfl (S.hd hd) rfl (off0 ht) (off1 ht) q
theorem Go.ifnonnullN (S : St p l e R s m args below meth c Z own bytes nl ret nm h0 ws T h locs cells slots) {o : Int} (hd : decode bytes pc = .ok (.ifnonnull o, 3)) (hf : pc + 3 = pc') (k : Go p e below P T (mkF m pc' Ls st)) : Go p e below P T (mkF m pc Ls (.null :: st)) := by
  subst hf
  exact k.of fun t q => XS.ifnonnullNo S.X.here S.ex rfl (S.hd hd) rfl q
theorem Go.ldc (S : St p l e R s m args below meth c Z own bytes nl ret nm h0 ws T h locs cells slots) {index : Nat} {v : Int32} (w : (Jvm.Cond.constant own index v).before a0 Z = true) (hd : decode bytes pc = .ok (.ldc index, 2)) (hp : pc + 2 = pc') (k : Go p e below P T (mkF m pc' Ls (.int v :: st))) : Go p e below P T (mkF m pc Ls st) := by
  subst hp
  exact k.of fun t q => S.X.ldcInt S.ex S.hown (mvT S.hZ w) (g := mkF m pc Ls st) rfl (S.hd hd) _ q
theorem Go.ldc2 (S : St p l e R s m args below meth c Z own bytes nl ret nm h0 ws T h locs cells slots) {index : Nat} {v : Int64} (w : (Jvm.Cond.constantLong own index v).before a0 Z = true) (hd : decode bytes pc = .ok (.ldc2_w index, 3)) (hp : pc + 3 = pc') (k : Go p e below P T (mkF m pc' Ls (.long v :: st))) : Go p e below P T (mkF m pc Ls st) := by
  subst hp
  exact k.of fun t q => S.X.ldc2Long S.ex S.hown (mvT S.hZ w) (g := mkF m pc Ls st) rfl (S.hd hd) _ q
theorem Go.leaves (S : St p l e R s m args below meth c Z own bytes nl ret nm h0 ws T h locs cells slots) {kc ks : Nat} {Q : Option Value → Heap → Prop} {g : JFrame} {v : Option Value} (hv : ret = none → v = none) (hc : cells ≤ kc) (hs : slots ≤ ks)
    (step : ∀ fs : List Frame, (∀ (f : JFrame) (acts : List Action), f.method = m → f.locked = none → f.entered = [] → (doReturn e (T.setTop f) acts v).1 = T.setFrames fs) → Steps p.tables e below (T.setTop g) (T.setFrames fs)) (q : Q v h) : Go p e below (PostOf Z s h0 ws kc ks Q) T g := by
  obtain ⟨fs, hr, hrun, hended, hW, hsame⟩ := S.X.leave (v := v) (fun q => hv (S.hret ▸ q)) S.locks
  refine ⟨_, _, step fs hr, hrun, hended, v, locs, rfl, ⟨S.fr, ?_, ?_, ?_⟩, ⟨_, rfl⟩, hW, hsame.mono hc hs⟩
  · show Keep h0 T.heap ws
    rw [S.eT]; exact S.keep
  · show Ext Z.heap T.heap
    rw [S.eT]; exact S.ext
  · show Q v T.heap
    rw [S.eT]; exact q
theorem St.leaves0 (S : St p l e R s m args below meth c Z own bytes nl ret nm h0 ws T h locs cells slots) {kc ks : Nat} {Q : Option Value → Heap → Prop} {g : JFrame} {w : Value} {t : FieldType} (hret : ret = some t) (hc : cells ≤ kc) (hs : slots ≤ ks) (q : Q (some w) h)
    (step : ∀ fs : List Frame, (∀ (f : JFrame) (acts : List Action), f.method = m → f.locked = none → f.entered = [] → (doReturn e (T.setTop f) acts (some w)).1 = T.setFrames fs) → Steps p.tables e below (T.setTop g) (T.setFrames fs)) : Go p e below (PostOf Z s h0 ws kc ks Q) T g :=
  Go.leaves S (fun q => by rw [hret] at q; cases q) hc hs step q
theorem narrow_ref {t : FieldType} {w : Value} (ht : t.isReference = true) (hw : w.isRef = true) : narrow t w = w := by
  rcases ref_cases hw with rfl | ⟨a, rfl⟩ <;> cases t <;> rfl
theorem Go.ireturn (S : St p l e R s m args below meth c Z own bytes nl ret nm h0 ws T h locs cells slots) {kc ks : Nat} {Q : Option Value → Heap → Prop} {z : Int32} (hret : ret = some .int) (hd : decode bytes pc = .ok (.ireturn, 1)) (hc : cells ≤ kc) (hs : slots ≤ ks) (q : Q (some (.int z)) h) : Go p e below (PostOf Z s h0 ws kc ks Q) T (mkF m pc Ls (.int z :: st)) :=
  S.leaves0 hret hc hs q fun fs hr => retOut S.X S.ex (t := .int) (i := .ireturn) (S.hret.trans hret) rfl (Or.inl ⟨rfl, Or.inl rfl, z, rfl⟩) (S.hd hd) hr
theorem Go.lreturn (S : St p l e R s m args below meth c Z own bytes nl ret nm h0 ws T h locs cells slots) {kc ks : Nat} {Q : Option Value → Heap → Prop} {z : Int64} (hret : ret = some .long) (hd : decode bytes pc = .ok (.lreturn, 1)) (hc : cells ≤ kc) (hs : slots ≤ ks) (q : Q (some (.long z)) h) : Go p e below (PostOf Z s h0 ws kc ks Q) T (mkF m pc Ls (.long z :: st)) :=
  S.leaves0 hret hc hs q fun fs hr => retOut S.X S.ex (t := .long) (i := .lreturn) (S.hret.trans hret) rfl (Or.inr (Or.inl ⟨rfl, rfl, z, rfl⟩)) (S.hd hd) hr
theorem Go.areturn (S : St p l e R s m args below meth c Z own bytes nl ret nm h0 ws T h locs cells slots) {kc ks : Nat} {Q : Option Value → Heap → Prop} {w : Value} {t : FieldType} (hret : ret = some t) (ht : t.isReference = true) (hw : w.isRef = true) (hd : decode bytes pc = .ok (.areturn, 1)) (hc : cells ≤ kc) (hs : slots ≤ ks) (q : Q (some w) h) : Go p e below (PostOf Z s h0 ws kc ks Q) T (mkF m pc Ls (w :: st)) :=
  S.leaves0 hret hc hs q fun fs hr => retOut S.X S.ex (i := .areturn) (S.hret.trans hret) (narrow_ref ht hw) (Or.inr (Or.inr (Or.inr (Or.inr ⟨rfl, ht, hw⟩)))) (S.hd hd) hr
theorem Go.zreturn (S : St p l e R s m args below meth c Z own bytes nl ret nm h0 ws T h locs cells slots) {kc ks : Nat} {Q : Option Value → Heap → Prop} {z z' : Int32} {t : FieldType} (hret : ret = some t) (ht : t = .boolean ∨ t = .byte ∨ t = .char ∨ t = .short) (hd : decode bytes pc = .ok (.ireturn, 1)) (hz : nar t z = z') (hc : cells ≤ kc) (hs : slots ≤ ks) (q : Q (some (.int z')) h) : Go p e below (PostOf Z s h0 ws kc ks Q) T (mkF m pc Ls (.int z :: st)) := by
  subst hz
  exact S.leaves0 hret hc hs q fun fs hr => retN S.X S.ex (S.hret.trans hret) ht (S.hd hd) hr
theorem Go.vreturn (S : St p l e R s m args below meth c Z own bytes nl ret nm h0 ws T h locs cells slots) {kc ks : Nat} {Q : Option Value → Heap → Prop} (hret : ret = none) (hd : decode bytes pc = .ok (.return_, 1)) (hc : cells ≤ kc) (hs : slots ≤ ks) (q : Q none h) : Go p e below (PostOf Z s h0 ws kc ks Q) T (mkF m pc Ls []) :=
  Go.leaves S (fun _ => rfl) hc hs (fun fs hr => S.X.returnOut S.ex (S.hret.trans hret) (S.hd hd) hr) q
theorem Go.getfield (S : St p l e R s m args below meth c Z own bytes nl ret nm h0 ws T h locs cells slots) {R0 O n d host : String} {index : Nat} {a : Addr} {v : Value} (w : ((Jvm.Cond.fieldLink own index R0 n d).before a0 Z = true ∨ (Jvm.Cond.fieldLinkNest own index R0 n d host).before a0 Z = true)) (via : Via Z R0 O n d) (F : Fld Z h a O n d v) (hd : decode bytes pc = .ok (.getfield index, 3)) (hp : pc + 3 = pc')
    (k : ∀ T', St p l e R s m args below meth c Z own bytes nl ret nm h0 ws T' h locs cells slots → Go p e below P T' (mkF m pc' Ls (v :: st))) : Go p e below P T (mkF m pc Ls (.ref a :: st)) := by
  subst hp
  obtain ⟨T', X', e', f⟩ := getF S.X S.ex S.hZ S.hown w via S.eT F (g := mkF m pc Ls (.ref a :: st)) rfl rfl (S.hd hd)
  exact (k T' (S.next X' e' S.fr S.keep S.ext)).of f
theorem Go.getstatic (S : St p l e R s m args below meth c Z own bytes nl ret nm h0 ws T h locs cells slots) {R0 O n d host : String} {index : Nat} {v : Value} (w : ((Jvm.Cond.fieldLink own index R0 n d).before a0 Z = true ∨ (Jvm.Cond.fieldLinkNest own index R0 n d host).before a0 Z = true)) (via : Via Z R0 O n d) (F : Sta Z Z.heap O n d v) (hd : decode bytes pc = .ok (.getstatic index, 3)) (hp : pc + 3 = pc')
    (k : ∀ T', St p l e R s m args below meth c Z own bytes nl ret nm h0 ws T' h locs cells slots → Go p e below P T' (mkF m pc' Ls (v :: st))) : Go p e below P T (mkF m pc Ls st) := by
  subst hp
  obtain ⟨T', X', e', f⟩ := getS2 S.X S.ex S.hZ S.hown w via S.eT (F.ext S.ext) (g := mkF m pc Ls st) rfl (S.hd hd)
  exact (k T' (S.next X' e' S.fr S.keep S.ext)).of f
theorem St.wrote (S : St p l e R s m args below meth c Z own bytes nl ret nm h0 ws T h locs cells slots) {T' : State} {h' : Heap} {a : Addr} {sl : Nat} {v : Value} (X : Stand p l e R s m args below meth c T' (locs ++ [⟨a, sl⟩]) cells slots) (e1 : T'.heap = h') (W : Wr h h' a sl v) (hz : Z.heap.size ≤ a) (hws : a ∈ ws ∨ h0.size ≤ a) : St p l e R s m args below meth c Z own bytes nl ret nm h0 ws T' h' (locs ++ [⟨a, sl⟩]) cells slots :=
  S.next X e1 (Fr.snoc X S.fr hz) (S.keep.wr W hws) (Old.wr (n0 := Z.heap.size) ⟨rfl, S.ext⟩ W hz).2
theorem Go.putfield (S : St p l e R s m args below meth c Z own bytes nl ret nm h0 ws T h locs cells slots) {R0 O n d host C : String} {index kk : Nat} {ty : FieldType} {a : Addr} {v old : Value} (w : ((Jvm.Cond.fieldLink own index R0 n d).before a0 Z = true ∨ (Jvm.Cond.fieldLinkNest own index R0 n d host).before a0 Z = true)) (via : Via Z R0 O n d) (F : Fld Z h a O n d old) (E : Exa Z h a C)
    (L : (Jvm.Cond.lays C O n d).before a0 Z = true ∨ ((Jvm.Cond.laysFinal C O n d).before a0 Z = true ∧ own = O ∧ nm = "<init>")) (wi : (Jvm.Cond.instantiable C kk).before a0 Z = true) (hty : parseFieldDescriptor d = some ty) (hn : narrow ty v = v) (hf : fits ty v = true)
    (hz : Z.heap.size ≤ a) (hws : a ∈ ws ∨ h0.size ≤ a) (hd : decode bytes pc = .ok (.putfield index, 3)) (hp : pc + 3 = pc')
    (k : ∀ T' h' locs', St p l e R s m args below meth c Z own bytes nl ret nm h0 ws T' h' locs' cells slots → Wr h h' a (Jvm.RoadKit.slotOf Z O n d) v → Go p e below P T' (mkF m pc' Ls st)) : Go p e below P T (mkF m pc Ls (v :: .ref a :: st)) := by
  subst hp
  obtain ⟨T', h', X', e', W, f⟩ := putF S.X S.ex S.hZ S.hown w via S.eT F E (L.imp id fun q => ⟨q.1, q.2.1, S.hnm.trans q.2.2⟩) wi hty hn hf (g := mkF m pc Ls (v :: .ref a :: st)) rfl rfl (S.hd hd)
  exact (k T' h' _ (S.wrote X' e' W hz hws) W).of f
theorem Go.putfieldN (S : St p l e R s m args below meth c Z own bytes nl ret nm h0 ws T h locs cells slots) {R0 O n d C : String} {index kk : Nat} {ty : FieldType} {a : Addr} {v v' old : Value} (w : (Jvm.Cond.fieldLink own index R0 n d).before a0 Z = true) (via : Via Z R0 O n d) (F : Fld Z h a O n d old) (E : Exa Z h a C)
    (L : (Jvm.Cond.lays C O n d).before a0 Z = true ∨ ((Jvm.Cond.laysFinal C O n d).before a0 Z = true ∧ own = O ∧ nm = "<init>")) (wi : (Jvm.Cond.instantiable C kk).before a0 Z = true) (hty : parseFieldDescriptor d = some ty) (hn : narrow ty v = v') (hf : fits ty v' = true)
    (hz : Z.heap.size ≤ a) (hws : a ∈ ws ∨ h0.size ≤ a) (hd : decode bytes pc = .ok (.putfield index, 3)) (hp : pc + 3 = pc')
    (k : ∀ T' h' locs', St p l e R s m args below meth c Z own bytes nl ret nm h0 ws T' h' locs' cells slots → Wr h h' a (Jvm.RoadKit.slotOf Z O n d) v' → Go p e below P T' (mkF m pc' Ls st)) : Go p e below P T (mkF m pc Ls (v :: .ref a :: st)) := by
  subst hp
  obtain ⟨T', h', X', e', W, f⟩ := putFN S.X S.ex S.hZ S.hown w via S.eT F E (L.imp id fun q => ⟨q.1, q.2.1, S.hnm.trans q.2.2⟩) wi hty hn hf (g := mkF m pc Ls (v :: .ref a :: st)) rfl rfl (S.hd hd)
  exact (k T' h' _ (S.wrote X' e' W hz hws) W).of f
theorem St.made (S : St p l e R s m args below meth c Z own bytes nl ret nm h0 ws T h locs cells slots) {T' : State} {h' : Heap} {cells' slots' : Nat} (X : Stand p l e R s m args below meth c T' locs cells' slots') (e1 : T'.heap = h') (E : Ext h h') : St p l e R s m args below meth c Z own bytes nl ret nm h0 ws T' h' locs cells' slots' :=
  S.next X e1 S.fr (S.keep.ext E) (Old.ext (n0 := Z.heap.size) ⟨rfl, S.ext⟩ E).2
theorem Go.new (S : St p l e R s m args below meth c Z own bytes nl ret nm h0 ws T h locs cells slots) {C : String} {index n : Nat} (w : (Jvm.Cond.classLink own index C).before a0 Z = true) (wi : (Jvm.Cond.instantiable C n).before a0 Z = true) (wz : (Jvm.Cond.initialized C).before a0 Z = true) (hd : decode bytes pc = .ok (.new index, 3)) (hc : cells + 1 ≤ R.cells) (hl : slots + n ≤ R.slots) (hp : pc + 3 = pc')
    (k : ∀ T' h' a, St p l e R s m args below meth c Z own bytes nl ret nm h0 ws T' h' locs (cells + 1) (slots + n) → Ext h h' → h.size = a → Z.heap.size ≤ a → h0.size ≤ a → Exa Z h' a C → (∀ {O nm d : String} {ty : FieldType}, Laid Z a0 C O nm d → parseFieldDescriptor d = some ty → Fld Z h' a O nm d (defaultValue ty)) → Go p e below P T' (mkF m pc' Ls (.ref a :: st))) : Go p e below P T (mkF m pc Ls st) := by
  subst hp
  obtain ⟨T', h', X', e', E, A, D, -, f⟩ := newO S.X S.ex S.hZ S.hown w wi wz S.eT (g := mkF m pc Ls st) rfl (S.hd hd) hc hl
  exact (k T' h' h.size (S.made X' e' E) E rfl S.ext.1 S.keep.1 A D).of f
theorem Go.newarray (S : St p l e R s m args below meth c Z own bytes nl ret nm h0 ws T h locs cells slots) {aty : ArrayType} {n : Int32} {cap : Nat} {ty : FieldType} {dv : Value} (hty : newarray.typeOf aty = ty) (hdv : defaultValue ty = dv) (w : (Jvm.Cond.arrayClass ty).before a0 Z = true) (hd : decode bytes pc = .ok (.newarray aty, 2)) (hn : ¬ n < 0) (hcap : n.toNatClampNeg ≤ cap) (hb : cap * 8 ≤ 536870912) (hc : cells + 1 ≤ R.cells) (hl : slots + cap ≤ R.slots) (hp : pc + 2 = pc')
    (k : ∀ T' h' a cA, St p l e R s m args below meth c Z own bytes nl ret nm h0 ws T' h' locs (cells + 1) (slots + cap) → Ext h h' → h.size = a → Z.heap.size ≤ a → h0.size ≤ a → Arv Z h' a cA ty n (List.replicate cap dv) dv → Go p e below P T' (mkF m pc' Ls (.ref a :: st))) : Go p e below P T (mkF m pc Ls (.int n :: st)) := by
  subst hp hty hdv
  obtain ⟨T', h', cA, X', e', E, A, f⟩ := newP S.X S.ex S.hZ w S.eT (g := mkF m pc Ls (.int n :: st)) rfl (S.hd hd) rfl hn hcap hb hc hl
  exact (k T' h' h.size cA (S.made X' e' E) E rfl S.ext.1 S.keep.1 ((Arv.new A hn).pad (pad_rep [] _ cap))).of f
theorem Go.anewarray (S : St p l e R s m args below meth c Z own bytes nl ret nm h0 ws T h locs cells slots) {C : String} {index : Nat} {n : Int32} {cap : Nat} (w1 : (Jvm.Cond.classLink own index C).before a0 Z = true) (w2 : (Jvm.Cond.arrayOver (.object C)).before a0 Z = true) (hd : decode bytes pc = .ok (.anewarray index, 3)) (hn : ¬ n < 0) (hcap : n.toNatClampNeg ≤ cap) (hb : cap * 8 ≤ 536870912) (hc : cells + 1 ≤ R.cells) (hl : slots + cap ≤ R.slots) (hp : pc + 3 = pc')
    (k : ∀ T' h' a cA, St p l e R s m args below meth c Z own bytes nl ret nm h0 ws T' h' locs (cells + 1) (slots + cap) → Ext h h' → h.size = a → Z.heap.size ≤ a → h0.size ≤ a → Arv Z h' a cA (.object C) n (List.replicate cap .null) .null → Ovr Z cA C → Go p e below P T' (mkF m pc' Ls (.ref a :: st))) : Go p e below P T (mkF m pc Ls (.int n :: st)) := by
  subst hp
  obtain ⟨T', h', cA, X', e', E, A, O, f⟩ := newR S.X S.ex S.hZ S.hown w1 w2 S.eT (g := mkF m pc Ls (.int n :: st)) rfl (S.hd hd) rfl hn hcap hb hc hl
  exact (k T' h' h.size cA (S.made X' e' E) E rfl S.ext.1 S.keep.1 ((Arv.new A hn).pad (pad_rep [] _ cap)) O).of f
theorem Go.iastore (S : St p l e R s m args below meth c Z own bytes nl ret nm h0 ws T h locs cells slots) {a : Addr} {kA : ClassId} {n j : Int32} {x : Int32} {vs : List Value} {dv : Value} {i : Nat} (V : Arv Z h a kA .int n vs dv) (hj : ¬ j < 0 ∧ j < n) (hi : j.toNatClampNeg = i) (hl : i < vs.length) (hz : Z.heap.size ≤ a) (hws : a ∈ ws ∨ h0.size ≤ a) (hd : decode bytes pc = .ok (.iastore, 1)) (hp : pc + 1 = pc')
    (k : ∀ T' h' locs', St p l e R s m args below meth c Z own bytes nl ret nm h0 ws T' h' locs' cells slots → Wr h h' a j.toNatClampNeg (.int x) → Arv Z h' a kA .int n (vs.set i (.int x)) dv → Go p e below P T' (mkF m pc' Ls st)) : Go p e below P T (mkF m pc Ls (.int x :: .int j :: .ref a :: st)) := by
  subst hp
  obtain ⟨cl, A, q1, q2, q3, H, F⟩ := V
  obtain ⟨T', h', X', e', W, f⟩ := stI S.X S.ex S.hZ S.eT A (j := j) (x := x) (inb_of q2 hj) (g := mkF m pc Ls (.int x :: .int j :: .ref a :: st)) rfl rfl (S.hd hd)
  exact (k T' h' _ (S.wrote X' e' W hz hws) W (Arv.set A q1 q2 q3 H F rfl W i hi hl)).of f
theorem Go.castore (S : St p l e R s m args below meth c Z own bytes nl ret nm h0 ws T h locs cells slots) {a : Addr} {kA : ClassId} {n j : Int32} {x : Int32} {vs : List Value} {dv : Value} {i : Nat} (V : Arv Z h a kA .char n vs dv) (hj : ¬ j < 0 ∧ j < n) (hi : j.toNatClampNeg = i) (hl : i < vs.length) (hz : Z.heap.size ≤ a) (hws : a ∈ ws ∨ h0.size ≤ a) (hd : decode bytes pc = .ok (.castore, 1)) (hp : pc + 1 = pc')
    (k : ∀ T' h' locs', St p l e R s m args below meth c Z own bytes nl ret nm h0 ws T' h' locs' cells slots → Wr h h' a j.toNatClampNeg (.int (nar .char x)) → Arv Z h' a kA .char n (vs.set i (.int (nar .char x))) dv → Go p e below P T' (mkF m pc' Ls st)) : Go p e below P T (mkF m pc Ls (.int x :: .int j :: .ref a :: st)) := by
  subst hp
  obtain ⟨cl, A, q1, q2, q3, H, F⟩ := V
  obtain ⟨T', h', X', e', W, f⟩ := stC S.X S.ex S.hZ S.eT A (j := j) (x := x) (inb_of q2 hj) (g := mkF m pc Ls (.int x :: .int j :: .ref a :: st)) rfl rfl (S.hd hd)
  exact (k T' h' _ (S.wrote X' e' W hz hws) W (Arv.set A q1 q2 q3 H F (fits_nar_char _) W i hi hl)).of f
theorem Go.bastore (S : St p l e R s m args below meth c Z own bytes nl ret nm h0 ws T h locs cells slots) {a : Addr} {kA : ClassId} {n j : Int32} {x : Int32} {vs : List Value} {dv : Value} {i : Nat} (V : Arv Z h a kA .byte n vs dv) (hj : ¬ j < 0 ∧ j < n) (hi : j.toNatClampNeg = i) (hl : i < vs.length) (hz : Z.heap.size ≤ a) (hws : a ∈ ws ∨ h0.size ≤ a) (hd : decode bytes pc = .ok (.bastore, 1)) (hp : pc + 1 = pc')
    (k : ∀ T' h' locs', St p l e R s m args below meth c Z own bytes nl ret nm h0 ws T' h' locs' cells slots → Wr h h' a j.toNatClampNeg (.int (nar .byte x)) → Arv Z h' a kA .byte n (vs.set i (.int (nar .byte x))) dv → Go p e below P T' (mkF m pc' Ls st)) : Go p e below P T (mkF m pc Ls (.int x :: .int j :: .ref a :: st)) := by
  subst hp
  obtain ⟨cl, A, q1, q2, q3, H, F⟩ := V
  obtain ⟨T', h', X', e', W, f⟩ := stB S.X S.ex S.hZ S.eT A (j := j) (x := x) (inb_of q2 hj) (g := mkF m pc Ls (.int x :: .int j :: .ref a :: st)) rfl rfl (S.hd hd)
  exact (k T' h' _ (S.wrote X' e' W hz hws) W (Arv.set A q1 q2 q3 H F (fits_nar_byte _) W i hi hl)).of f
theorem Go.lastore (S : St p l e R s m args below meth c Z own bytes nl ret nm h0 ws T h locs cells slots) {a : Addr} {kA : ClassId} {n j : Int32} {x : Int64} {vs : List Value} {dv : Value} {i : Nat} (V : Arv Z h a kA .long n vs dv) (hj : ¬ j < 0 ∧ j < n) (hi : j.toNatClampNeg = i) (hl : i < vs.length) (hz : Z.heap.size ≤ a) (hws : a ∈ ws ∨ h0.size ≤ a) (hd : decode bytes pc = .ok (.lastore, 1)) (hp : pc + 1 = pc')
    (k : ∀ T' h' locs', St p l e R s m args below meth c Z own bytes nl ret nm h0 ws T' h' locs' cells slots → Wr h h' a j.toNatClampNeg (.long x) → Arv Z h' a kA .long n (vs.set i (.long x)) dv → Go p e below P T' (mkF m pc' Ls st)) : Go p e below P T (mkF m pc Ls (.long x :: .int j :: .ref a :: st)) := by
  subst hp
  obtain ⟨cl, A, q1, q2, q3, H, F⟩ := V
  obtain ⟨T', h', X', e', W, f⟩ := stJ S.X S.ex S.hZ S.eT A (j := j) (x := x) (inb_of q2 hj) (g := mkF m pc Ls (.long x :: .int j :: .ref a :: st)) rfl rfl (S.hd hd)
  exact (k T' h' _ (S.wrote X' e' W hz hws) W (Arv.set A q1 q2 q3 H F rfl W i hi hl)).of f
theorem Go.aastore (S : St p l e R s m args below meth c Z own bytes nl ret nm h0 ws T h locs cells slots) {a : Addr} {kA : ClassId} {ty : FieldType} {n j : Int32} {v : Value} {vs : List Value} {dv : Value} {i : Nat} (V : Arv Z h a kA ty n vs dv) (hty : ty.isReference = true) (hj : ¬ j < 0 ∧ j < n) (hi : j.toNatClampNeg = i) (hl : i < vs.length) (hfit : fits ty v = true) (F : Sto Z h a v) (hz : Z.heap.size ≤ a) (hws : a ∈ ws ∨ h0.size ≤ a) (hd : decode bytes pc = .ok (.aastore, 1)) (hp : pc + 1 = pc')
    (k : ∀ T' h' locs', St p l e R s m args below meth c Z own bytes nl ret nm h0 ws T' h' locs' cells slots → Wr h h' a j.toNatClampNeg v → Arv Z h' a kA ty n (vs.set i v) dv → Go p e below P T' (mkF m pc' Ls st)) : Go p e below P T (mkF m pc Ls (v :: .int j :: .ref a :: st)) := by
  subst hp
  obtain ⟨cl, A, q1, q2, q3, H, F'⟩ := V
  obtain ⟨T', h', X', e', W, f⟩ := stR S.X S.ex S.hZ S.eT A (j := j) (v := v) (inb_of q2 hj) hty F (g := mkF m pc Ls (v :: .int j :: .ref a :: st)) rfl rfl (S.hd hd)
  exact (k T' h' _ (S.wrote X' e' W hz hws) W (Arv.set A q1 q2 q3 H F' hfit W i hi hl)).of f
theorem Go.iaload (S : St p l e R s m args below meth c Z own bytes nl ret nm h0 ws T h locs cells slots) {a : Addr} {kA : ClassId} {n j : Int32} {v : Value} {vs : List Value} {dv : Value} (V : Arv Z h a kA .int n vs dv) (hj : ¬ j < 0 ∧ j < n) (hv : vs.getD j.toNatClampNeg dv = v) (hd : decode bytes pc = .ok (.iaload, 1)) (hp : pc + 1 = pc') (k : Go p e below P T (mkF m pc' Ls (v :: st))) : Go p e below P T (mkF m pc Ls (.int j :: .ref a :: st)) := by
  subst hp
  obtain ⟨cl, A, q1, q2, q3, H, F⟩ := V
  exact k.of fun t q => S.X.iaload S.ex (j := j) (v := v) (by rw [S.eT]; exact A.1) (State.isArrayOf_alike S.hZ.alike A.2.1) A.2.2 (inb_of q2 hj) (H.at (inb_of q2 hj) hv) (g := mkF m pc Ls (.int j :: .ref a :: st)) rfl rfl (S.hd hd) _ q
theorem Go.laload (S : St p l e R s m args below meth c Z own bytes nl ret nm h0 ws T h locs cells slots) {a : Addr} {kA : ClassId} {n j : Int32} {v : Value} {vs : List Value} {dv : Value} (V : Arv Z h a kA .long n vs dv) (hj : ¬ j < 0 ∧ j < n) (hv : vs.getD j.toNatClampNeg dv = v) (hd : decode bytes pc = .ok (.laload, 1)) (hp : pc + 1 = pc') (k : Go p e below P T (mkF m pc' Ls (v :: st))) : Go p e below P T (mkF m pc Ls (.int j :: .ref a :: st)) := by
  subst hp
  obtain ⟨cl, A, q1, q2, q3, H, F⟩ := V
  exact k.of fun t q => S.X.laload S.ex (j := j) (v := v) (by rw [S.eT]; exact A.1) (State.isArrayOf_alike S.hZ.alike A.2.1) A.2.2 (inb_of q2 hj) (H.at (inb_of q2 hj) hv) (g := mkF m pc Ls (.int j :: .ref a :: st)) rfl rfl (S.hd hd) _ q
theorem Go.caload (S : St p l e R s m args below meth c Z own bytes nl ret nm h0 ws T h locs cells slots) {a : Addr} {kA : ClassId} {n j : Int32} {v : Value} {vs : List Value} {dv : Value} (V : Arv Z h a kA .char n vs dv) (hj : ¬ j < 0 ∧ j < n) (hv : vs.getD j.toNatClampNeg dv = v) (hd : decode bytes pc = .ok (.caload, 1)) (hp : pc + 1 = pc') (k : Go p e below P T (mkF m pc' Ls (v :: st))) : Go p e below P T (mkF m pc Ls (.int j :: .ref a :: st)) := by
  subst hp
  obtain ⟨cl, A, q1, q2, q3, H, F⟩ := V
  exact k.of fun t q => S.X.caload S.ex (j := j) (v := v) (by rw [S.eT]; exact A.1) (State.isArrayOf_alike S.hZ.alike A.2.1) A.2.2 (inb_of q2 hj) (H.at (inb_of q2 hj) hv) (g := mkF m pc Ls (.int j :: .ref a :: st)) rfl rfl (S.hd hd) _ q
theorem Go.baload (S : St p l e R s m args below meth c Z own bytes nl ret nm h0 ws T h locs cells slots) {a : Addr} {kA : ClassId} {n j : Int32} {v : Value} {vs : List Value} {dv : Value} (V : Arv Z h a kA .byte n vs dv) (hj : ¬ j < 0 ∧ j < n) (hv : vs.getD j.toNatClampNeg dv = v) (hd : decode bytes pc = .ok (.baload, 1)) (hp : pc + 1 = pc') (k : Go p e below P T (mkF m pc' Ls (v :: st))) : Go p e below P T (mkF m pc Ls (.int j :: .ref a :: st)) := by
  subst hp
  obtain ⟨cl, A, q1, q2, q3, H, F⟩ := V
  exact k.of fun t q => S.X.baloadBytes S.ex (j := j) (v := v) (by rw [S.eT]; exact A.1) (State.isArrayOf_alike S.hZ.alike A.2.1) A.2.2 (inb_of q2 hj) (H.at (inb_of q2 hj) hv) (g := mkF m pc Ls (.int j :: .ref a :: st)) rfl rfl (S.hd hd) _ q
theorem Go.aaload (S : St p l e R s m args below meth c Z own bytes nl ret nm h0 ws T h locs cells slots) {a : Addr} {kA : ClassId} {ty : FieldType} {n j : Int32} {v : Value} {vs : List Value} {dv : Value} (V : Arv Z h a kA ty n vs dv) (hty : ty.isReference = true) (hj : ¬ j < 0 ∧ j < n) (hv : vs.getD j.toNatClampNeg dv = v) (hd : decode bytes pc = .ok (.aaload, 1)) (hp : pc + 1 = pc') (k : Go p e below P T (mkF m pc' Ls (v :: st))) : Go p e below P T (mkF m pc Ls (.int j :: .ref a :: st)) := by
  subst hp
  obtain ⟨cl, A, q1, q2, q3, H, F⟩ := V
  exact k.of fun t q => S.X.aaload S.ex (j := j) (v := v) (by rw [S.eT]; exact A.1) (State.isArrayOf_alike S.hZ.alike A.2.1) hty A.2.2 (inb_of q2 hj) (H.at (inb_of q2 hj) hv) (g := mkF m pc Ls (.int j :: .ref a :: st)) rfl rfl (S.hd hd) _ q
theorem Go.arraylength (S : St p l e R s m args below meth c Z own bytes nl ret nm h0 ws T h locs cells slots) {a : Addr} {kA : ClassId} {ty : FieldType} {n : Int32} {vs : List Value} {dv : Value} (V : Arv Z h a kA ty n vs dv) (hd : decode bytes pc = .ok (.arraylength, 1)) (hp : pc + 1 = pc') (k : Go p e below P T (mkF m pc' Ls (.int n :: st))) : Go p e below P T (mkF m pc Ls (.ref a :: st)) := by
  subst hp
  obtain ⟨cl, A, q1, q2, q3, H, F⟩ := V
  exact k.of fun t q => S.X.arraylength S.ex (by rw [S.eT]; exact A.1) (State.isArrayOf_alike S.hZ.alike A.2.1) (g := mkF m pc Ls (.ref a :: st)) rfl rfl (S.hd hd) _ (by rw [len_of q2 q3]; exact q)
theorem Go.initObject (S : St p l e R s m args below meth c Z own bytes nl ret nm h0 ws T h locs cells slots) {idx : Nat} {a : Addr} {W : Nat} (w1 : (Jvm.Cond.methodLink own idx Lib.objectInit).before a0 Z = true) (w2 : (Jvm.Cond.instanceMethod Lib.objectInit).before a0 Z = true) (w3 : (Jvm.Cond.code Lib.objectInit ⟨#[0xb1]⟩ 1 none).before a0 Z = true) (hd : decode bytes pc = .ok (.invokespecial idx, 3)) (hsz : Ls.size = nl) (hf : 1 ≤ R.frames) (hW : (st.map fun v => v.category).sum = W) (hl : W + 12 ≤ R.locals) (hp : pc + 3 = pc')
    (k : ∀ T', St p l e R s m args below meth c Z own bytes nl ret nm h0 ws T' h locs cells slots → Go p e below P T' (mkF m pc' Ls st)) : Go p e below P T (mkF m pc Ls (.ref a :: st)) := by
  subst hp
  obtain ⟨T', X', e', f⟩ := initO S.X S.ex S.hZ S.hown w1 w2 w3 S.eT (g := mkF m pc Ls (.ref a :: st)) rfl (hsz.trans S.hnl.symm) rfl (S.hd hd) hf (W := W) (by show 2 * 0 + _ ≤ _; rw [hW]; omega) hl
  exact (k T' (S.next X' e' S.fr S.keep S.ext)).of f
theorem Go.checkcast (S : St p l e R s m args below meth c Z own bytes nl ret nm h0 ws T h locs cells slots) {C : String} {index : Nat} {a : Addr} (w : (Jvm.Cond.classLink own index C).before a0 Z = true) (F : Ins Z h a C true) (hd : decode bytes pc = .ok (.checkcast index, 3)) (hp : pc + 3 = pc')
    (k : ∀ T', St p l e R s m args below meth c Z own bytes nl ret nm h0 ws T' h locs cells slots → Go p e below P T' (mkF m pc' Ls (.ref a :: st))) : Go p e below P T (mkF m pc Ls (.ref a :: st)) := by
  subst hp
  obtain ⟨T', X', e', f⟩ := castY S.X S.ex S.hZ S.hown w S.eT F (g := mkF m pc Ls (.ref a :: st)) rfl rfl (S.hd hd)
  exact (k T' (S.next X' e' S.fr S.keep S.ext)).of f
theorem Go.instanceofY (S : St p l e R s m args below meth c Z own bytes nl ret nm h0 ws T h locs cells slots) {C : String} {index : Nat} {a : Addr} (w : (Jvm.Cond.classLink own index C).before a0 Z = true) (F : Ins Z h a C true) (hd : decode bytes pc = .ok (.instanceof index, 3)) (hp : pc + 3 = pc')
    (k : ∀ T', St p l e R s m args below meth c Z own bytes nl ret nm h0 ws T' h locs cells slots → Go p e below P T' (mkF m pc' Ls (.int 1 :: st))) : Go p e below P T (mkF m pc Ls (.ref a :: st)) := by
  subst hp
  obtain ⟨T', X', e', f⟩ := instY S.X S.ex S.hZ S.hown w S.eT F (g := mkF m pc Ls (.ref a :: st)) rfl rfl (S.hd hd)
  exact (k T' (S.next X' e' S.fr S.keep S.ext)).of f
theorem Go.invokestatic (S : St p l e R s m args below meth c Z own bytes nl ret nm h0 ws T h locs cells slots) {y : MethodName} {bytes' : ByteArray} {nl' : Nat} {ret' : Option FieldType} {rm : Room} {as' : Array Value} {ws' : List Addr} {Q' : Option Value → Heap → Prop} {index W : Nat} {ps : List FieldType} {r : Option FieldType} {argsL : List Value} (M : OMeets l Z y bytes' nl' ret' rm as' h ws' Q') (w1 : (Jvm.Cond.methodLink own index y).before a0 Z = true) (w2 : (Jvm.Cond.static y).before a0 Z = true) (w3 : (Jvm.Cond.initialized y.cls).before a0 Z = true) (w4 : (Jvm.Cond.code y bytes' nl' ret').before a0 Z = true) (hy : y.cls ≠ "java/lang/invoke/MethodHandle" ∧ y.cls ≠ "java/lang/invoke/VarHandle") (hd : decode bytes pc = .ok (.invokestatic index, 3)) (hsz : Ls.size = nl) (hlen : parseMethodDescriptor y.desc = some ⟨ps, r⟩) (hn : argsL.length = ps.length) (has : argsL.toArray = as') {stk : List Value} (hstk : stk = argsL.reverse ++ st) (hf : rm.frames + 1 ≤ R.frames) (hW : (st.map fun v => v.category).sum = W) (hl : W + (nl' + 11) + rm.locals ≤ R.locals) (hc : cells + rm.cells ≤ R.cells) (hs : slots + rm.slots ≤ R.slots) (hws : ∀ x ∈ ws', x ∈ ws ∨ h0.size ≤ x) (hp : pc + 3 = pc')
    (k : ∀ v T' h' locs', St p l e R s m args below meth c Z own bytes nl ret nm h0 ws T' h' locs' (cells + rm.cells) (slots + rm.slots) → Keep h h' ws' → Q' v h' → Go p e below P T' (mkF m pc' Ls (v.toList ++ st))) : Go p e below P T (mkF m pc Ls stk) := by
  subst hp hstk
  obtain ⟨v, _, ⟨T', L', k', n'⟩, -, X', ⟨L, hQ, l1, l2, l3⟩, f⟩ := Jvm.LawKit.callS S.X S.ex S.hown (mvT S.hZ w1) (mvT S.hZ w2) (mvT S.hZ w3) (mvT S.hZ w4) hy (backOf (Q := fun v U L => Fr Z.heap.size L ∧ Keep h U ws' ∧ Ext Z.heap U ∧ Q' v U) (W := W) (M []) S.hZ w4 w3 hf hl) (g := mkF m pc Ls (argsL.reverse ++ st)) rfl (hsz.trans S.hnl.symm) (argsL := argsL) (rest := st) (lenOf hlen hn) rfl (by show 2 * 0 + _ ≤ _; rw [hW]; omega) (S.hd hd) (fun _ _ => ⟨has, S.eT, hc, hs⟩)
  dsimp only [Pt.U, Pt.locs, Pt.cells, Pt.slots] at X' l1 l2 l3 hQ f
  subst l1 l2 l3
  obtain ⟨N, K', E', q⟩ := hQ
  exact (k v T' T'.heap _ (S.next X' rfl (S.fr.app N) (S.keep.trans K' hws) E') K' q).of f
theorem Go.invokespecial (S : St p l e R s m args below meth c Z own bytes nl ret nm h0 ws T h locs cells slots) {y : MethodName} {bytes' : ByteArray} {nl' : Nat} {ret' : Option FieldType} {rm : Room} {as' : Array Value} {ws' : List Addr} {Q' : Option Value → Heap → Prop} {index W : Nat} {ps : List FieldType} {r : Option FieldType} {argsL : List Value} {a : Addr} (M : OMeets l Z y bytes' nl' ret' rm as' h ws' Q') (hi : y.name = "<init>") (hr0 : ret' = none) (w1 : (Jvm.Cond.methodLink own index y).before a0 Z = true) (w2 : (Jvm.Cond.instanceMethod y).before a0 Z = true) (w3 : (Jvm.Cond.initialized y.cls).before a0 Z = true) (w4 : (Jvm.Cond.code y bytes' nl' ret').before a0 Z = true) (hy : y.cls ≠ "java/lang/invoke/MethodHandle" ∧ y.cls ≠ "java/lang/invoke/VarHandle") (hd : decode bytes pc = .ok (.invokespecial index, 3)) (hsz : Ls.size = nl) (hlen : parseMethodDescriptor y.desc = some ⟨ps, r⟩) (hn : argsL.length = ps.length) (has : (.ref a :: argsL).toArray = as') {stk : List Value} (hstk : stk = argsL.reverse ++ .ref a :: st) (hf : rm.frames + 1 ≤ R.frames) (hW : (st.map fun v => v.category).sum = W) (hl : W + (nl' + 11) + rm.locals ≤ R.locals) (hc : cells + rm.cells ≤ R.cells) (hs : slots + rm.slots ≤ R.slots) (hws : ∀ x ∈ ws', x ∈ ws ∨ h0.size ≤ x) (hp : pc + 3 = pc')
    (k : ∀ v T' h' locs', St p l e R s m args below meth c Z own bytes nl ret nm h0 ws T' h' locs' (cells + rm.cells) (slots + rm.slots) → Keep h h' ws' → Q' v h' → Go p e below P T' (mkF m pc' Ls (v.toList ++ st))) : Go p e below P T (mkF m pc Ls stk) := by
  subst hp hstk hr0
  obtain ⟨v, _, ⟨T', L', k', n'⟩, -, X', ⟨L, hQ, l1, l2, l3⟩, f⟩ := S.X.specialBack S.ex hi S.hown (mvT S.hZ w1) (mvT S.hZ w2) (mvT S.hZ w4) hy (backOf (Q := fun v U L => Fr Z.heap.size L ∧ Keep h U ws' ∧ Ext Z.heap U ∧ Q' v U) (W := W) (M []) S.hZ w4 w3 hf hl) (g := mkF m pc Ls (argsL.reverse ++ .ref a :: st)) rfl (hsz.trans S.hnl.symm) (Steps.refl _) (a := a) (argsL := argsL) (rest := st) (lenOf hlen hn) rfl (by show 2 * 0 + _ ≤ _; rw [hW]; omega) (S.hd hd) (fun _ _ => ⟨has, S.eT, hc, hs⟩)
  dsimp only [Pt.U, Pt.locs, Pt.cells, Pt.slots] at X' l1 l2 l3 hQ f
  subst l1 l2 l3
  obtain ⟨N, K', E', q⟩ := hQ
  exact (k v T' T'.heap _ (S.next X' rfl (S.fr.app N) (S.keep.trans K' hws) E') K' q).of fun t q => f.trans q
theorem Go.invokevirtual (S : St p l e R s m args below meth c Z own bytes nl ret nm h0 ws T h locs cells slots) {y : MethodName} {bytes' : ByteArray} {nl' : Nat} {ret' : Option FieldType} {rm : Room} {as' : Array Value} {ws' : List Addr} {Q' : Option Value → Heap → Prop} {index W : Nat} {ps : List FieldType} {r : Option FieldType} {argsL : List Value} {a : Addr} {x : MethodName} {C : String} (M : OMeets l Z y bytes' nl' ret' rm as' h ws' Q') (w1 : (Jvm.Cond.methodLink own index x).before a0 Z = true) (w2 : (Jvm.Cond.declares x).before a0 Z = true) (hnf : NotFace s x) (w5 : (Jvm.Cond.selects C x y).before a0 Z = true) (w6 : (Jvm.Cond.instanceMethod y).before a0 Z = true) (w3 : (Jvm.Cond.initialized y.cls).before a0 Z = true) (w4 : (Jvm.Cond.code y bytes' nl' ret').before a0 Z = true) (hy : x.cls ≠ "java/lang/invoke/MethodHandle" ∧ x.cls ≠ "java/lang/invoke/VarHandle") (E : Exa Z h a C) (hd : decode bytes pc = .ok (.invokevirtual index, 3)) (hsz : Ls.size = nl) (hlen : parseMethodDescriptor x.desc = some ⟨ps, r⟩) (hn : argsL.length = ps.length) (has : (.ref a :: argsL).toArray = as') {stk : List Value} (hstk : stk = argsL.reverse ++ .ref a :: st) (hf : rm.frames + 1 ≤ R.frames) (hW : (st.map fun v => v.category).sum = W) (hl : W + (nl' + 11) + rm.locals ≤ R.locals) (hc : cells + rm.cells ≤ R.cells) (hs : slots + rm.slots ≤ R.slots) (hws : ∀ x ∈ ws', x ∈ ws ∨ h0.size ≤ x) (hp : pc + 3 = pc')
    (k : ∀ v T' h' locs', St p l e R s m args below meth c Z own bytes nl ret nm h0 ws T' h' locs' (cells + rm.cells) (slots + rm.slots) → Keep h h' ws' → Q' v h' → Go p e below P T' (mkF m pc' Ls (v.toList ++ st))) : Go p e below P T (mkF m pc Ls stk) := by
  subst hp hstk
  obtain ⟨cq, kq, q1, q2, q3⟩ := isOf S.hZ S.eT E
  obtain ⟨v, _, ⟨T', L', k', n'⟩, -, X', ⟨L, hQ, l1, l2, l3⟩, f⟩ := S.X.virtualBack S.ex S.hown (mvT S.hZ w1) (mvT S.hZ w2) hnf (mvT S.hZ w5) (mvT S.hZ w6) hy (backOf (Q := fun v U L => Fr Z.heap.size L ∧ Keep h U ws' ∧ Ext Z.heap U ∧ Q' v U) (W := W) (M []) S.hZ w4 w3 hf hl) q1 q3 (g := mkF m pc Ls (argsL.reverse ++ .ref a :: st)) rfl (hsz.trans S.hnl.symm) (Steps.refl _) (argsL := argsL) (rest := st) (lenOf hlen hn) rfl (by show 2 * 0 + _ ≤ _; rw [hW]; omega) (S.hd hd) (fun _ _ => ⟨has, S.eT, hc, hs⟩)
  dsimp only [Pt.U, Pt.locs, Pt.cells, Pt.slots] at X' l1 l2 l3 hQ f
  subst l1 l2 l3
  obtain ⟨N, K', E', q⟩ := hQ
  exact (k v T' T'.heap _ (S.next X' rfl (S.fr.app N) (S.keep.trans K' hws) E') K' q).of fun t q => f.trans q
theorem St.nf (S : St p l e R s m args below meth c Z own bytes nl ret nm h0 ws T h locs cells slots) {C : String} {x : MethodName} (w : (Jvm.Cond.selects C x x).before a0 Z = true) : NotFace s x := notFace_of_selects (args := #[]) (mvT S.hZ w)
theorem Go.invokevirtualUp (S : St p l e R s m args below meth c Z own bytes nl ret nm h0 ws T h locs cells slots) {y : MethodName} {bytes' : ByteArray} {nl' : Nat} {ret' : Option FieldType} {rm : Room} {as' : Array Value} {ws' : List Addr} {Q' : Option Value → Heap → Prop} {index W : Nat} {ps : List FieldType} {r : Option FieldType} {argsL : List Value} {a : Addr} {x : MethodName} {C owner : String} (M : OMeets l Z y bytes' nl' ret' rm as' h ws' Q') (w1 : (Jvm.Cond.methodLink own index x).before a0 Z = true) (w2 : (Jvm.Cond.declares ⟨owner, x.name, x.desc⟩).before a0 Z = true) (w7 : (Jvm.Cond.sameMethod x.cls owner x.name x.desc).before a0 Z = true) (w5 : (Jvm.Cond.selects C x y).before a0 Z = true) (w6 : (Jvm.Cond.instanceMethod y).before a0 Z = true) (w3 : (Jvm.Cond.initialized y.cls).before a0 Z = true) (w4 : (Jvm.Cond.code y bytes' nl' ret').before a0 Z = true) (hy : owner ≠ "java/lang/invoke/MethodHandle" ∧ owner ≠ "java/lang/invoke/VarHandle") (E : Exa Z h a C) (hd : decode bytes pc = .ok (.invokevirtual index, 3)) (hsz : Ls.size = nl) (hlen : parseMethodDescriptor x.desc = some ⟨ps, r⟩) (hn : argsL.length = ps.length) (has : (.ref a :: argsL).toArray = as') {stk : List Value} (hstk : stk = argsL.reverse ++ .ref a :: st) (hf : rm.frames + 1 ≤ R.frames) (hW : (st.map fun v => v.category).sum = W) (hl : W + (nl' + 11) + rm.locals ≤ R.locals) (hc : cells + rm.cells ≤ R.cells) (hs : slots + rm.slots ≤ R.slots) (hws : ∀ x ∈ ws', x ∈ ws ∨ h0.size ≤ x) (hp : pc + 3 = pc')
    (k : ∀ v T' h' locs', St p l e R s m args below meth c Z own bytes nl ret nm h0 ws T' h' locs' (cells + rm.cells) (slots + rm.slots) → Keep h h' ws' → Q' v h' → Go p e below P T' (mkF m pc' Ls (v.toList ++ st))) : Go p e below P T (mkF m pc Ls stk) := by
  subst hp hstk
  obtain ⟨cq, kq, q1, q2, q3⟩ := isOf S.hZ S.eT E
  obtain ⟨v, _, ⟨T', L', k', n'⟩, -, X', ⟨L, hQ, l1, l2, l3⟩, f⟩ := S.X.virtualBackUp S.ex S.hown (mvT S.hZ w1) (mvT S.hZ w7) (mvT S.hZ w2) hy (mvT S.hZ w5) (mvT S.hZ w6) (backOf (Q := fun v U L => Fr Z.heap.size L ∧ Keep h U ws' ∧ Ext Z.heap U ∧ Q' v U) (W := W) (M []) S.hZ w4 w3 hf hl) q1 q3 (g := mkF m pc Ls (argsL.reverse ++ .ref a :: st)) rfl (hsz.trans S.hnl.symm) (Steps.refl _) (argsL := argsL) (rest := st) (lenOf hlen hn) rfl (by show 2 * 0 + _ ≤ _; rw [hW]; omega) (S.hd hd) (fun _ _ => ⟨has, S.eT, hc, hs⟩)
  dsimp only [Pt.U, Pt.locs, Pt.cells, Pt.slots] at X' l1 l2 l3 hQ f
  subst l1 l2 l3
  obtain ⟨N, K', E', q⟩ := hQ
  exact (k v T' T'.heap _ (S.next X' rfl (S.fr.app N) (S.keep.trans K' hws) E') K' q).of fun t q => f.trans q
theorem Go.tableswitch (S : St p l e R s m args below meth c Z own bytes nl ret nm h0 ws T h locs cells slots) {dflt low high : Int} {offs : Array Int} {len : Nat} {o : Int} {i : Int32} (hd : decode bytes pc = .ok (.tableswitch dflt low high offs, len)) (hin : ¬ (i.toInt < low ∨ i.toInt > high)) (hoff : offs[(i.toInt - low).toNat]? = some o) (hp : (pc : Int) + o = (pc' : Int)) (k : Go p e below P T (mkF m pc' Ls st)) : Go p e below P T (mkF m pc Ls (.int i :: st)) :=
  k.of fun t q => XS.tswIn S.X.here S.ex rfl (pc0 := pc) rfl (S.hd hd) rfl hin hoff (off0 hp) (off1 hp) q
theorem Go.instanceofN (S : St p l e R s m args below meth c Z own bytes nl ret nm h0 ws T h locs cells slots) {C K : String} {index : Nat} {a : Addr} (w : (Jvm.Cond.classLink own index K).before a0 Z = true) (E : Exa Z h a C) (F : ∃ c t, Z.vm.findClass C = some c ∧ Z.vm.findClass K = some t ∧ Z.vm.assignable c t = false) (hd : decode bytes pc = .ok (.instanceof index, 3)) (hp : pc + 3 = pc')
    (k : ∀ T', St p l e R s m args below meth c Z own bytes nl ret nm h0 ws T' h locs cells slots → Go p e below P T' (mkF m pc' Ls (.int 0 :: st))) : Go p e below P T (mkF m pc Ls (.ref a :: st)) := by
  subst hp
  obtain ⟨T', X', e', f⟩ := instNo S.X S.ex S.hZ S.hown w S.eT E F (g := mkF m pc Ls (.ref a :: st)) rfl rfl (S.hd hd)
  exact (k T' (S.next X' e' S.fr S.keep S.ext)).of f
theorem Go.instanceofNull (S : St p l e R s m args below meth c Z own bytes nl ret nm h0 ws T h locs cells slots) {index : Nat} (hd : decode bytes pc = .ok (.instanceof index, 3)) (hp : pc + 3 = pc') (k : Go p e below P T (mkF m pc' Ls (.int 0 :: st))) : Go p e below P T (mkF m pc Ls (.null :: st)) := by
  subst hp
  exact k.of fun t q => S.X.instanceofNull S.ex (g := mkF m pc Ls (.null :: st)) rfl rfl (S.hd hd) _ q
theorem Go.checkcastNull (S : St p l e R s m args below meth c Z own bytes nl ret nm h0 ws T h locs cells slots) {index : Nat} (hd : decode bytes pc = .ok (.checkcast index, 3)) (hp : pc + 3 = pc') (k : Go p e below P T (mkF m pc' Ls (.null :: st))) : Go p e below P T (mkF m pc Ls (.null :: st)) := by
  subst hp
  exact k.of fun t q => S.X.checkcastNull S.ex (g := mkF m pc Ls (.null :: st)) rfl rfl (S.hd hd) _ q
theorem Go.aaloadA (S : St p l e R s m args below meth c Z own bytes nl ret nm h0 ws T h locs cells slots) {a : Addr} {cl : Cell} {ty : FieldType} {j : Int32} {v : Value} (A : Arr Z h a cl ty) (hty : ty.isReference = true) (hj : ¬ (j < 0 ∨ cl.slots.size ≤ j.toNatClampNeg)) (hv : cl.slots[j.toNatClampNeg]? = some v) (hd : decode bytes pc = .ok (.aaload, 1)) (hp : pc + 1 = pc') (k : Go p e below P T (mkF m pc' Ls (v :: st))) : Go p e below P T (mkF m pc Ls (.int j :: .ref a :: st)) := by
  subst hp
  exact k.of fun t q => S.X.aaload S.ex (j := j) (v := v) (by rw [S.eT]; exact A.1) (State.isArrayOf_alike S.hZ.alike A.2.1) hty A.2.2 hj hv (g := mkF m pc Ls (.int j :: .ref a :: st)) rfl rfl (S.hd hd) _ q
theorem Go.clone (S : St p l e R s m args below meth c Z own bytes nl ret nm h0 ws T h locs cells slots) {ad : String} {index : Nat} {a : Addr} {kA : ClassId} {ty : FieldType} {n : Int32} {vs : List Value} {dv : Value} {W cap : Nat} (w1 : (Jvm.Cond.methodLink own index ⟨ad, "clone", "()Ljava/lang/Object;"⟩).before a0 Z = true) (w2 : (Jvm.Cond.sameMethod ad "java/lang/Object" "clone" "()Ljava/lang/Object;").before a0 Z = true) (w3 : (Jvm.Cond.native ⟨"java/lang/Object", "clone", "()Ljava/lang/Object;"⟩).before a0 Z = true) (w4 : (Jvm.Cond.instanceMethod ⟨"java/lang/Object", "clone", "()Ljava/lang/Object;"⟩).before a0 Z = true) (w5 : (Jvm.Cond.selects ad ⟨ad, "clone", "()Ljava/lang/Object;"⟩ ⟨"java/lang/Object", "clone", "()Ljava/lang/Object;"⟩).before a0 Z = true) (w6 : (Jvm.Cond.castable ad "java/lang/Cloneable").before a0 Z = true)
    (V : Arv Z Z.heap a kA ty n vs dv) (hfit : Fit Z) (E : Exa Z Z.heap a ad) (hd : decode bytes pc = .ok (.invokevirtual index, 3)) (hsz : Ls.size = nl) (hf : 1 ≤ R.frames) (hW : (st.map fun v => v.category).sum = W) (hl : W + 14 ≤ R.locals) (hcap : n.toNatClampNeg ≤ cap) (hc : cells + 1 ≤ R.cells) (hsl : slots + cap ≤ R.slots) (hp : pc + 3 = pc')
    (k : ∀ T' h' b, St p l e R s m args below meth c Z own bytes nl ret nm h0 ws T' h' locs (cells + 1) (slots + cap) → Ext h h' → h.size = b → Arv Z h' b kA ty n vs dv → Exa Z h' b ad → Go p e below P T' (mkF m pc' Ls (.ref b :: st))) : Go p e below P T (mkF m pc Ls (.ref a :: st)) := by
  subst hp
  obtain ⟨cl, A, q1, q2, q3, H, F⟩ := V
  obtain ⟨T', h', X', e', E', A', EA, f⟩ := cloneA S.X S.ex S.hZ S.hown w1 w2 w3 w4 w5 w6 S.eT (A.ext S.ext) (E.ext S.ext) (FitC.start hfit A) (g := mkF m pc Ls (.ref a :: st)) rfl (hsz.trans S.hnl.symm) rfl (S.hd hd) hf (W := W) (by show 2 * 0 + _ ≤ _; rw [hW]; omega) hl (cap := cap) (by rw [q2]; exact hcap) hc hsl
  exact (k T' h' h.size (S.made X' e' E') E' rfl ⟨_, A', q1, q2, q3, H, F⟩ EA).of f
theorem OMeets.body {y : MethodName} {Q : Option Value → Heap → Prop} {as : Array Value} (hpl : plainFor y = true) (hE : Ext Z.heap h0) (Ls : Array Slot) (hef : ∀ m : MethodId, entryFrame m as nl = mkF m 0 Ls [])
    (H : ∀ p e s m below meth c T, St p l e R s m as below meth c Z y.cls bytes nl ret y.name h0 ws T h0 [] 0 0 → Go p e below (PostOf Z s h0 ws R.cells R.slots Q) T (mkF m 0 Ls [])) : OMeets l Z y bytes nl ret R as h0 ws Q := by
  intro wd
  refine MetFree.of_bodySF hpl hisR ?_
  intro p e s m args below meth c s₁ Bd hml hP _
  obtain ⟨rfl, hZ, hh⟩ := hP
  have X0 : Stand p l e R s m args below meth c s₁ [] 0 0 := Stand.of_body Bd
  have e0 : s₁.heap = h0 := by rw [← hh, Bd.state]; rfl
  have hg := H p e s m below meth c s₁ ⟨⟨Bd.exec, Bd.bytes, hml, hZ, findClass_of_methodNamed Bd.named, Bd.returns, Bd.notSynchronized, (name_of_methodNamed Bd.named Bd.method).1⟩, X0, e0, Fr.nil _, Keep.refl _ _, hE⟩
  rw [hef]
  exact hg
end Steps
end Jvm.Own
namespace Jvm.Pilot.@@N@@
open Jvm Jvm.ClassFile Sem Op Lib Jvm.Free Jvm.Stand Jvm.LawKit Jvm.RoadKit Jvm.Own Bundle Jvm.Pilot.@@N@@.Jvm.D
abbrev HW (Z : State) (a0 : Array Value) : Prop := ∀ d ∈ tables_1, d.before a0 Z = true
theorem wd0 {Z : State} {a0 : Array Value} (hw : HW Z a0) : Jvm.Cond.before (Jvm.Cond.methodLink "com/example/markmint/markmint/core/code/GtinCheckDigitPinLaw" (9 : Nat) ({ cls := "com/example/markmint/markmint/core/code/GtinCheckDigitPinLaw", name := "d", desc := "(JI)I" } : Jvm.MethodName)) a0 Z = true := hw _ (List.mem_of_getElem? (i := 0) rfl)
theorem wd1 {Z : State} {a0 : Array Value} (hw : HW Z a0) : Jvm.Cond.before (Jvm.Cond.static ({ cls := "com/example/markmint/markmint/core/code/GtinCheckDigitPinLaw", name := "d", desc := "(JI)I" } : Jvm.MethodName)) a0 Z = true := hw _ (List.mem_of_getElem? (i := 1) rfl)
theorem wd2 {Z : State} {a0 : Array Value} (hw : HW Z a0) : Jvm.Cond.before (Jvm.Cond.initialized "com/example/markmint/markmint/core/code/GtinCheckDigitPinLaw") a0 Z = true := hw _ (List.mem_of_getElem? (i := 2) rfl)
theorem wd3 {Z : State} {a0 : Array Value} (hw : HW Z a0) : Jvm.Cond.before (Jvm.Cond.code ({ cls := "com/example/markmint/markmint/core/code/GtinCheckDigitPinLaw", name := "d", desc := "(JI)I" } : Jvm.MethodName) method_2_code (3 : Nat) (Option.some Jvm.ClassFile.FieldType.int)) a0 Z = true := hw _ (List.mem_of_getElem? (i := 3) rfl)
theorem wd4 {Z : State} {a0 : Array Value} (hw : HW Z a0) : Jvm.Cond.before (Jvm.Cond.constantLong "com/example/markmint/markmint/core/code/GtinCheckDigitPinLaw" (7 : Nat) (15 : Int64)) a0 Z = true := hw _ (List.mem_of_getElem? (i := 4) rfl)
theorem wd5 {Z : State} {a0 : Array Value} (hw : HW Z a0) : Jvm.Cond.before (Jvm.Cond.arrayClass Jvm.ClassFile.FieldType.char) a0 Z = true := hw _ (List.mem_of_getElem? (i := 5) rfl)
theorem wd6 {Z : State} {a0 : Array Value} (hw : HW Z a0) : Jvm.Cond.before (Jvm.Cond.methodLink "com/example/markmint/markmint/core/code/GtinCheckDigitPinLaw" (15 : Nat) ({ cls := "com/example/markmint/markmint/core/code/GtinCheckDigitPinLaw", name := "ch", desc := "(I)C" } : Jvm.MethodName)) a0 Z = true := hw _ (List.mem_of_getElem? (i := 6) rfl)
theorem wd7 {Z : State} {a0 : Array Value} (hw : HW Z a0) : Jvm.Cond.before (Jvm.Cond.static ({ cls := "com/example/markmint/markmint/core/code/GtinCheckDigitPinLaw", name := "ch", desc := "(I)C" } : Jvm.MethodName)) a0 Z = true := hw _ (List.mem_of_getElem? (i := 7) rfl)
theorem wd8 {Z : State} {a0 : Array Value} (hw : HW Z a0) : Jvm.Cond.before (Jvm.Cond.code ({ cls := "com/example/markmint/markmint/core/code/GtinCheckDigitPinLaw", name := "ch", desc := "(I)C" } : Jvm.MethodName) method_3_code (1 : Nat) (Option.some Jvm.ClassFile.FieldType.char)) a0 Z = true := hw _ (List.mem_of_getElem? (i := 8) rfl)
theorem wd9 {Z : State} {a0 : Array Value} (hw : HW Z a0) : Jvm.Cond.before (Jvm.Cond.classLink "com/example/markmint/markmint/core/code/GtinCheckDigitPinLaw" (19 : Nat) "java/lang/String") a0 Z = true := hw _ (List.mem_of_getElem? (i := 9) rfl)
theorem wd10 {Z : State} {a0 : Array Value} (hw : HW Z a0) : Jvm.Cond.before (Jvm.Cond.instantiable "java/lang/String" (4 : Nat)) a0 Z = true := hw _ (List.mem_of_getElem? (i := 10) rfl)
theorem wd11 {Z : State} {a0 : Array Value} (hw : HW Z a0) : Jvm.Cond.before (Jvm.Cond.initialized "java/lang/String") a0 Z = true := hw _ (List.mem_of_getElem? (i := 11) rfl)
theorem wd12 {Z : State} {a0 : Array Value} (hw : HW Z a0) : Jvm.Cond.before (Jvm.Cond.methodLink "com/example/markmint/markmint/core/code/GtinCheckDigitPinLaw" (21 : Nat) ({ cls := "java/lang/String", name := "<init>", desc := "([C)V" } : Jvm.MethodName)) a0 Z = true := hw _ (List.mem_of_getElem? (i := 12) rfl)
theorem wd13 {Z : State} {a0 : Array Value} (hw : HW Z a0) : Jvm.Cond.before (Jvm.Cond.instanceMethod ({ cls := "java/lang/String", name := "<init>", desc := "([C)V" } : Jvm.MethodName)) a0 Z = true := hw _ (List.mem_of_getElem? (i := 13) rfl)
theorem wd14 {Z : State} {a0 : Array Value} (hw : HW Z a0) : Jvm.Cond.before (Jvm.Cond.code ({ cls := "java/lang/String", name := "<init>", desc := "([C)V" } : Jvm.MethodName) jdk_42_method_3_code (2 : Nat) (Option.none : Option Jvm.ClassFile.FieldType)) a0 Z = true := hw _ (List.mem_of_getElem? (i := 14) rfl)
theorem wd15 {Z : State} {a0 : Array Value} (hw : HW Z a0) : Jvm.Cond.before (Jvm.Cond.methodLink "java/lang/String" (27 : Nat) ({ cls := "java/lang/String", name := "<init>", desc := "([CIILjava/lang/Void;)V" } : Jvm.MethodName)) a0 Z = true := hw _ (List.mem_of_getElem? (i := 15) rfl)
theorem wd16 {Z : State} {a0 : Array Value} (hw : HW Z a0) : Jvm.Cond.before (Jvm.Cond.instanceMethod ({ cls := "java/lang/String", name := "<init>", desc := "([CIILjava/lang/Void;)V" } : Jvm.MethodName)) a0 Z = true := hw _ (List.mem_of_getElem? (i := 16) rfl)
theorem wd18 {Z : State} {a0 : Array Value} (hw : HW Z a0) : Jvm.Cond.before (Jvm.Cond.code ({ cls := "java/lang/String", name := "<init>", desc := "([CIILjava/lang/Void;)V" } : Jvm.MethodName) jdk_42_method_149_code (6 : Nat) (Option.none : Option Jvm.ClassFile.FieldType)) a0 Z = true := hw _ (List.mem_of_getElem? (i := 18) rfl)
theorem wd19 {Z : State} {a0 : Array Value} (hw : HW Z a0) : Jvm.Cond.before (Jvm.Cond.methodLink "java/lang/String" (1 : Nat) ({ cls := "java/lang/Object", name := "<init>", desc := "()V" } : Jvm.MethodName)) a0 Z = true := hw _ (List.mem_of_getElem? (i := 19) rfl)
theorem wd20 {Z : State} {a0 : Array Value} (hw : HW Z a0) : Jvm.Cond.before (Jvm.Cond.instanceMethod ({ cls := "java/lang/Object", name := "<init>", desc := "()V" } : Jvm.MethodName)) a0 Z = true := hw _ (List.mem_of_getElem? (i := 20) rfl)
theorem wd21 {Z : State} {a0 : Array Value} (hw : HW Z a0) : Jvm.Cond.before (Jvm.Cond.code ({ cls := "java/lang/Object", name := "<init>", desc := "()V" } : Jvm.MethodName) object_method_1_code (1 : Nat) (Option.none : Option Jvm.ClassFile.FieldType)) a0 Z = true := hw _ (List.mem_of_getElem? (i := 21) rfl)
theorem wd22 {Z : State} {a0 : Array Value} (hw : HW Z a0) : Jvm.Cond.before (Jvm.Cond.fieldLink "java/lang/String" (38 : Nat) "java/lang/String" "COMPACT_STRINGS" "Z") a0 Z = true := hw _ (List.mem_of_getElem? (i := 22) rfl)
theorem wd23 {Z : State} {a0 : Array Value} (hw : HW Z a0) : Jvm.Cond.before (Jvm.Cond.methodLink "java/lang/String" (177 : Nat) ({ cls := "java/lang/StringUTF16", name := "compress", desc := "([CII)[B" } : Jvm.MethodName)) a0 Z = true := hw _ (List.mem_of_getElem? (i := 23) rfl)
theorem wd24 {Z : State} {a0 : Array Value} (hw : HW Z a0) : Jvm.Cond.before (Jvm.Cond.static ({ cls := "java/lang/StringUTF16", name := "compress", desc := "([CII)[B" } : Jvm.MethodName)) a0 Z = true := hw _ (List.mem_of_getElem? (i := 24) rfl)
theorem wd25 {Z : State} {a0 : Array Value} (hw : HW Z a0) : Jvm.Cond.before (Jvm.Cond.initialized "java/lang/StringUTF16") a0 Z = true := hw _ (List.mem_of_getElem? (i := 25) rfl)
theorem wd26 {Z : State} {a0 : Array Value} (hw : HW Z a0) : Jvm.Cond.before (Jvm.Cond.code ({ cls := "java/lang/StringUTF16", name := "compress", desc := "([CII)[B" } : Jvm.MethodName) jdk_52_method_16_code (6 : Nat) (Option.some (Jvm.ClassFile.FieldType.array Jvm.ClassFile.FieldType.byte))) a0 Z = true := hw _ (List.mem_of_getElem? (i := 26) rfl)
theorem wd27 {Z : State} {a0 : Array Value} (hw : HW Z a0) : Jvm.Cond.before (Jvm.Cond.arrayClass Jvm.ClassFile.FieldType.byte) a0 Z = true := hw _ (List.mem_of_getElem? (i := 27) rfl)
theorem wd28 {Z : State} {a0 : Array Value} (hw : HW Z a0) : Jvm.Cond.before (Jvm.Cond.methodLink "java/lang/StringUTF16" (115 : Nat) ({ cls := "java/lang/StringUTF16", name := "compress", desc := "([CI[BII)I" } : Jvm.MethodName)) a0 Z = true := hw _ (List.mem_of_getElem? (i := 28) rfl)
theorem wd29 {Z : State} {a0 : Array Value} (hw : HW Z a0) : Jvm.Cond.before (Jvm.Cond.static ({ cls := "java/lang/StringUTF16", name := "compress", desc := "([CI[BII)I" } : Jvm.MethodName)) a0 Z = true := hw _ (List.mem_of_getElem? (i := 29) rfl)
theorem wd30 {Z : State} {a0 : Array Value} (hw : HW Z a0) : Jvm.Cond.before (Jvm.Cond.code ({ cls := "java/lang/StringUTF16", name := "compress", desc := "([CI[BII)I" } : Jvm.MethodName) jdk_52_method_21_code (7 : Nat) (Option.some Jvm.ClassFile.FieldType.int)) a0 Z = true := hw _ (List.mem_of_getElem? (i := 30) rfl)
theorem wd31 {Z : State} {a0 : Array Value} (hw : HW Z a0) : Jvm.Cond.before (Jvm.Cond.methodLink "java/lang/String" (47 : Nat) ({ cls := "java/lang/StringUTF16", name := "coderFromArrayLen", desc := "([BI)B" } : Jvm.MethodName)) a0 Z = true := hw _ (List.mem_of_getElem? (i := 31) rfl)
theorem wd32 {Z : State} {a0 : Array Value} (hw : HW Z a0) : Jvm.Cond.before (Jvm.Cond.static ({ cls := "java/lang/StringUTF16", name := "coderFromArrayLen", desc := "([BI)B" } : Jvm.MethodName)) a0 Z = true := hw _ (List.mem_of_getElem? (i := 32) rfl)
theorem wd33 {Z : State} {a0 : Array Value} (hw : HW Z a0) : Jvm.Cond.before (Jvm.Cond.code ({ cls := "java/lang/StringUTF16", name := "coderFromArrayLen", desc := "([BI)B" } : Jvm.MethodName) jdk_52_method_15_code (2 : Nat) (Option.some Jvm.ClassFile.FieldType.byte)) a0 Z = true := hw _ (List.mem_of_getElem? (i := 33) rfl)
theorem wd34 {Z : State} {a0 : Array Value} (hw : HW Z a0) : Jvm.Cond.before (Jvm.Cond.fieldLink "java/lang/String" (15 : Nat) "java/lang/String" "coder" "B") a0 Z = true := hw _ (List.mem_of_getElem? (i := 34) rfl)
theorem wd35 {Z : State} {a0 : Array Value} (hw : HW Z a0) : Jvm.Cond.before (Jvm.Cond.laysFinal "java/lang/String" "java/lang/String" "coder" "B") a0 Z = true := hw _ (List.mem_of_getElem? (i := 35) rfl)
theorem wd36 {Z : State} {a0 : Array Value} (hw : HW Z a0) : Jvm.Cond.before (Jvm.Cond.fieldLink "java/lang/String" (9 : Nat) "java/lang/String" "value" "[B") a0 Z = true := hw _ (List.mem_of_getElem? (i := 36) rfl)
theorem wd37 {Z : State} {a0 : Array Value} (hw : HW Z a0) : Jvm.Cond.before (Jvm.Cond.laysFinal "java/lang/String" "java/lang/String" "value" "[B") a0 Z = true := hw _ (List.mem_of_getElem? (i := 37) rfl)
theorem wd38 {Z : State} {a0 : Array Value} (hw : HW Z a0) : Jvm.Cond.before (Jvm.Cond.methodLink "com/example/markmint/markmint/core/code/GtinCheckDigitPinLaw" (24 : Nat) ({ cls := "com/example/markmint/markmint/core/code/Gtin", name := "checkDigit", desc := "(Ljava/lang/String;)I" } : Jvm.MethodName)) a0 Z = true := hw _ (List.mem_of_getElem? (i := 38) rfl)
theorem wd39 {Z : State} {a0 : Array Value} (hw : HW Z a0) : Jvm.Cond.before (Jvm.Cond.static ({ cls := "com/example/markmint/markmint/core/code/Gtin", name := "checkDigit", desc := "(Ljava/lang/String;)I" } : Jvm.MethodName)) a0 Z = true := hw _ (List.mem_of_getElem? (i := 39) rfl)
theorem wd40 {Z : State} {a0 : Array Value} (hw : HW Z a0) : Jvm.Cond.before (Jvm.Cond.initialized "com/example/markmint/markmint/core/code/Gtin") a0 Z = true := hw _ (List.mem_of_getElem? (i := 40) rfl)
theorem wd41 {Z : State} {a0 : Array Value} (hw : HW Z a0) : Jvm.Cond.before (Jvm.Cond.code ({ cls := "com/example/markmint/markmint/core/code/Gtin", name := "checkDigit", desc := "(Ljava/lang/String;)I" } : Jvm.MethodName) prog_16_method_3_code (4 : Nat) (Option.some Jvm.ClassFile.FieldType.int)) a0 Z = true := hw _ (List.mem_of_getElem? (i := 41) rfl)
theorem wd42 {Z : State} {a0 : Array Value} (hw : HW Z a0) : Jvm.Cond.before (Jvm.Cond.methodLink "com/example/markmint/markmint/core/code/Gtin" (25 : Nat) ({ cls := "java/lang/String", name := "charAt", desc := "(I)C" } : Jvm.MethodName)) a0 Z = true := hw _ (List.mem_of_getElem? (i := 42) rfl)
theorem wd43 {Z : State} {a0 : Array Value} (hw : HW Z a0) : Jvm.Cond.before (Jvm.Cond.declares ({ cls := "java/lang/String", name := "charAt", desc := "(I)C" } : Jvm.MethodName)) a0 Z = true := hw _ (List.mem_of_getElem? (i := 43) rfl)
theorem wd44 {Z : State} {a0 : Array Value} (hw : HW Z a0) : Jvm.Cond.before (Jvm.Cond.instanceMethod ({ cls := "java/lang/String", name := "charAt", desc := "(I)C" } : Jvm.MethodName)) a0 Z = true := hw _ (List.mem_of_getElem? (i := 44) rfl)
theorem wd45 {Z : State} {a0 : Array Value} (hw : HW Z a0) : Jvm.Cond.before (Jvm.Cond.selects "java/lang/String" ({ cls := "java/lang/String", name := "charAt", desc := "(I)C" } : Jvm.MethodName) ({ cls := "java/lang/String", name := "charAt", desc := "(I)C" } : Jvm.MethodName)) a0 Z = true := hw _ (List.mem_of_getElem? (i := 45) rfl)
theorem wd46 {Z : State} {a0 : Array Value} (hw : HW Z a0) : Jvm.Cond.before (Jvm.Cond.code ({ cls := "java/lang/String", name := "charAt", desc := "(I)C" } : Jvm.MethodName) jdk_42_method_56_code (2 : Nat) (Option.some Jvm.ClassFile.FieldType.char)) a0 Z = true := hw _ (List.mem_of_getElem? (i := 46) rfl)
theorem wd47 {Z : State} {a0 : Array Value} (hw : HW Z a0) : Jvm.Cond.before (Jvm.Cond.methodLink "java/lang/String" (492 : Nat) ({ cls := "java/lang/String", name := "isLatin1", desc := "()Z" } : Jvm.MethodName)) a0 Z = true := hw _ (List.mem_of_getElem? (i := 47) rfl)
theorem wd48 {Z : State} {a0 : Array Value} (hw : HW Z a0) : Jvm.Cond.before (Jvm.Cond.declares ({ cls := "java/lang/String", name := "isLatin1", desc := "()Z" } : Jvm.MethodName)) a0 Z = true := hw _ (List.mem_of_getElem? (i := 48) rfl)
theorem wd49 {Z : State} {a0 : Array Value} (hw : HW Z a0) : Jvm.Cond.before (Jvm.Cond.instanceMethod ({ cls := "java/lang/String", name := "isLatin1", desc := "()Z" } : Jvm.MethodName)) a0 Z = true := hw _ (List.mem_of_getElem? (i := 49) rfl)
theorem wd50 {Z : State} {a0 : Array Value} (hw : HW Z a0) : Jvm.Cond.before (Jvm.Cond.selects "java/lang/String" ({ cls := "java/lang/String", name := "isLatin1", desc := "()Z" } : Jvm.MethodName) ({ cls := "java/lang/String", name := "isLatin1", desc := "()Z" } : Jvm.MethodName)) a0 Z = true := hw _ (List.mem_of_getElem? (i := 50) rfl)
theorem wd51 {Z : State} {a0 : Array Value} (hw : HW Z a0) : Jvm.Cond.before (Jvm.Cond.code ({ cls := "java/lang/String", name := "isLatin1", desc := "()Z" } : Jvm.MethodName) jdk_42_method_154_code (1 : Nat) (Option.some Jvm.ClassFile.FieldType.boolean)) a0 Z = true := hw _ (List.mem_of_getElem? (i := 51) rfl)
theorem wd52 {Z : State} {a0 : Array Value} (hw : HW Z a0) : Jvm.Cond.before (Jvm.Cond.methodLink "java/lang/String" (495 : Nat) ({ cls := "java/lang/StringLatin1", name := "charAt", desc := "([BI)C" } : Jvm.MethodName)) a0 Z = true := hw _ (List.mem_of_getElem? (i := 52) rfl)
theorem wd53 {Z : State} {a0 : Array Value} (hw : HW Z a0) : Jvm.Cond.before (Jvm.Cond.static ({ cls := "java/lang/StringLatin1", name := "charAt", desc := "([BI)C" } : Jvm.MethodName)) a0 Z = true := hw _ (List.mem_of_getElem? (i := 53) rfl)
theorem wd54 {Z : State} {a0 : Array Value} (hw : HW Z a0) : Jvm.Cond.before (Jvm.Cond.initialized "java/lang/StringLatin1") a0 Z = true := hw _ (List.mem_of_getElem? (i := 54) rfl)
theorem wd55 {Z : State} {a0 : Array Value} (hw : HW Z a0) : Jvm.Cond.before (Jvm.Cond.code ({ cls := "java/lang/StringLatin1", name := "charAt", desc := "([BI)C" } : Jvm.MethodName) jdk_43_method_2_code (2 : Nat) (Option.some Jvm.ClassFile.FieldType.char)) a0 Z = true := hw _ (List.mem_of_getElem? (i := 55) rfl)
theorem wd56 {Z : State} {a0 : Array Value} (hw : HW Z a0) : Jvm.Cond.before (Jvm.Cond.methodLink "java/lang/StringLatin1" (9 : Nat) ({ cls := "java/lang/String", name := "checkIndex", desc := "(II)V" } : Jvm.MethodName)) a0 Z = true := hw _ (List.mem_of_getElem? (i := 56) rfl)
theorem wd57 {Z : State} {a0 : Array Value} (hw : HW Z a0) : Jvm.Cond.before (Jvm.Cond.static ({ cls := "java/lang/String", name := "checkIndex", desc := "(II)V" } : Jvm.MethodName)) a0 Z = true := hw _ (List.mem_of_getElem? (i := 57) rfl)
theorem wd58 {Z : State} {a0 : Array Value} (hw : HW Z a0) : Jvm.Cond.before (Jvm.Cond.code ({ cls := "java/lang/String", name := "checkIndex", desc := "(II)V" } : Jvm.MethodName) jdk_42_method_155_code (2 : Nat) (Option.none : Option Jvm.ClassFile.FieldType)) a0 Z = true := hw _ (List.mem_of_getElem? (i := 58) rfl)
theorem wd59 {Z : State} {a0 : Array Value} (hw : HW Z a0) : Jvm.Cond.before (Jvm.Cond.fieldLink "java/lang/String" (1053 : Nat) "jdk/internal/util/Preconditions" "SIOOBE_FORMATTER" "Ljava/util/function/BiFunction;") a0 Z = true := hw _ (List.mem_of_getElem? (i := 59) rfl)
theorem wd60 {Z : State} {a0 : Array Value} (hw : HW Z a0) : Jvm.Cond.before (Jvm.Cond.initialized "jdk/internal/util/Preconditions") a0 Z = true := hw _ (List.mem_of_getElem? (i := 60) rfl)
theorem wd61 {Z : State} {a0 : Array Value} (hw : HW Z a0) : Jvm.Cond.before (Jvm.Cond.methodLink "java/lang/String" (1059 : Nat) ({ cls := "jdk/internal/util/Preconditions", name := "checkIndex", desc := "(IILjava/util/function/BiFunction;)I" } : Jvm.MethodName)) a0 Z = true := hw _ (List.mem_of_getElem? (i := 61) rfl)
theorem wd62 {Z : State} {a0 : Array Value} (hw : HW Z a0) : Jvm.Cond.before (Jvm.Cond.static ({ cls := "jdk/internal/util/Preconditions", name := "checkIndex", desc := "(IILjava/util/function/BiFunction;)I" } : Jvm.MethodName)) a0 Z = true := hw _ (List.mem_of_getElem? (i := 62) rfl)
theorem wd63 {Z : State} {a0 : Array Value} (hw : HW Z a0) : Jvm.Cond.before (Jvm.Cond.code ({ cls := "jdk/internal/util/Preconditions", name := "checkIndex", desc := "(IILjava/util/function/BiFunction;)I" } : Jvm.MethodName) jdk_41_method_11_code (3 : Nat) (Option.some Jvm.ClassFile.FieldType.int)) a0 Z = true := hw _ (List.mem_of_getElem? (i := 63) rfl)
theorem pn0 : plainName "java/lang/StringUTF16" = true := by first | (simp [plainName, overriddenIn]; done) | decide +kernel
theorem pn1 : plainName "java/lang/String" = true := by first | (simp [plainName, overriddenIn]; done) | decide +kernel
theorem pn2 : plainName "jdk/internal/util/Preconditions" = true := by first | (simp [plainName, overriddenIn]; done) | decide +kernel
theorem pn3 : plainName "java/lang/StringLatin1" = true := by first | (simp [plainName, overriddenIn]; done) | decide +kernel
theorem pn4 : plainName "com/example/markmint/markmint/core/code/GtinCheckDigitPinLaw" = true := by first | (simp [plainName, overriddenIn]; done) | decide +kernel
theorem pn5 : plainName "com/example/markmint/markmint/core/code/Gtin" = true := by first | (simp [plainName, overriddenIn]; done) | decide +kernel
theorem pd0 : parseMethodDescriptor "([CI[BII)I" = some ⟨[(.array .char), .int, (.array .byte), .int, .int], some .int⟩ := by decide +kernel
theorem pd1 : parseMethodDescriptor "([CII)[B" = some ⟨[(.array .char), .int, .int], some (.array .byte)⟩ := by decide +kernel
theorem pd2 : parseMethodDescriptor "([BI)B" = some ⟨[(.array .byte), .int], some .byte⟩ := by decide +kernel
theorem pd3 : parseMethodDescriptor "([CIILjava/lang/Void;)V" = some ⟨[(.array .char), .int, .int, (.object "java/lang/Void")], none⟩ := by decide +kernel
theorem pd4 : parseMethodDescriptor "(IILjava/util/function/BiFunction;)I" = some ⟨[.int, .int, (.object "java/util/function/BiFunction")], some .int⟩ := by decide +kernel
theorem pd5 : parseMethodDescriptor "(II)V" = some ⟨[.int, .int], none⟩ := by decide +kernel
theorem pd6 : parseMethodDescriptor "()Z" = some ⟨[], some .boolean⟩ := by decide +kernel
theorem pd7 : parseMethodDescriptor "([BI)C" = some ⟨[(.array .byte), .int], some .char⟩ := by decide +kernel
theorem pd8 : parseMethodDescriptor "(I)C" = some ⟨[.int], some .char⟩ := by decide +kernel
theorem pd9 : parseMethodDescriptor "(JI)I" = some ⟨[.long, .int], some .int⟩ := by decide +kernel
theorem pd10 : parseMethodDescriptor "([C)V" = some ⟨[(.array .char)], none⟩ := by decide +kernel
theorem pd11 : parseMethodDescriptor "(Ljava/lang/String;)I" = some ⟨[(.object "java/lang/String")], some .int⟩ := by decide +kernel
theorem d_jdk_41_method_11_code_0 : decode jdk_41_method_11_code 0 = .ok (.iload_n 0, 1) := by decide +kernel
theorem d_jdk_41_method_11_code_1 : decode jdk_41_method_11_code 1 = .ok (.ifCond .lt 8, 3) := by decide +kernel
theorem d_jdk_41_method_11_code_4 : decode jdk_41_method_11_code 4 = .ok (.iload_n 0, 1) := by decide +kernel
theorem d_jdk_41_method_11_code_5 : decode jdk_41_method_11_code 5 = .ok (.iload_n 1, 1) := by decide +kernel
theorem d_jdk_41_method_11_code_6 : decode jdk_41_method_11_code 6 = .ok (.if_icmp .lt 10, 3) := by decide +kernel
theorem d_jdk_41_method_11_code_16 : decode jdk_41_method_11_code 16 = .ok (.iload_n 0, 1) := by decide +kernel
theorem d_jdk_41_method_11_code_17 : decode jdk_41_method_11_code 17 = .ok (.ireturn, 1) := by decide +kernel
theorem d_jdk_42_method_149_code_0 : decode jdk_42_method_149_code 0 = .ok (.aload_n 0, 1) := by decide +kernel
theorem d_jdk_42_method_149_code_1 : decode jdk_42_method_149_code 1 = .ok (.invokespecial 1, 3) := by decide +kernel
theorem d_jdk_42_method_149_code_4 : decode jdk_42_method_149_code 4 = .ok (.iload_n 3, 1) := by decide +kernel
theorem d_jdk_42_method_149_code_5 : decode jdk_42_method_149_code 5 = .ok (.ifCond .ne 22, 3) := by decide +kernel
theorem d_jdk_42_method_149_code_27 : decode jdk_42_method_149_code 27 = .ok (.getstatic 38, 3) := by decide +kernel
theorem d_jdk_42_method_149_code_30 : decode jdk_42_method_149_code 30 = .ok (.ifCond .eq 28, 3) := by decide +kernel
theorem d_jdk_42_method_149_code_33 : decode jdk_42_method_149_code 33 = .ok (.aload_n 1, 1) := by decide +kernel
theorem d_jdk_42_method_149_code_34 : decode jdk_42_method_149_code 34 = .ok (.iload_n 2, 1) := by decide +kernel
theorem d_jdk_42_method_149_code_35 : decode jdk_42_method_149_code 35 = .ok (.iload_n 3, 1) := by decide +kernel
theorem d_jdk_42_method_149_code_36 : decode jdk_42_method_149_code 36 = .ok (.invokestatic 177, 3) := by decide +kernel
theorem d_jdk_42_method_149_code_39 : decode jdk_42_method_149_code 39 = .ok (.astore 5, 2) := by decide +kernel
theorem d_jdk_42_method_149_code_41 : decode jdk_42_method_149_code 41 = .ok (.aload_n 0, 1) := by decide +kernel
theorem d_jdk_42_method_149_code_42 : decode jdk_42_method_149_code 42 = .ok (.aload 5, 2) := by decide +kernel
theorem d_jdk_42_method_149_code_44 : decode jdk_42_method_149_code 44 = .ok (.iload_n 3, 1) := by decide +kernel
theorem d_jdk_42_method_149_code_45 : decode jdk_42_method_149_code 45 = .ok (.invokestatic 47, 3) := by decide +kernel
theorem d_jdk_42_method_149_code_48 : decode jdk_42_method_149_code 48 = .ok (.putfield 15, 3) := by decide +kernel
theorem d_jdk_42_method_149_code_51 : decode jdk_42_method_149_code 51 = .ok (.aload_n 0, 1) := by decide +kernel
theorem d_jdk_42_method_149_code_52 : decode jdk_42_method_149_code 52 = .ok (.aload 5, 2) := by decide +kernel
theorem d_jdk_42_method_149_code_54 : decode jdk_42_method_149_code 54 = .ok (.putfield 9, 3) := by decide +kernel
theorem d_jdk_42_method_149_code_57 : decode jdk_42_method_149_code 57 = .ok (.return_, 1) := by decide +kernel
theorem d_jdk_42_method_154_code_0 : decode jdk_42_method_154_code 0 = .ok (.getstatic 38, 3) := by decide +kernel
theorem d_jdk_42_method_154_code_3 : decode jdk_42_method_154_code 3 = .ok (.ifCond .eq 14, 3) := by decide +kernel
theorem d_jdk_42_method_154_code_6 : decode jdk_42_method_154_code 6 = .ok (.aload_n 0, 1) := by decide +kernel
theorem d_jdk_42_method_154_code_7 : decode jdk_42_method_154_code 7 = .ok (.getfield 15, 3) := by decide +kernel
theorem d_jdk_42_method_154_code_10 : decode jdk_42_method_154_code 10 = .ok (.ifCond .ne 7, 3) := by decide +kernel
theorem d_jdk_42_method_154_code_13 : decode jdk_42_method_154_code 13 = .ok (.iconst 1, 1) := by decide +kernel
theorem d_jdk_42_method_154_code_14 : decode jdk_42_method_154_code 14 = .ok (.goto 4, 3) := by decide +kernel
theorem d_jdk_42_method_154_code_18 : decode jdk_42_method_154_code 18 = .ok (.ireturn, 1) := by decide +kernel
theorem d_jdk_42_method_155_code_0 : decode jdk_42_method_155_code 0 = .ok (.iload_n 0, 1) := by decide +kernel
theorem d_jdk_42_method_155_code_1 : decode jdk_42_method_155_code 1 = .ok (.iload_n 1, 1) := by decide +kernel
theorem d_jdk_42_method_155_code_2 : decode jdk_42_method_155_code 2 = .ok (.getstatic 1053, 3) := by decide +kernel
theorem d_jdk_42_method_155_code_5 : decode jdk_42_method_155_code 5 = .ok (.invokestatic 1059, 3) := by decide +kernel
theorem d_jdk_42_method_155_code_8 : decode jdk_42_method_155_code 8 = .ok (.pop, 1) := by decide +kernel
theorem d_jdk_42_method_155_code_9 : decode jdk_42_method_155_code 9 = .ok (.return_, 1) := by decide +kernel
theorem d_jdk_42_method_3_code_0 : decode jdk_42_method_3_code 0 = .ok (.aload_n 0, 1) := by decide +kernel
theorem d_jdk_42_method_3_code_1 : decode jdk_42_method_3_code 1 = .ok (.aload_n 1, 1) := by decide +kernel
theorem d_jdk_42_method_3_code_2 : decode jdk_42_method_3_code 2 = .ok (.iconst 0, 1) := by decide +kernel
theorem d_jdk_42_method_3_code_3 : decode jdk_42_method_3_code 3 = .ok (.aload_n 1, 1) := by decide +kernel
theorem d_jdk_42_method_3_code_4 : decode jdk_42_method_3_code 4 = .ok (.arraylength, 1) := by decide +kernel
theorem d_jdk_42_method_3_code_5 : decode jdk_42_method_3_code 5 = .ok (.aconst_null, 1) := by decide +kernel
theorem d_jdk_42_method_3_code_6 : decode jdk_42_method_3_code 6 = .ok (.invokespecial 27, 3) := by decide +kernel
theorem d_jdk_42_method_3_code_9 : decode jdk_42_method_3_code 9 = .ok (.return_, 1) := by decide +kernel
theorem d_jdk_42_method_56_code_0 : decode jdk_42_method_56_code 0 = .ok (.aload_n 0, 1) := by decide +kernel
theorem d_jdk_42_method_56_code_1 : decode jdk_42_method_56_code 1 = .ok (.invokevirtual 492, 3) := by decide +kernel
theorem d_jdk_42_method_56_code_4 : decode jdk_42_method_56_code 4 = .ok (.ifCond .eq 12, 3) := by decide +kernel
theorem d_jdk_42_method_56_code_7 : decode jdk_42_method_56_code 7 = .ok (.aload_n 0, 1) := by decide +kernel
theorem d_jdk_42_method_56_code_8 : decode jdk_42_method_56_code 8 = .ok (.getfield 9, 3) := by decide +kernel
theorem d_jdk_42_method_56_code_11 : decode jdk_42_method_56_code 11 = .ok (.iload_n 1, 1) := by decide +kernel
theorem d_jdk_42_method_56_code_12 : decode jdk_42_method_56_code 12 = .ok (.invokestatic 495, 3) := by decide +kernel
theorem d_jdk_42_method_56_code_15 : decode jdk_42_method_56_code 15 = .ok (.ireturn, 1) := by decide +kernel
theorem d_jdk_43_method_2_code_0 : decode jdk_43_method_2_code 0 = .ok (.iload_n 1, 1) := by decide +kernel
theorem d_jdk_43_method_2_code_1 : decode jdk_43_method_2_code 1 = .ok (.aload_n 0, 1) := by decide +kernel
theorem d_jdk_43_method_2_code_2 : decode jdk_43_method_2_code 2 = .ok (.arraylength, 1) := by decide +kernel
theorem d_jdk_43_method_2_code_3 : decode jdk_43_method_2_code 3 = .ok (.invokestatic 9, 3) := by decide +kernel
theorem d_jdk_43_method_2_code_6 : decode jdk_43_method_2_code 6 = .ok (.aload_n 0, 1) := by decide +kernel
theorem d_jdk_43_method_2_code_7 : decode jdk_43_method_2_code 7 = .ok (.iload_n 1, 1) := by decide +kernel
theorem d_jdk_43_method_2_code_8 : decode jdk_43_method_2_code 8 = .ok (.baload, 1) := by decide +kernel
theorem d_jdk_43_method_2_code_9 : decode jdk_43_method_2_code 9 = .ok (.sipush 255, 3) := by decide +kernel
theorem d_jdk_43_method_2_code_12 : decode jdk_43_method_2_code 12 = .ok (.iand, 1) := by decide +kernel
theorem d_jdk_43_method_2_code_13 : decode jdk_43_method_2_code 13 = .ok (.i2c, 1) := by decide +kernel
theorem d_jdk_43_method_2_code_14 : decode jdk_43_method_2_code 14 = .ok (.ireturn, 1) := by decide +kernel
theorem d_jdk_52_method_15_code_0 : decode jdk_52_method_15_code 0 = .ok (.iload_n 1, 1) := by decide +kernel
theorem d_jdk_52_method_15_code_1 : decode jdk_52_method_15_code 1 = .ok (.aload_n 0, 1) := by decide +kernel
theorem d_jdk_52_method_15_code_2 : decode jdk_52_method_15_code 2 = .ok (.arraylength, 1) := by decide +kernel
theorem d_jdk_52_method_15_code_3 : decode jdk_52_method_15_code 3 = .ok (.isub, 1) := by decide +kernel
theorem d_jdk_52_method_15_code_4 : decode jdk_52_method_15_code 4 = .ok (.bipush 31, 2) := by decide +kernel
theorem d_jdk_52_method_15_code_6 : decode jdk_52_method_15_code 6 = .ok (.iushr, 1) := by decide +kernel
theorem d_jdk_52_method_15_code_7 : decode jdk_52_method_15_code 7 = .ok (.i2b, 1) := by decide +kernel
theorem d_jdk_52_method_15_code_8 : decode jdk_52_method_15_code 8 = .ok (.ireturn, 1) := by decide +kernel
theorem d_jdk_52_method_16_code_0 : decode jdk_52_method_16_code 0 = .ok (.iload_n 2, 1) := by decide +kernel
theorem d_jdk_52_method_16_code_1 : decode jdk_52_method_16_code 1 = .ok (.newarray .byte, 2) := by decide +kernel
theorem d_jdk_52_method_16_code_3 : decode jdk_52_method_16_code 3 = .ok (.astore_n 3, 1) := by decide +kernel
theorem d_jdk_52_method_16_code_4 : decode jdk_52_method_16_code 4 = .ok (.aload_n 0, 1) := by decide +kernel
theorem d_jdk_52_method_16_code_5 : decode jdk_52_method_16_code 5 = .ok (.iload_n 1, 1) := by decide +kernel
theorem d_jdk_52_method_16_code_6 : decode jdk_52_method_16_code 6 = .ok (.aload_n 3, 1) := by decide +kernel
theorem d_jdk_52_method_16_code_7 : decode jdk_52_method_16_code 7 = .ok (.iconst 0, 1) := by decide +kernel
theorem d_jdk_52_method_16_code_8 : decode jdk_52_method_16_code 8 = .ok (.iload_n 2, 1) := by decide +kernel
theorem d_jdk_52_method_16_code_9 : decode jdk_52_method_16_code 9 = .ok (.invokestatic 115, 3) := by decide +kernel
theorem d_jdk_52_method_16_code_12 : decode jdk_52_method_16_code 12 = .ok (.istore 4, 2) := by decide +kernel
theorem d_jdk_52_method_16_code_14 : decode jdk_52_method_16_code 14 = .ok (.iload 4, 2) := by decide +kernel
theorem d_jdk_52_method_16_code_16 : decode jdk_52_method_16_code 16 = .ok (.iload_n 2, 1) := by decide +kernel
theorem d_jdk_52_method_16_code_17 : decode jdk_52_method_16_code 17 = .ok (.if_icmp .eq 40, 3) := by decide +kernel
theorem d_jdk_52_method_16_code_57 : decode jdk_52_method_16_code 57 = .ok (.aload_n 3, 1) := by decide +kernel
theorem d_jdk_52_method_16_code_58 : decode jdk_52_method_16_code 58 = .ok (.areturn, 1) := by decide +kernel
theorem d_jdk_52_method_21_code_0 : decode jdk_52_method_21_code 0 = .ok (.iconst 0, 1) := by decide +kernel
theorem d_jdk_52_method_21_code_1 : decode jdk_52_method_21_code 1 = .ok (.istore 5, 2) := by decide +kernel
theorem d_jdk_52_method_21_code_3 : decode jdk_52_method_21_code 3 = .ok (.iload 5, 2) := by decide +kernel
theorem d_jdk_52_method_21_code_5 : decode jdk_52_method_21_code 5 = .ok (.iload 4, 2) := by decide +kernel
theorem d_jdk_52_method_21_code_7 : decode jdk_52_method_21_code 7 = .ok (.if_icmp .ge 37, 3) := by decide +kernel
theorem d_jdk_52_method_21_code_10 : decode jdk_52_method_21_code 10 = .ok (.aload_n 0, 1) := by decide +kernel
theorem d_jdk_52_method_21_code_11 : decode jdk_52_method_21_code 11 = .ok (.iload_n 1, 1) := by decide +kernel
theorem d_jdk_52_method_21_code_12 : decode jdk_52_method_21_code 12 = .ok (.caload, 1) := by decide +kernel
theorem d_jdk_52_method_21_code_13 : decode jdk_52_method_21_code 13 = .ok (.istore 6, 2) := by decide +kernel
theorem d_jdk_52_method_21_code_15 : decode jdk_52_method_21_code 15 = .ok (.iload 6, 2) := by decide +kernel
theorem d_jdk_52_method_21_code_17 : decode jdk_52_method_21_code 17 = .ok (.sipush 255, 3) := by decide +kernel
theorem d_jdk_52_method_21_code_20 : decode jdk_52_method_21_code 20 = .ok (.if_icmp .le 6, 3) := by decide +kernel
theorem d_jdk_52_method_21_code_26 : decode jdk_52_method_21_code 26 = .ok (.aload_n 2, 1) := by decide +kernel
theorem d_jdk_52_method_21_code_27 : decode jdk_52_method_21_code 27 = .ok (.iload_n 3, 1) := by decide +kernel
theorem d_jdk_52_method_21_code_28 : decode jdk_52_method_21_code 28 = .ok (.iload 6, 2) := by decide +kernel
theorem d_jdk_52_method_21_code_30 : decode jdk_52_method_21_code 30 = .ok (.i2b, 1) := by decide +kernel
theorem d_jdk_52_method_21_code_31 : decode jdk_52_method_21_code 31 = .ok (.bastore, 1) := by decide +kernel
theorem d_jdk_52_method_21_code_32 : decode jdk_52_method_21_code 32 = .ok (.iinc 1 1, 3) := by decide +kernel
theorem d_jdk_52_method_21_code_35 : decode jdk_52_method_21_code 35 = .ok (.iinc 3 1, 3) := by decide +kernel
theorem d_jdk_52_method_21_code_38 : decode jdk_52_method_21_code 38 = .ok (.iinc 5 1, 3) := by decide +kernel
theorem d_jdk_52_method_21_code_41 : decode jdk_52_method_21_code 41 = .ok (.goto (-38), 3) := by decide +kernel
theorem d_jdk_52_method_21_code_44 : decode jdk_52_method_21_code 44 = .ok (.iload 4, 2) := by decide +kernel
theorem d_jdk_52_method_21_code_46 : decode jdk_52_method_21_code 46 = .ok (.ireturn, 1) := by decide +kernel
theorem d_method_2_code_0 : decode method_2_code 0 = .ok (.lload_n 0, 1) := by decide +kernel
theorem d_method_2_code_1 : decode method_2_code 1 = .ok (.iconst 4, 1) := by decide +kernel
theorem d_method_2_code_2 : decode method_2_code 2 = .ok (.iload_n 2, 1) := by decide +kernel
theorem d_method_2_code_3 : decode method_2_code 3 = .ok (.imul, 1) := by decide +kernel
theorem d_method_2_code_4 : decode method_2_code 4 = .ok (.lushr, 1) := by decide +kernel
theorem d_method_2_code_5 : decode method_2_code 5 = .ok (.ldc2_w 7, 3) := by decide +kernel
theorem d_method_2_code_8 : decode method_2_code 8 = .ok (.land, 1) := by decide +kernel
theorem d_method_2_code_9 : decode method_2_code 9 = .ok (.l2i, 1) := by decide +kernel
theorem d_method_2_code_10 : decode method_2_code 10 = .ok (.bipush 10, 2) := by decide +kernel
theorem d_method_2_code_12 : decode method_2_code 12 = .ok (.irem, 1) := by decide +kernel
theorem d_method_2_code_13 : decode method_2_code 13 = .ok (.ireturn, 1) := by decide +kernel
theorem d_method_3_code_0 : decode method_3_code 0 = .ok (.bipush 48, 2) := by decide +kernel
theorem d_method_3_code_2 : decode method_3_code 2 = .ok (.iload_n 0, 1) := by decide +kernel
theorem d_method_3_code_3 : decode method_3_code 3 = .ok (.iadd, 1) := by decide +kernel
theorem d_method_3_code_4 : decode method_3_code 4 = .ok (.i2c, 1) := by decide +kernel
theorem d_method_3_code_5 : decode method_3_code 5 = .ok (.ireturn, 1) := by decide +kernel
theorem d_prog_16_method_3_code_0 : decode prog_16_method_3_code 0 = .ok (.iconst 0, 1) := by decide +kernel
theorem d_prog_16_method_3_code_1 : decode prog_16_method_3_code 1 = .ok (.istore_n 1, 1) := by decide +kernel
theorem d_prog_16_method_3_code_2 : decode prog_16_method_3_code 2 = .ok (.iconst 0, 1) := by decide +kernel
theorem d_prog_16_method_3_code_3 : decode prog_16_method_3_code 3 = .ok (.istore_n 2, 1) := by decide +kernel
theorem d_prog_16_method_3_code_4 : decode prog_16_method_3_code 4 = .ok (.iload_n 2, 1) := by decide +kernel
theorem d_prog_16_method_3_code_5 : decode prog_16_method_3_code 5 = .ok (.bipush 13, 2) := by decide +kernel
theorem d_prog_16_method_3_code_7 : decode prog_16_method_3_code 7 = .ok (.if_icmp .ge 38, 3) := by decide +kernel
theorem d_prog_16_method_3_code_10 : decode prog_16_method_3_code 10 = .ok (.bipush 13, 2) := by decide +kernel
theorem d_prog_16_method_3_code_12 : decode prog_16_method_3_code 12 = .ok (.iload_n 2, 1) := by decide +kernel
theorem d_prog_16_method_3_code_13 : decode prog_16_method_3_code 13 = .ok (.isub, 1) := by decide +kernel
theorem d_prog_16_method_3_code_14 : decode prog_16_method_3_code 14 = .ok (.iconst 2, 1) := by decide +kernel
theorem d_prog_16_method_3_code_15 : decode prog_16_method_3_code 15 = .ok (.irem, 1) := by decide +kernel
theorem d_prog_16_method_3_code_16 : decode prog_16_method_3_code 16 = .ok (.iconst 1, 1) := by decide +kernel
theorem d_prog_16_method_3_code_17 : decode prog_16_method_3_code 17 = .ok (.if_icmp .ne 7, 3) := by decide +kernel
theorem d_prog_16_method_3_code_20 : decode prog_16_method_3_code 20 = .ok (.iconst 3, 1) := by decide +kernel
theorem d_prog_16_method_3_code_21 : decode prog_16_method_3_code 21 = .ok (.goto 4, 3) := by decide +kernel
theorem d_prog_16_method_3_code_24 : decode prog_16_method_3_code 24 = .ok (.iconst 1, 1) := by decide +kernel
theorem d_prog_16_method_3_code_25 : decode prog_16_method_3_code 25 = .ok (.istore_n 3, 1) := by decide +kernel
theorem d_prog_16_method_3_code_26 : decode prog_16_method_3_code 26 = .ok (.iload_n 1, 1) := by decide +kernel
theorem d_prog_16_method_3_code_27 : decode prog_16_method_3_code 27 = .ok (.iload_n 3, 1) := by decide +kernel
theorem d_prog_16_method_3_code_28 : decode prog_16_method_3_code 28 = .ok (.aload_n 0, 1) := by decide +kernel
theorem d_prog_16_method_3_code_29 : decode prog_16_method_3_code 29 = .ok (.iload_n 2, 1) := by decide +kernel
theorem d_prog_16_method_3_code_30 : decode prog_16_method_3_code 30 = .ok (.invokevirtual 25, 3) := by decide +kernel
theorem d_prog_16_method_3_code_33 : decode prog_16_method_3_code 33 = .ok (.bipush 48, 2) := by decide +kernel
theorem d_prog_16_method_3_code_35 : decode prog_16_method_3_code 35 = .ok (.isub, 1) := by decide +kernel
theorem d_prog_16_method_3_code_36 : decode prog_16_method_3_code 36 = .ok (.imul, 1) := by decide +kernel
theorem d_prog_16_method_3_code_37 : decode prog_16_method_3_code 37 = .ok (.iadd, 1) := by decide +kernel
theorem d_prog_16_method_3_code_38 : decode prog_16_method_3_code 38 = .ok (.istore_n 1, 1) := by decide +kernel
theorem d_prog_16_method_3_code_39 : decode prog_16_method_3_code 39 = .ok (.iinc 2 1, 3) := by decide +kernel
theorem d_prog_16_method_3_code_42 : decode prog_16_method_3_code 42 = .ok (.goto (-38), 3) := by decide +kernel
theorem d_prog_16_method_3_code_45 : decode prog_16_method_3_code 45 = .ok (.bipush 10, 2) := by decide +kernel
theorem d_prog_16_method_3_code_47 : decode prog_16_method_3_code 47 = .ok (.iload_n 1, 1) := by decide +kernel
theorem d_prog_16_method_3_code_48 : decode prog_16_method_3_code 48 = .ok (.bipush 10, 2) := by decide +kernel
theorem d_prog_16_method_3_code_50 : decode prog_16_method_3_code 50 = .ok (.irem, 1) := by decide +kernel
theorem d_prog_16_method_3_code_51 : decode prog_16_method_3_code 51 = .ok (.isub, 1) := by decide +kernel
theorem d_prog_16_method_3_code_52 : decode prog_16_method_3_code 52 = .ok (.bipush 10, 2) := by decide +kernel
theorem d_prog_16_method_3_code_54 : decode prog_16_method_3_code 54 = .ok (.irem, 1) := by decide +kernel
theorem d_prog_16_method_3_code_55 : decode prog_16_method_3_code 55 = .ok (.ireturn, 1) := by decide +kernel
theorem own_toInt {i : Nat} (h : i < 2147483648) : i.toInt32.toInt = i := len_toInt (by omega)
theorem own_clamp {i : Nat} (h : i < 2147483648) : i.toInt32.toNatClampNeg = i := by
  simp only [Int32.toNatClampNeg]
  rw [own_toInt h]
  omega
theorem own_ltn {i n : Nat} (hi : i < 2147483648) (hn : n < 2147483648) : i.toInt32 < n.toInt32 ↔ i < n := by
  rw [Int32.lt_iff_toInt_lt, own_toInt hi, own_toInt hn]
  omega
theorem own_inb {i n : Nat} (h : i < n) (hn : n < 2147483648) : ¬ i.toInt32 < 0 ∧ i.toInt32 < n.toInt32 := by
  refine ⟨?_, (own_ltn (by omega) hn).mpr h⟩
  rw [Int32.lt_iff_toInt_lt, own_toInt (by omega)]
  have e0 : (0 : Int32).toInt = 0 := rfl
  omega
theorem own_incN {i : Nat} (h : i < 2147483647) : i.toInt32 + 1 = (i + 1).toInt32 := by
  rw [← Int32.toInt_inj, own_toInt (i := i + 1) (by omega)]
  have a := c_iadd i.toInt32 1
  have r := rng32 (i.toInt32 + 1)
  have e1 : (1 : Int32).toInt = 1 := rfl
  rw [own_toInt (i := i) (by omega), e1] at a
  omega
theorem own_getD (bs : List Int32) (i : Nat) : (bs.map Value.int).getD i (.int 0) = .int (bs.getD i 0) := by
  simp only [List.getD_eq_getElem?_getD, List.getElem?_map]
  cases bs[i]? <;> rfl
theorem own_at {bs : List Int32} {i : Nat} (h : i < 2147483648) : (bs.map Value.int).getD i.toInt32.toNatClampNeg (.int 0) = .int (bs.getD i 0) := by
  rw [own_clamp h, own_getD]
theorem own_take {a b : List Int32} {i : Nat} (h : a.take i = b.take i) (ha : i < a.length) (hb : i < b.length) (q : a.getD i 0 = b.getD i 0) : a.take (i + 1) = b.take (i + 1) := by
  rw [List.take_add_one, List.take_add_one, h]
  simp only [List.getD_eq_getElem?_getD, List.getElem?_eq_getElem ha, List.getElem?_eq_getElem hb, Option.getD_some] at q
  rw [List.getElem?_eq_getElem ha, List.getElem?_eq_getElem hb, q]
theorem own_sub {i n : Nat} (h : i ≤ n) (hn : n < 2147483648) : n.toInt32 - i.toInt32 = (n - i).toInt32 := by
  rw [← Int32.toInt_inj, own_toInt (i := n - i) (by omega)]
  have a := c_isub n.toInt32 i.toInt32
  have r := rng32 (n.toInt32 - i.toInt32)
  rw [own_toInt (i := i) (by omega), own_toInt hn] at a
  omega
/-- the byte of a char -/
def own_b (c : Int32) : Int32 := c.toInt8.toInt32
/-- the String at a, its bytes at t -/
def StrAt (Z : State) (h : Heap) (a t : Addr) (kb : ClassId) (bs : List Int32) : Prop := Exa Z h a "java/lang/String" ∧ Fld Z h a "java/lang/String" "coder" "B" (.int 0) ∧ Fld Z h a "java/lang/String" "value" "[B" (.ref t) ∧ Arv Z h t kb .byte bs.length.toInt32 (bs.map Value.int) (.int 0) ∧ bs.length < 100
section
variable {Z : State} {h h' : Heap} {a t b : Addr} {kb : ClassId} {bs : List Int32} {ws : List Addr} {sl : Nat} {v : Value}
theorem StrAt.ext (F : StrAt Z h a t kb bs) (E : Ext h h') : StrAt Z h' a t kb bs := ⟨F.1.ext E, F.2.1.ext E, F.2.2.1.ext E, F.2.2.2.1.ext E, F.2.2.2.2⟩
theorem StrAt.keep (F : StrAt Z h a t kb bs) (K : Keep h h' ws) (qa : a ∉ ws) (qt : t ∉ ws) : StrAt Z h' a t kb bs := ⟨F.1.keep K, F.2.1.keep K qa, F.2.2.1.keep K qa, F.2.2.2.1.keep K qt, F.2.2.2.2⟩
theorem StrAt.other (F : StrAt Z h a t kb bs) (W : Wr h h' b sl v) (qa : a ≠ b) (qt : t ≠ b) : StrAt Z h' a t kb bs := ⟨F.1.wr W, F.2.1.other W (Or.inl qa), F.2.2.1.other W (Or.inl qa), F.2.2.2.1.other W qt, F.2.2.2.2⟩
theorem StrAt.lt (F : StrAt Z h a t kb bs) : a < h.size := F.1.lt
theorem StrAt.lt2 (F : StrAt Z h a t kb bs) : t < h.size := F.2.2.2.1.lt
end
/-- the bytes written so far -/
def own_dst (cl : List Int32) (i : Nat) : List Value := (List.range cl.length).map fun k => if k < i then Value.int (own_b (cl.getD k 0)) else .int 0
theorem own_dst_len (cl : List Int32) (i : Nat) : (own_dst cl i).length = cl.length := by simp [own_dst]
theorem own_dst_set (cl : List Int32) {i : Nat} (h : i < cl.length) : (own_dst cl i).set i (.int (own_b (cl.getD i 0))) = own_dst cl (i + 1) := by
  apply List.ext_getElem
  · simp [own_dst]
  · intro k h1 h2
    rw [List.getElem_set]
    simp only [own_dst, List.getElem_map, List.getElem_range]
    by_cases q : i = k
    · subst q
      simp
    · simp only [q, if_false]
      by_cases r : k < i
      · simp [r, show k < i + 1 by omega]
      · simp [r, show ¬ k < i + 1 by omega]
theorem own_dst_end (cl : List Int32) : own_dst cl cl.length = (cl.map own_b).map Value.int := by
  apply List.ext_getElem
  · simp [own_dst]
  · intro k h1 h2
    have h3 : k < cl.length := by simpa [own_dst] using h1
    simp [own_dst, h3, List.getD_eq_getElem?_getD]
theorem own_dst_zero (cl : List Int32) : ∀ n i : Nat, (own_dst cl 0).getD i (.int 0) = (List.replicate n (Value.int 0)).getD i (.int 0) := by
  intro n i
  have e1 : (own_dst cl 0)[i]? = none ∨ (own_dst cl 0)[i]? = some (.int 0) := by
    simp only [own_dst, List.getElem?_map, Nat.not_lt_zero, if_false]
    cases (List.range cl.length)[i]? <;> simp
  have e2 : (List.replicate n (Value.int 0))[i]? = none ∨ (List.replicate n (Value.int 0))[i]? = some (.int 0) := by
    rw [List.getElem?_replicate]
    split <;> simp
  simp only [List.getD_eq_getElem?_getD]
  rcases e1 with e1 | e1 <;> rcases e2 with e2 | e2 <;> rw [e1, e2] <;> rfl
theorem own_byte (c : Int32) : nar .byte (c.toInt8.toInt32) = own_b c := by
  show (c.toInt8.toInt32).toInt8.toInt32 = c.toInt8.toInt32
  have q := Jvm.Free.XT.narrow_b c
  exact Value.int.inj q
theorem own_st6 {v0 v2 : Addr} {v1 v3 v4 v5 w : Int32} {sl : Slot} (h : One sl) : storeLocals #[.val (.ref v0), .val (.int v1), .val (.ref v2), .val (.int v3), .val (.int v4), .val (.int v5), sl] 6 (.int w) = some #[.val (.ref v0), .val (.int v1), .val (.ref v2), .val (.int v3), .val (.int v4), .val (.int v5), .val (.int w)] := by
  rcases h with rfl | ⟨w, rfl, hw⟩
  · rfl
  · cases w <;> first | rfl | (simp [Value.category] at hw)
theorem own_mem {cl : List Int32} {i : Nat} (h : i < cl.length) : cl.getD i 0 ∈ cl := by
  rw [List.getD_eq_getElem?_getD, List.getElem?_eq_getElem h]
  exact List.getElem_mem h
set_option maxRecDepth 65536 in
set_option maxHeartbeats 4000000 in
theorem own_comploop {p : Program} {l : Launch} {e : Env} {s : State} {m : MethodId} {args : Array Value} {below : List Frame} {meth : Method} {co : Code} {Z : State} {a0 : Array Value} (hw : HW Z a0) (a d : Addr) (ka kd : ClassId) (cl : List Int32) (hl : cl.length < 2147483647) (hc : ∀ z ∈ cl, ¬ 255 < z) {h0 : Heap} (hz : Z.heap.size ≤ d) (had : a ≠ d) (n : Nat) : ∀ (i : Nat) (sl : Slot), One sl → ∀ (T : State) (h : Heap) (locs : List Loc), St p l e ({ frames := 0, cells := 0, slots := 0, locals := 0 } : Room) s m args below meth co Z "java/lang/StringUTF16" jdk_52_method_21_code 7 (some .int) "compress" h0 [d] T h locs 0 0 → Arv Z h a ka .char cl.length.toInt32 (cl.map Value.int) (.int 0) → Arv Z h d kd .byte cl.length.toInt32 (own_dst cl i) (.int 0) → i + n = cl.length → Go p e below (PostOf Z s h0 [d] ({ frames := 0, cells := 0, slots := 0, locals := 0 } : Room).cells ({ frames := 0, cells := 0, slots := 0, locals := 0 } : Room).slots (fun v h => v = some (.int cl.length.toInt32) ∧ Arv Z h d kd .byte cl.length.toInt32 ((cl.map own_b).map Value.int) (.int 0))) T (mkF m 3 #[.val (.ref a), .val (.int i.toInt32), .val (.ref d), .val (.int i.toInt32), .val (.int cl.length.toInt32), .val (.int i.toInt32), sl] []) := by
  induction n with
  | zero =>
    intro i sl hsl T h locs S VS VT hn
    refine Go.iload S d_jdk_52_method_21_code_3 rfl (pc' := 5) rfl ?_
    refine Go.iload S d_jdk_52_method_21_code_5 rfl (pc' := 7) rfl ?_
    refine Go.icmp_ge S d_jdk_52_method_21_code_7 (pt := 44) (by decide) (pc' := 10) rfl ?_ ?_
    · intro c7
      refine Go.iload S d_jdk_52_method_21_code_44 rfl (pc' := 46) rfl ?_
      exact Go.ireturn S rfl d_jdk_52_method_21_code_46 (by decide) (by decide) (⟨rfl, by rw [show i = cl.length by omega, own_dst_end] at VT; exact VT⟩)
    · intro c7; exact absurd c7 (fun q => absurd ((own_ltn (by omega) (by omega)).mp q) (by omega))
  | succ n ih =>
    intro i sl hsl T h locs S VS VT hn
    have hi : i < cl.length := by omega
    refine Go.iload S d_jdk_52_method_21_code_3 rfl (pc' := 5) rfl ?_
    refine Go.iload S d_jdk_52_method_21_code_5 rfl (pc' := 7) rfl ?_
    refine Go.icmp_ge S d_jdk_52_method_21_code_7 (pt := 44) (by decide) (pc' := 10) rfl ?_ ?_
    · intro c7; exact absurd ((own_ltn (by omega) (by omega)).mpr hi) c7
    · intro c7
      refine Go.aloadN S d_jdk_52_method_21_code_10 rfl rfl (pc' := 11) rfl ?_
      refine Go.iloadN S d_jdk_52_method_21_code_11 rfl (pc' := 12) rfl ?_
      refine Go.caload S VS (own_inb hi (by omega)) (v := (.int (cl.getD i 0))) (own_at (i := i) (by omega)) d_jdk_52_method_21_code_12 (pc' := 13) rfl ?_
      refine Go.istore S d_jdk_52_method_21_code_13 (Ls' := #[.val (.ref a), .val (.int i.toInt32), .val (.ref d), .val (.int i.toInt32), .val (.int cl.length.toInt32), .val (.int i.toInt32), .val (.int (cl.getD i 0))]) (own_st6 hsl) (pc' := 15) rfl ?_
      refine Go.iload S d_jdk_52_method_21_code_15 rfl (pc' := 17) rfl ?_
      refine Go.sipush S (v := 255) d_jdk_52_method_21_code_17 rfl (pc' := 20) rfl ?_
      refine Go.icmp_le S d_jdk_52_method_21_code_20 (pt := 26) (by decide) (pc' := 23) rfl ?_ ?_
      · intro c20
        refine Go.aloadN S d_jdk_52_method_21_code_26 rfl rfl (pc' := 27) rfl ?_
        refine Go.iloadN S d_jdk_52_method_21_code_27 rfl (pc' := 28) rfl ?_
        refine Go.iload S d_jdk_52_method_21_code_28 rfl (pc' := 30) rfl ?_
        refine Go.i2b S d_jdk_52_method_21_code_30 (pc' := 31) rfl ?_
        refine Go.bastore S VT (own_inb hi (by omega)) (i := i) (own_clamp (by omega)) (by rw [own_dst_len]; exact hi) hz (Or.inl (List.mem_singleton.mpr rfl)) d_jdk_52_method_21_code_31 (pc' := 32) rfl ?_
        intro T1 h1 L1 S1 W1 V1
        rw [own_byte, own_dst_set cl hi] at V1
        have U1 := VS.other W1 had
        refine Go.iinc S1 d_jdk_52_method_21_code_32 rfl (Ls' := #[.val (.ref a), .val (.int (i.toInt32 + (1 : Int32))), .val (.ref d), .val (.int i.toInt32), .val (.int cl.length.toInt32), .val (.int i.toInt32), .val (.int (cl.getD i 0))]) rfl (pc' := 35) rfl ?_
        refine Go.iinc S1 d_jdk_52_method_21_code_35 rfl (Ls' := #[.val (.ref a), .val (.int (i.toInt32 + (1 : Int32))), .val (.ref d), .val (.int (i.toInt32 + (1 : Int32))), .val (.int cl.length.toInt32), .val (.int i.toInt32), .val (.int (cl.getD i 0))]) rfl (pc' := 38) rfl ?_
        refine Go.iinc S1 d_jdk_52_method_21_code_38 rfl (Ls' := #[.val (.ref a), .val (.int (i.toInt32 + (1 : Int32))), .val (.ref d), .val (.int (i.toInt32 + (1 : Int32))), .val (.int cl.length.toInt32), .val (.int (i.toInt32 + (1 : Int32))), .val (.int (cl.getD i 0))]) rfl (pc' := 41) rfl ?_
        refine Go.goto S1 d_jdk_52_method_21_code_41 (pc' := 3) (by decide) ?_
        rw [own_incN (by omega)]
        exact ih _ (.val (.int (cl.getD i 0))) (One.val rfl) _ _ _ S1 U1 V1 (by omega)
      · intro c20; exact absurd c20 (hc _ (own_mem hi))
set_option maxRecDepth 65536 in
set_option maxHeartbeats 4000000 in
theorem rm_comp5 {l : Launch} {Z : State} {a0 : Array Value} (hw : HW Z a0) (a : Addr) (d : Addr) (ka kd : ClassId) (cl : List Int32) (hl : cl.length < 2147483647) (hc : ∀ z ∈ cl, ¬ 255 < z) {h0 : Heap} (hE : Ext Z.heap h0) (hz : Z.heap.size ≤ d) (had : a ≠ d) (VS : Arv Z h0 a ka .char cl.length.toInt32 (cl.map Value.int) (.int 0)) (VT : Arv Z h0 d kd .byte cl.length.toInt32 (own_dst cl 0) (.int 0)) :
    OMeets l Z (⟨"java/lang/StringUTF16", "compress", "([CI[BII)I"⟩ : MethodName) jdk_52_method_21_code 7 (some .int) ({ frames := 0, cells := 0, slots := 0, locals := 0 } : Room) #[(.ref a), (.int (0 : Int32)), (.ref d), (.int (0 : Int32)), (.int cl.length.toInt32)] h0 [d] (fun v h => v = some (.int cl.length.toInt32) ∧ Arv Z h d kd .byte cl.length.toInt32 ((cl.map own_b).map Value.int) (.int 0)) := by
  refine OMeets.body (plainFor_of_name pn0) hE #[.val (.ref a), .val (.int (0 : Int32)), .val (.ref d), .val (.int (0 : Int32)), .val (.int cl.length.toInt32), .unset, .unset] (fun m => by first | rfl | (simp [entryFrame, mkF, argsToLocals, Value.category, maxLocals]; done)) ?_
  intro p e s m below meth co T S
  refine Go.iconst S (v := 0) d_jdk_52_method_21_code_0 rfl (pc' := 1) rfl ?_
  refine Go.istore S d_jdk_52_method_21_code_1 (Ls' := #[.val (.ref a), .val (.int (0 : Int32)), .val (.ref d), .val (.int (0 : Int32)), .val (.int cl.length.toInt32), .val (.int (0 : Int32)), .unset]) rfl (pc' := 3) rfl ?_
  exact own_comploop hw a d ka kd cl hl hc hz had cl.length 0 .unset One.u _ _ _ S VS VT (by omega)
set_option maxRecDepth 65536 in
set_option maxHeartbeats 4000000 in
theorem rm_comp3 {l : Launch} {Z : State} {a0 : Array Value} (hw : HW Z a0) (a : Addr) (ka : ClassId) (cl : List Int32) (hl : cl.length ≤ 14) (hc : ∀ z ∈ cl, ¬ 255 < z) {h0 : Heap} (hE : Ext Z.heap h0) (VS : Arv Z h0 a ka .char cl.length.toInt32 (cl.map Value.int) (.int 0)) :
    OMeets l Z (⟨"java/lang/StringUTF16", "compress", "([CII)[B"⟩ : MethodName) jdk_52_method_16_code 6 (some (.array .byte)) ({ frames := 1, cells := 1, slots := 14, locals := 23 } : Room) #[(.ref a), (.int (0 : Int32)), (.int cl.length.toInt32)] h0 [] (fun v h => ∃ d kd, v = some (.ref d) ∧ h0.size ≤ d ∧ Arv Z h d kd .byte cl.length.toInt32 ((cl.map own_b).map Value.int) (.int 0)) := by
  refine OMeets.body (plainFor_of_name pn0) hE #[.val (.ref a), .val (.int (0 : Int32)), .val (.int cl.length.toInt32), .unset, .unset, .unset] (fun m => by first | rfl | (simp [entryFrame, mkF, argsToLocals, Value.category, maxLocals]; done)) ?_
  intro p e s m below meth co T S
  have hpos : ¬ cl.length.toInt32 < 0 := by
    rw [Int32.lt_iff_toInt_lt, own_toInt (by omega)]
    have e0 : (0 : Int32).toInt = 0 := rfl
    omega
  refine Go.iloadN S d_jdk_52_method_16_code_0 rfl (pc' := 1) rfl ?_
  refine Go.newarray S (ty := .byte) (dv := (.int (0 : Int32))) rfl rfl (wd27 hw) d_jdk_52_method_16_code_1 hpos (cap := 14) (by rw [own_clamp (by omega)]; omega) (by decide) (by decide) (by decide) (pc' := 3) rfl ?_
  intro T1 h1 d kd S1 E1 hg1 hz1 hk1 V1
  have hd : a ≠ d := Nat.ne_of_lt (Nat.lt_of_lt_of_le VS.lt (Nat.le_of_eq hg1))
  replace VS := VS.ext E1
  replace V1 := V1.pad (own_dst_zero cl 14)
  refine Go.astoreN S1 d_jdk_52_method_16_code_3 rfl (Ls' := #[.val (.ref a), .val (.int (0 : Int32)), .val (.int cl.length.toInt32), .val (.ref d), .unset, .unset]) rfl (pc' := 4) rfl ?_
  refine Go.aloadN S1 d_jdk_52_method_16_code_4 rfl rfl (pc' := 5) rfl ?_
  refine Go.iloadN S1 d_jdk_52_method_16_code_5 rfl (pc' := 6) rfl ?_
  refine Go.aloadN S1 d_jdk_52_method_16_code_6 rfl rfl (pc' := 7) rfl ?_
  refine Go.iconst S1 (v := 0) d_jdk_52_method_16_code_7 rfl (pc' := 8) rfl ?_
  refine Go.iloadN S1 d_jdk_52_method_16_code_8 rfl (pc' := 9) rfl ?_
  refine Go.invokestatic S1 (y := ⟨"java/lang/StringUTF16", "compress", "([CI[BII)I"⟩) (rm_comp5 hw a d ka kd cl (by omega) hc S1.ext hz1 hd VS V1) (wd28 hw) (wd29 hw) (wd25 hw) (wd30 hw) (by decide) d_jdk_52_method_16_code_9 rfl pd0 (argsL := [(.ref a), (.int (0 : Int32)), (.ref d), (.int (0 : Int32)), (.int cl.length.toInt32)]) rfl rfl rfl (by decide) (W := 0) rfl (by decide) (by decide) (by decide) (allS (Or.inr hk1) all0) (pc' := 12) rfl ?_
  intro v2 T2 h2 L2 S2 K2 q2
  obtain ⟨rfl, V2⟩ := q2
  show Go _ _ _ _ T2 (mkF m 12 #[.val (.ref a), .val (.int (0 : Int32)), .val (.int cl.length.toInt32), .val (.ref d), .unset, .unset] [(.int cl.length.toInt32)])
  refine Go.istore S2 d_jdk_52_method_16_code_12 (Ls' := #[.val (.ref a), .val (.int (0 : Int32)), .val (.int cl.length.toInt32), .val (.ref d), .val (.int cl.length.toInt32), .unset]) rfl (pc' := 14) rfl ?_
  refine Go.iload S2 d_jdk_52_method_16_code_14 rfl (pc' := 16) rfl ?_
  refine Go.iloadN S2 d_jdk_52_method_16_code_16 rfl (pc' := 17) rfl ?_
  refine Go.icmp_eq S2 d_jdk_52_method_16_code_17 (pt := 57) (by decide) (pc' := 20) rfl ?_ ?_
  · intro c17
    refine Go.aloadN S2 d_jdk_52_method_16_code_57 rfl rfl (pc' := 58) rfl ?_
    exact Go.areturn S2 rfl rfl rfl d_jdk_52_method_16_code_58 (by decide) (by decide) (⟨d, kd, rfl, hk1, V2⟩)
  · intro c17; exact absurd rfl c17
theorem own_sh {n : Int32} : nar .byte ((((n - n).toUInt32 >>> ((31 : Int32) &&& 31).toUInt32).toInt32).toInt8.toInt32) = 0 := by
  rw [show n - n = 0 from by rw [← Int32.toInt_inj]; have := c_isub n n; have := rng32 (n - n); have e0 : (0 : Int32).toInt = 0 := rfl; omega]
  decide
set_option maxRecDepth 65536 in
set_option maxHeartbeats 4000000 in
theorem rm_cfal {l : Launch} {Z : State} {a0 : Array Value} (hw : HW Z a0) (d : Addr) (n : Int32) (kd : ClassId) (vs : List Value) {h0 : Heap} (hE : Ext Z.heap h0) (V1 : Arv Z h0 d kd .byte n vs (.int 0)) :
    OMeets l Z (⟨"java/lang/StringUTF16", "coderFromArrayLen", "([BI)B"⟩ : MethodName) jdk_52_method_15_code 2 (some .byte) ({ frames := 0, cells := 0, slots := 0, locals := 0 } : Room) #[(.ref d), (.int n)] h0 [] (fun v h => v = some (.int 0) ∧ h0 = h) := by
  refine OMeets.body (plainFor_of_name pn0) hE #[.val (.ref d), .val (.int n)] (fun m => by first | rfl | (simp [entryFrame, mkF, argsToLocals, Value.category, maxLocals]; done)) ?_
  intro p e s m below meth co T S
  refine Go.iloadN S d_jdk_52_method_15_code_0 rfl (pc' := 1) rfl ?_
  refine Go.aloadN S d_jdk_52_method_15_code_1 rfl rfl (pc' := 2) rfl ?_
  refine Go.arraylength S V1 d_jdk_52_method_15_code_2 (pc' := 3) rfl ?_
  refine Go.isub S d_jdk_52_method_15_code_3 (pc' := 4) rfl ?_
  refine Go.bipush S (v := 31) d_jdk_52_method_15_code_4 rfl (pc' := 6) rfl ?_
  refine Go.iushr S d_jdk_52_method_15_code_6 (pc' := 7) rfl ?_
  refine Go.i2b S d_jdk_52_method_15_code_7 (pc' := 8) rfl ?_
  exact Go.zreturn S rfl (by decide) d_jdk_52_method_15_code_8 (z' := 0) own_sh (by decide) (by decide) (⟨rfl, rfl⟩)
set_option maxRecDepth 65536 in
set_option maxHeartbeats 4000000 in
theorem rm_sinit4 {l : Launch} {Z : State} {a0 : Array Value} (hw : HW Z a0) (o : Addr) (a : Addr) (ka : ClassId) (cl : List Int32) (cs : Int32) (hl0 : 0 < cl.length) (hl : cl.length ≤ 14) (hc : ∀ z ∈ cl, ¬ 255 < z) {h0 : Heap} (hE : Ext Z.heap h0) (hz : Z.heap.size ≤ o) (E : Exa Z h0 o "java/lang/String") (Fv : Fld Z h0 o "java/lang/String" "value" "[B" .null) (Fc : Fld Z h0 o "java/lang/String" "coder" "B" (.int 0)) (hao : a ≠ o) (V1 : Arv Z h0 a ka .char cl.length.toInt32 (cl.map Value.int) (.int 0)) (Cs : Sta Z Z.heap "java/lang/String" "COMPACT_STRINGS" "Z" (.int cs)) (Cn : ¬ cs = 0) :
    OMeets l Z (⟨"java/lang/String", "<init>", "([CIILjava/lang/Void;)V"⟩ : MethodName) jdk_42_method_149_code 6 none ({ frames := 2, cells := 1, slots := 14, locals := 41 } : Room) #[(.ref o), (.ref a), (.int (0 : Int32)), (.int cl.length.toInt32), .null] h0 [o] (fun v h => v = none ∧ ∃ t kb, StrAt Z h o t kb (cl.map own_b) ∧ h0.size ≤ t) := by
  refine OMeets.body (plainFor_of_name pn1) hE #[.val (.ref o), .val (.ref a), .val (.int (0 : Int32)), .val (.int cl.length.toInt32), .val .null, .unset] (fun m => by first | rfl | (simp [entryFrame, mkF, argsToLocals, Value.category, maxLocals]; done)) ?_
  intro p e s m below meth co T S
  have ho := E.lt
  refine Go.aloadN S d_jdk_42_method_149_code_0 rfl rfl (pc' := 1) rfl ?_
  refine Go.initObject S (wd19 hw) (wd20 hw) (wd21 hw) d_jdk_42_method_149_code_1 rfl (by decide) (W := 0) rfl (by decide) (pc' := 4) rfl ?_
  intro T1 S1
  refine Go.iloadN S1 d_jdk_42_method_149_code_4 rfl (pc' := 5) rfl ?_
  refine Go.if_ne S1 d_jdk_42_method_149_code_5 (pt := 27) (by decide) (pc' := 8) rfl ?_ ?_
  · intro c5
    refine Go.getstatic S1 (host := "") (Or.inl (wd22 hw)) Via.refl Cs d_jdk_42_method_149_code_27 (pc' := 30) rfl ?_
    intro T2 S2
    refine Go.if_eq S2 d_jdk_42_method_149_code_30 (pt := 58) (by decide) (pc' := 33) rfl ?_ ?_
    · intro c30; exact absurd c30 Cn
    · intro c30
      refine Go.aloadN S2 d_jdk_42_method_149_code_33 rfl rfl (pc' := 34) rfl ?_
      refine Go.iloadN S2 d_jdk_42_method_149_code_34 rfl (pc' := 35) rfl ?_
      refine Go.iloadN S2 d_jdk_42_method_149_code_35 rfl (pc' := 36) rfl ?_
      refine Go.invokestatic S2 (y := ⟨"java/lang/StringUTF16", "compress", "([CII)[B"⟩) (rm_comp3 hw a ka cl hl hc S2.ext V1) (wd23 hw) (wd24 hw) (wd25 hw) (wd26 hw) (by decide) d_jdk_42_method_149_code_36 rfl pd1 (argsL := [(.ref a), (.int (0 : Int32)), (.int cl.length.toInt32)]) rfl rfl rfl (by decide) (W := 0) rfl (by decide) (by decide) (by decide) all0 (pc' := 39) rfl ?_
      intro v3 T3 h3 L3 S3 K3 q3
      obtain ⟨d3, kd3, rfl, hk3, V3⟩ := q3
      replace E := E.keep K3
      replace Fv := Fv.keep K3 nin0
      replace Fc := Fc.keep K3 nin0
      replace V1 := V1.keep K3 nin0
      show Go _ _ _ _ T3 (mkF m 39 #[.val (.ref o), .val (.ref a), .val (.int (0 : Int32)), .val (.int cl.length.toInt32), .val .null, .unset] [(.ref d3)])
      have nd3 : d3 ≠ o := fun q => absurd hk3 (by rw [q]; exact Nat.not_le.mpr ho)
      refine Go.astore S3 d_jdk_42_method_149_code_39 rfl (Ls' := #[.val (.ref o), .val (.ref a), .val (.int (0 : Int32)), .val (.int cl.length.toInt32), .val .null, .val (.ref d3)]) rfl (pc' := 41) rfl ?_
      refine Go.aloadN S3 d_jdk_42_method_149_code_41 rfl rfl (pc' := 42) rfl ?_
      refine Go.aload S3 d_jdk_42_method_149_code_42 rfl rfl (pc' := 44) rfl ?_
      refine Go.iloadN S3 d_jdk_42_method_149_code_44 rfl (pc' := 45) rfl ?_
      refine Go.invokestatic S3 (y := ⟨"java/lang/StringUTF16", "coderFromArrayLen", "([BI)B"⟩) (rm_cfal hw d3 cl.length.toInt32 kd3 _ S3.ext V3) (wd31 hw) (wd32 hw) (wd25 hw) (wd33 hw) (by decide) d_jdk_42_method_149_code_45 rfl pd2 (argsL := [(.ref d3), (.int cl.length.toInt32)]) rfl rfl rfl (by decide) (W := 1) rfl (by decide) (by decide) (by decide) all0 (pc' := 48) rfl ?_
      intro v4 T4 h4 L4 S4 K4 q4
      obtain ⟨rfl, rfl⟩ := q4
      show Go _ _ _ _ T4 (mkF m 48 #[.val (.ref o), .val (.ref a), .val (.int (0 : Int32)), .val (.int cl.length.toInt32), .val .null, .val (.ref d3)] [(.int (0 : Int32)), (.ref o)])
      refine Go.putfieldN S4 (wd34 hw) Via.refl Fc E (Or.inr ⟨(wd35 hw), rfl, rfl⟩) (wd10 hw) (ty := .byte) (by decide) (v' := (.int (0 : Int32))) rfl rfl hz (Or.inl (List.mem_singleton.mpr rfl)) d_jdk_42_method_149_code_48 (pc' := 51) rfl ?_
      intro T5 h5 L5 S5 W5
      have F5 := Fc.same W5
      replace Fv := Fv.other W5 (Or.inr (slot_ne (Or.inr (wd37 hw)) (Or.inr (wd35 hw)) (by decide) (t := (.array .byte)) (t' := .byte) (by decide) (by decide)))
      replace E := E.wr W5
      replace V1 := V1.other W5 (hao)
      replace V3 := V3.other W5 (nd3)
      refine Go.aloadN S5 d_jdk_42_method_149_code_51 rfl rfl (pc' := 52) rfl ?_
      refine Go.aload S5 d_jdk_42_method_149_code_52 rfl rfl (pc' := 54) rfl ?_
      refine Go.putfield S5 (host := "") (Or.inl (wd36 hw)) Via.refl Fv E (Or.inr ⟨(wd37 hw), rfl, rfl⟩) (wd10 hw) (ty := (.array .byte)) (by decide) rfl rfl hz (Or.inl (List.mem_singleton.mpr rfl)) d_jdk_42_method_149_code_54 (pc' := 57) rfl ?_
      intro T6 h6 L6 S6 W6
      have F6 := Fv.same W6
      replace F5 := F5.other W6 (Or.inr (slot_ne (Or.inr (wd35 hw)) (Or.inr (wd37 hw)) (by decide) (t := .byte) (t' := (.array .byte)) (by decide) (by decide)))
      replace E := E.wr W6
      replace V1 := V1.other W6 (hao)
      replace V3 := V3.other W6 (nd3)
      exact Go.vreturn S6 rfl d_jdk_42_method_149_code_57 (by decide) (by decide) (⟨rfl, d3, kd3, ⟨E, F5, F6, by rw [List.length_map]; exact V3, by rw [List.length_map]; omega⟩, hk3⟩)
  · intro c5; exact absurd c5 (fun q => by have z := congrArg Int32.toInt q; rw [own_toInt (by omega)] at z; have e0 : (0 : Int32).toInt = 0 := rfl; omega)
set_option maxRecDepth 65536 in
set_option maxHeartbeats 4000000 in
theorem rm_sinit {l : Launch} {Z : State} {a0 : Array Value} (hw : HW Z a0) (o : Addr) (a : Addr) (ka : ClassId) (cl : List Int32) (cs : Int32) (hl0 : 0 < cl.length) (hl : cl.length ≤ 14) (hc : ∀ z ∈ cl, ¬ 255 < z) {h0 : Heap} (hE : Ext Z.heap h0) (hz : Z.heap.size ≤ o) (E : Exa Z h0 o "java/lang/String") (Fv : Fld Z h0 o "java/lang/String" "value" "[B" .null) (Fc : Fld Z h0 o "java/lang/String" "coder" "B" (.int 0)) (hao : a ≠ o) (V1 : Arv Z h0 a ka .char cl.length.toInt32 (cl.map Value.int) (.int 0)) (Cs : Sta Z Z.heap "java/lang/String" "COMPACT_STRINGS" "Z" (.int cs)) (Cn : ¬ cs = 0) :
    OMeets l Z (⟨"java/lang/String", "<init>", "([C)V"⟩ : MethodName) jdk_42_method_3_code 2 none ({ frames := 3, cells := 1, slots := 14, locals := 58 } : Room) #[(.ref o), (.ref a)] h0 [o] (fun v h => v = none ∧ ∃ t kb, StrAt Z h o t kb (cl.map own_b) ∧ h0.size ≤ t) := by
  refine OMeets.body (plainFor_of_name pn1) hE #[.val (.ref o), .val (.ref a)] (fun m => by first | rfl | (simp [entryFrame, mkF, argsToLocals, Value.category, maxLocals]; done)) ?_
  intro p e s m below meth co T S
  refine Go.aloadN S d_jdk_42_method_3_code_0 rfl rfl (pc' := 1) rfl ?_
  refine Go.aloadN S d_jdk_42_method_3_code_1 rfl rfl (pc' := 2) rfl ?_
  refine Go.iconst S (v := 0) d_jdk_42_method_3_code_2 rfl (pc' := 3) rfl ?_
  refine Go.aloadN S d_jdk_42_method_3_code_3 rfl rfl (pc' := 4) rfl ?_
  refine Go.arraylength S V1 d_jdk_42_method_3_code_4 (pc' := 5) rfl ?_
  refine Go.aconst_null S d_jdk_42_method_3_code_5 (pc' := 6) rfl ?_
  refine Go.invokespecial S (y := ⟨"java/lang/String", "<init>", "([CIILjava/lang/Void;)V"⟩) (rm_sinit4 hw o a ka cl cs hl0 hl hc S.ext hz E Fv Fc hao V1 Cs Cn) rfl rfl (wd15 hw) (wd16 hw) (wd11 hw) (wd18 hw) (by decide) d_jdk_42_method_3_code_6 rfl pd3 (argsL := [(.ref a), (.int (0 : Int32)), (.int cl.length.toInt32), .null]) rfl rfl rfl (by decide) (W := 0) rfl (by decide) (by decide) (by decide) (allS (Or.inl (List.mem_singleton.mpr rfl)) all0) (pc' := 9) rfl ?_
  intro v1 T1 h1 L1 S1 K1 q1
  obtain ⟨rfl, t, kb, A, ht⟩ := q1
  show Go _ _ _ _ T1 (mkF m 9 #[.val (.ref o), .val (.ref a)] [])
  exact Go.vreturn S1 rfl d_jdk_42_method_3_code_9 (by decide) (by decide) (⟨rfl, t, kb, A, ht⟩)
theorem own_ub {z : Int32} (h0 : ¬ z < 0) (h1 : ¬ 255 < z) : nar .char (((own_b z) &&& 255).toUInt32.toUInt16.toUInt32.toInt32) = z := by
  have a := c_i2b z
  have b := c_mask (z.toInt8.toInt32) 255 8 (by decide) (by decide)
  have d := c_i2c ((z.toInt8.toInt32) &&& 255)
  have e := c_i2c (((z.toInt8.toInt32) &&& 255).toUInt32.toUInt16.toUInt32.toInt32)
  have e0 : (0 : Int32).toInt = 0 := rfl
  have e255 : (255 : Int32).toInt = 255 := rfl
  rw [Int32.lt_iff_toInt_lt] at h0 h1
  rw [← Int32.toInt_inj]
  show ((((z.toInt8.toInt32) &&& 255).toUInt32.toUInt16.toUInt32.toInt32).toUInt32.toUInt16.toUInt32.toInt32).toInt = _
  omega
set_option maxRecDepth 65536 in
set_option maxHeartbeats 4000000 in
theorem rm_isl1 {l : Launch} {Z : State} {a0 : Array Value} (hw : HW Z a0) (o : Addr) (cs : Int32) {h0 : Heap} (hE : Ext Z.heap h0) (Fc : Fld Z h0 o "java/lang/String" "coder" "B" (.int 0)) (Cs : Sta Z Z.heap "java/lang/String" "COMPACT_STRINGS" "Z" (.int cs)) (Cn : ¬ cs = 0) :
    OMeets l Z (⟨"java/lang/String", "isLatin1", "()Z"⟩ : MethodName) jdk_42_method_154_code 1 (some .boolean) ({ frames := 0, cells := 0, slots := 0, locals := 0 } : Room) #[(.ref o)] h0 [] (fun v h => v = some (.int 1) ∧ h0 = h) := by
  refine OMeets.body (plainFor_of_name pn1) hE #[.val (.ref o)] (fun m => by first | rfl | (simp [entryFrame, mkF, argsToLocals, Value.category, maxLocals]; done)) ?_
  intro p e s m below meth co T S
  refine Go.getstatic S (host := "") (Or.inl (wd22 hw)) Via.refl Cs d_jdk_42_method_154_code_0 (pc' := 3) rfl ?_
  intro T1 S1
  refine Go.if_eq S1 d_jdk_42_method_154_code_3 (pt := 17) (by decide) (pc' := 6) rfl ?_ ?_
  · intro c3; exact absurd c3 Cn
  · intro c3
    refine Go.aloadN S1 d_jdk_42_method_154_code_6 rfl rfl (pc' := 7) rfl ?_
    refine Go.getfield S1 (host := "") (Or.inl (wd34 hw)) Via.refl Fc d_jdk_42_method_154_code_7 (pc' := 10) rfl ?_
    intro T2 S2
    refine Go.if_ne S2 d_jdk_42_method_154_code_10 (pt := 17) (by decide) (pc' := 13) rfl ?_ ?_
    · intro c10; exact absurd (by decide) c10
    · intro c10
      refine Go.iconst S2 (v := 1) d_jdk_42_method_154_code_13 rfl (pc' := 14) rfl ?_
      refine Go.goto S2 d_jdk_42_method_154_code_14 (pc' := 18) (by decide) ?_
      exact Go.zreturn S2 rfl (by decide) d_jdk_42_method_154_code_18 (z' := (1 : Int32)) rfl (by decide) (by decide) (⟨rfl, rfl⟩)
set_option maxRecDepth 65536 in
set_option maxHeartbeats 4000000 in
theorem rm_pci {l : Launch} {Z : State} {a0 : Array Value} (hw : HW Z a0) (j : Int32) (n : Int32) (fw : Value)  {h0 : Heap} (hE : Ext Z.heap h0) (hj : ¬ j < 0 ∧ j < n) (Fr : fw.isRef = true) :
    OMeets l Z (⟨"jdk/internal/util/Preconditions", "checkIndex", "(IILjava/util/function/BiFunction;)I"⟩ : MethodName) jdk_41_method_11_code 3 (some .int) ({ frames := 0, cells := 0, slots := 0, locals := 0 } : Room) #[(.int j), (.int n), fw] h0 [] (fun v h => v = some (.int j) ∧ h0 = h) := by
  refine OMeets.body (plainFor_of_name pn2) hE #[.val (.int j), .val (.int n), .val fw] (fun m => by rcases ref_cases Fr with rfl | ⟨a, rfl⟩ <;> rfl) ?_
  intro p e s m below meth co T S
  refine Go.iloadN S d_jdk_41_method_11_code_0 rfl (pc' := 1) rfl ?_
  refine Go.if_lt S d_jdk_41_method_11_code_1 (pt := 9) (by decide) (pc' := 4) rfl ?_ ?_
  · intro c1; exact absurd c1 hj.1
  · intro c1
    refine Go.iloadN S d_jdk_41_method_11_code_4 rfl (pc' := 5) rfl ?_
    refine Go.iloadN S d_jdk_41_method_11_code_5 rfl (pc' := 6) rfl ?_
    refine Go.icmp_lt S d_jdk_41_method_11_code_6 (pt := 16) (by decide) (pc' := 9) rfl ?_ ?_
    · intro c6
      refine Go.iloadN S d_jdk_41_method_11_code_16 rfl (pc' := 17) rfl ?_
      exact Go.ireturn S rfl d_jdk_41_method_11_code_17 (by decide) (by decide) (⟨rfl, rfl⟩)
    · intro c6; exact absurd hj.2 c6
set_option maxRecDepth 65536 in
set_option maxHeartbeats 4000000 in
theorem rm_ci {l : Launch} {Z : State} {a0 : Array Value} (hw : HW Z a0) (j : Int32) (n : Int32) (fw : Value) {h0 : Heap} (hE : Ext Z.heap h0) (hj : ¬ j < 0 ∧ j < n) (Ff : Sta Z Z.heap "jdk/internal/util/Preconditions" "SIOOBE_FORMATTER" "Ljava/util/function/BiFunction;" fw) (Fr : fw.isRef = true) :
    OMeets l Z (⟨"java/lang/String", "checkIndex", "(II)V"⟩ : MethodName) jdk_42_method_155_code 2 none ({ frames := 1, cells := 0, slots := 0, locals := 14 } : Room) #[(.int j), (.int n)] h0 [] (fun v h => v = none ∧ h0 = h) := by
  refine OMeets.body (plainFor_of_name pn1) hE #[.val (.int j), .val (.int n)] (fun m => by first | rfl | (simp [entryFrame, mkF, argsToLocals, Value.category, maxLocals]; done)) ?_
  intro p e s m below meth co T S
  refine Go.iloadN S d_jdk_42_method_155_code_0 rfl (pc' := 1) rfl ?_
  refine Go.iloadN S d_jdk_42_method_155_code_1 rfl (pc' := 2) rfl ?_
  refine Go.getstatic S (host := "") (Or.inl (wd59 hw)) Via.refl Ff d_jdk_42_method_155_code_2 (pc' := 5) rfl ?_
  intro T1 S1
  refine Go.invokestatic S1 (y := ⟨"jdk/internal/util/Preconditions", "checkIndex", "(IILjava/util/function/BiFunction;)I"⟩) (rm_pci hw j n fw S1.ext hj Fr) (wd61 hw) (wd62 hw) (wd60 hw) (wd63 hw) (by decide) d_jdk_42_method_155_code_5 rfl pd4 (argsL := [(.int j), (.int n), fw]) rfl rfl rfl (by decide) (W := 0) rfl (by decide) (by decide) (by decide) all0 (pc' := 8) rfl ?_
  intro v2 T2 h2 L2 S2 K2 q2
  obtain ⟨rfl, rfl⟩ := q2
  show Go _ _ _ _ T2 (mkF m 8 #[.val (.int j), .val (.int n)] [(.int j)])
  refine Go.pop S2 d_jdk_42_method_155_code_8 rfl (pc' := 9) rfl ?_
  exact Go.vreturn S2 rfl d_jdk_42_method_155_code_9 (by decide) (by decide) (⟨rfl, rfl⟩)
theorem own_bat {cl : List Int32} {i : Nat} (h : i < cl.length) : (cl.map own_b).getD i 0 = own_b (cl.getD i 0) := by
  simp [List.getD_eq_getElem?_getD, List.getElem?_eq_getElem h]
theorem own_mem' {cl : List Int32} {i : Nat} (h : i < cl.length) : cl.getD i 0 ∈ cl := by
  rw [List.getD_eq_getElem?_getD, List.getElem?_eq_getElem h]
  exact List.getElem_mem h
set_option maxRecDepth 65536 in
set_option maxHeartbeats 4000000 in
theorem rm_l1ca {l : Launch} {Z : State} {a0 : Array Value} (hw : HW Z a0) (t : Addr) (kb : ClassId) (cl : List Int32) (i : Nat) (hi : i < cl.length) (hl : cl.length < 100) (hc : ∀ z ∈ cl, ¬ z < 0 ∧ ¬ 255 < z) (fw : Value) {h0 : Heap} (hE : Ext Z.heap h0) (VS : Arv Z h0 t kb .byte cl.length.toInt32 ((cl.map own_b).map Value.int) (.int 0)) (Ff : Sta Z Z.heap "jdk/internal/util/Preconditions" "SIOOBE_FORMATTER" "Ljava/util/function/BiFunction;" fw) (Fr : fw.isRef = true) :
    OMeets l Z (⟨"java/lang/StringLatin1", "charAt", "([BI)C"⟩ : MethodName) jdk_43_method_2_code 2 (some .char) ({ frames := 2, cells := 0, slots := 0, locals := 27 } : Room) #[(.ref t), (.int i.toInt32)] h0 [] (fun v h => v = some (.int (cl.getD i 0)) ∧ h0 = h) := by
  refine OMeets.body (plainFor_of_name pn3) hE #[.val (.ref t), .val (.int i.toInt32)] (fun m => by first | rfl | (simp [entryFrame, mkF, argsToLocals, Value.category, maxLocals]; done)) ?_
  intro p e s m below meth co T S
  refine Go.iloadN S d_jdk_43_method_2_code_0 rfl (pc' := 1) rfl ?_
  refine Go.aloadN S d_jdk_43_method_2_code_1 rfl rfl (pc' := 2) rfl ?_
  refine Go.arraylength S VS d_jdk_43_method_2_code_2 (pc' := 3) rfl ?_
  refine Go.invokestatic S (y := ⟨"java/lang/String", "checkIndex", "(II)V"⟩) (rm_ci hw i.toInt32 cl.length.toInt32 fw S.ext (own_inb hi (by omega)) Ff Fr) (wd56 hw) (wd57 hw) (wd11 hw) (wd58 hw) (by decide) d_jdk_43_method_2_code_3 rfl pd5 (argsL := [(.int i.toInt32), (.int cl.length.toInt32)]) rfl rfl rfl (by decide) (W := 0) rfl (by decide) (by decide) (by decide) all0 (pc' := 6) rfl ?_
  intro v1 T1 h1 L1 S1 K1 q1
  obtain ⟨rfl, rfl⟩ := q1
  show Go _ _ _ _ T1 (mkF m 6 #[.val (.ref t), .val (.int i.toInt32)] [])
  refine Go.aloadN S1 d_jdk_43_method_2_code_6 rfl rfl (pc' := 7) rfl ?_
  refine Go.iloadN S1 d_jdk_43_method_2_code_7 rfl (pc' := 8) rfl ?_
  refine Go.baload S1 VS (own_inb hi (by omega)) (v := (.int (own_b (cl.getD i 0)))) ((own_at (i := i) (by omega)).trans (congrArg Value.int (own_bat hi))) d_jdk_43_method_2_code_8 (pc' := 9) rfl ?_
  refine Go.sipush S1 (v := 255) d_jdk_43_method_2_code_9 rfl (pc' := 12) rfl ?_
  refine Go.iand S1 d_jdk_43_method_2_code_12 (pc' := 13) rfl ?_
  refine Go.i2c S1 d_jdk_43_method_2_code_13 (pc' := 14) rfl ?_
  exact Go.zreturn S1 rfl (by decide) d_jdk_43_method_2_code_14 (z' := (cl.getD i 0)) (own_ub (hc _ (own_mem' hi)).1 (hc _ (own_mem' hi)).2) (by decide) (by decide) (⟨rfl, rfl⟩)
theorem own_narc {z : Int32} (h0 : ¬ z < 0) (h1 : ¬ 65535 < z) : nar .char z = z := by
  have d := c_i2c z
  have e0 : (0 : Int32).toInt = 0 := rfl
  have e255 : (65535 : Int32).toInt = 65535 := rfl
  rw [Int32.lt_iff_toInt_lt] at h0 h1
  rw [← Int32.toInt_inj]
  show (z.toUInt32.toUInt16.toUInt32.toInt32).toInt = _
  omega
theorem own_big {z : Int32} (h : ¬ 255 < z) : ¬ 65535 < z := by
  have e1 : (255 : Int32).toInt = 255 := rfl
  have e2 : (65535 : Int32).toInt = 65535 := rfl
  rw [Int32.lt_iff_toInt_lt] at *
  omega
set_option maxRecDepth 65536 in
set_option maxHeartbeats 4000000 in
theorem rm_charAt {l : Launch} {Z : State} {a0 : Array Value} (hw : HW Z a0) (o : Addr) (t : Addr) (kb : ClassId) (cl : List Int32) (i : Nat) (hi : i < cl.length) (hl : cl.length < 100) (hc : ∀ z ∈ cl, ¬ z < 0 ∧ ¬ 255 < z) (fw : Value) (cs : Int32) {h0 : Heap} (hE : Ext Z.heap h0) (A : StrAt Z h0 o t kb (cl.map own_b)) (Ff : Sta Z Z.heap "jdk/internal/util/Preconditions" "SIOOBE_FORMATTER" "Ljava/util/function/BiFunction;" fw) (Fr : fw.isRef = true) (Cs : Sta Z Z.heap "java/lang/String" "COMPACT_STRINGS" "Z" (.int cs)) (Cn : ¬ cs = 0) :
    OMeets l Z (⟨"java/lang/String", "charAt", "(I)C"⟩ : MethodName) jdk_42_method_56_code 2 (some .char) ({ frames := 3, cells := 0, slots := 0, locals := 41 } : Room) #[(.ref o), (.int i.toInt32)] h0 [] (fun v h => v = some (.int (cl.getD i 0)) ∧ h0 = h) := by
  refine OMeets.body (plainFor_of_name pn1) hE #[.val (.ref o), .val (.int i.toInt32)] (fun m => by first | rfl | (simp [entryFrame, mkF, argsToLocals, Value.category, maxLocals]; done)) ?_
  intro p e s m below meth co T S
  refine Go.aloadN S d_jdk_42_method_56_code_0 rfl rfl (pc' := 1) rfl ?_
  refine Go.invokevirtual S (y := ⟨"java/lang/String", "isLatin1", "()Z"⟩) (rm_isl1 hw o cs S.ext A.2.1 Cs Cn) (wd47 hw) (wd48 hw) (S.nf (wd50 hw)) (wd50 hw) (wd49 hw) (wd11 hw) (wd51 hw) (by decide) A.1 d_jdk_42_method_56_code_1 rfl pd6 (argsL := []) rfl rfl rfl (by decide) (W := 0) rfl (by decide) (by decide) (by decide) all0 (pc' := 4) rfl ?_
  intro v1 T1 h1 L1 S1 K1 q1
  obtain ⟨rfl, rfl⟩ := q1
  show Go _ _ _ _ T1 (mkF m 4 #[.val (.ref o), .val (.int i.toInt32)] [(.int (1 : Int32))])
  refine Go.if_eq S1 d_jdk_42_method_56_code_4 (pt := 16) (by decide) (pc' := 7) rfl ?_ ?_
  · intro c4; exact absurd c4 (by decide)
  · intro c4
    refine Go.aloadN S1 d_jdk_42_method_56_code_7 rfl rfl (pc' := 8) rfl ?_
    refine Go.getfield S1 (host := "") (Or.inl (wd36 hw)) Via.refl A.2.2.1 d_jdk_42_method_56_code_8 (pc' := 11) rfl ?_
    intro T2 S2
    refine Go.iloadN S2 d_jdk_42_method_56_code_11 rfl (pc' := 12) rfl ?_
    refine Go.invokestatic S2 (y := ⟨"java/lang/StringLatin1", "charAt", "([BI)C"⟩) (rm_l1ca hw t kb cl i hi hl hc fw S2.ext (by have q := A.2.2.2.1; rw [List.length_map] at q; exact q) Ff Fr) (wd52 hw) (wd53 hw) (wd54 hw) (wd55 hw) (by decide) d_jdk_42_method_56_code_12 rfl pd7 (argsL := [(.ref t), (.int i.toInt32)]) rfl rfl rfl (by decide) (W := 0) rfl (by decide) (by decide) (by decide) all0 (pc' := 15) rfl ?_
    intro v3 T3 h3 L3 S3 K3 q3
    obtain ⟨rfl, rfl⟩ := q3
    show Go _ _ _ _ T3 (mkF m 15 #[.val (.ref o), .val (.int i.toInt32)] [(.int (cl.getD i 0))])
    exact Go.zreturn S3 rfl (by decide) d_jdk_42_method_56_code_15 (z' := (cl.getD i 0)) (own_narc (hc _ (own_mem' hi)).1 (own_big (hc _ (own_mem' hi)).2)) (by decide) (by decide) (⟨rfl, rfl⟩)
theorem own_dig (x : Int64) : 0 ≤ ((x &&& 15).toInt32 % 10).toInt ∧ ((x &&& 15).toInt32 % 10).toInt ≤ 9 := by
  have a := c_maskL x 15 4 (by decide) (by decide)
  have b := c_l2i (x &&& 15)
  have r := rng32 (x &&& 15).toInt32
  have d := c_irem (x &&& 15).toInt32 10 10 rfl
  omega
theorem own_dig2 (x : Int32) : 0 ≤ ((x &&& 15) % 10).toInt ∧ ((x &&& 15) % 10).toInt ≤ 9 := by
  have a := c_mask x 15 4 (by decide) (by decide)
  have d := c_irem (x &&& 15) 10 10 rfl
  omega
theorem own_48 {d : Int32} (h : 0 ≤ d.toInt ∧ d.toInt ≤ 9) : (48 + d).toInt = 48 + d.toInt := by
  have a := c_iadd 48 d
  have r := rng32 (48 + d)
  have e : (48 : Int32).toInt = 48 := rfl
  omega
theorem own_chr {d : Int32} (h : 0 ≤ d.toInt ∧ d.toInt ≤ 9) : ¬ (48 + d) < 0 ∧ ¬ 255 < (48 + d) := by
  have a := own_48 h
  have e0 : (0 : Int32).toInt = 0 := rfl
  have e1 : (255 : Int32).toInt = 255 := rfl
  rw [Int32.lt_iff_toInt_lt, Int32.lt_iff_toInt_lt]
  omega
theorem own_i2c {d : Int32} (h : 0 ≤ d.toInt ∧ d.toInt ≤ 9) : nar .char ((48 + d).toUInt32.toUInt16.toUInt32.toInt32) = 48 + d := by
  have a := own_48 h
  have b := c_i2c (48 + d)
  have e : (48 + d).toUInt32.toUInt16.toUInt32.toInt32 = 48 + d := by rw [← Int32.toInt_inj]; omega
  rw [e]
  exact own_narc (own_chr h).1 (own_big (own_chr h).2)
theorem own_step3 {s d : Int32} {n : Int} (h : 0 ≤ d.toInt ∧ d.toInt ≤ 9) (hs : s.toInt = n) (h0 : 0 ≤ n) (h1 : n ≤ 1000) : (s + 3 * ((48 + d) - 48)).toInt = n + 3 * d.toInt := by
  have a := own_48 h
  have b := c_isub (48 + d) 48
  have rb := rng32 ((48 + d) - 48)
  have m := c_imul 3 ((48 + d) - 48)
  have rm := rng32 (3 * ((48 + d) - 48))
  have q := c_iadd s (3 * ((48 + d) - 48))
  have rq := rng32 (s + 3 * ((48 + d) - 48))
  have e : (48 : Int32).toInt = 48 := rfl
  have e3 : (3 : Int32).toInt = 3 := rfl
  rw [e3] at m
  omega
theorem own_step1 {s d : Int32} {n : Int} (h : 0 ≤ d.toInt ∧ d.toInt ≤ 9) (hs : s.toInt = n) (h0 : 0 ≤ n) (h1 : n ≤ 1000) : (s + 1 * ((48 + d) - 48)).toInt = n + d.toInt := by
  have a := own_48 h
  have b := c_isub (48 + d) 48
  have rb := rng32 ((48 + d) - 48)
  have m := c_imul 1 ((48 + d) - 48)
  have rm := rng32 (1 * ((48 + d) - 48))
  have q := c_iadd s (1 * ((48 + d) - 48))
  have rq := rng32 (s + 1 * ((48 + d) - 48))
  have e : (48 : Int32).toInt = 48 := rfl
  have e1 : (1 : Int32).toInt = 1 := rfl
  rw [e1] at m
  omega
theorem own_chk {s : Int32} {n : Int} (hs : s.toInt = n) (h0 : 0 ≤ n) (h1 : n ≤ 1000) : ((10 - s % 10) % 10).toInt = (10 - n % 10) % 10 := by
  have a := c_irem s 10 10 rfl
  have b := c_isub 10 (s % 10)
  have rb := rng32 (10 - s % 10)
  have d := c_irem (10 - s % 10) 10 10 rfl
  have e : (10 : Int32).toInt = 10 := rfl
  omega
set_option maxRecDepth 65536 in
set_option maxHeartbeats 4000000 in
theorem rm_method_2_code {l : Launch} {Z : State} {a0 : Array Value} (hw : HW Z a0) (a : Int64) (i : Int32)  {h0 : Heap} (hE : Ext Z.heap h0) :
    OMeets l Z (⟨"com/example/markmint/markmint/core/code/GtinCheckDigitPinLaw", "d", "(JI)I"⟩ : MethodName) method_2_code 3 (some .int) ({ frames := 0, cells := 0, slots := 0, locals := 0 } : Room) #[(.long a), (.int i)] h0 [] (fun v h => (∃ w, v = some (.int w) ∧ 0 ≤ w.toInt ∧ w.toInt ≤ 9) ∧ h0 = h) := by
  refine OMeets.body (plainFor_of_name pn4) hE #[.val (.long a), .second, .val (.int i)] (fun m => by first | rfl | (simp [entryFrame, mkF, argsToLocals, Value.category, maxLocals]; done)) ?_
  intro p e s m below meth co T S
  refine Go.lloadN S d_method_2_code_0 rfl (pc' := 1) rfl ?_
  refine Go.iconst S (v := 4) d_method_2_code_1 rfl (pc' := 2) rfl ?_
  refine Go.iloadN S d_method_2_code_2 rfl (pc' := 3) rfl ?_
  refine Go.imul S d_method_2_code_3 (pc' := 4) rfl ?_
  refine Go.lushr S d_method_2_code_4 (pc' := 5) rfl ?_
  refine Go.ldc2 S (wd4 hw) d_method_2_code_5 (pc' := 8) rfl ?_
  refine Go.land S d_method_2_code_8 (pc' := 9) rfl ?_
  refine Go.l2i S d_method_2_code_9 (pc' := 10) rfl ?_
  refine Go.bipush S (v := 10) d_method_2_code_10 rfl (pc' := 12) rfl ?_
  refine Go.irem S d_method_2_code_12 (by decide) (pc' := 13) rfl ?_
  exact Go.ireturn S rfl d_method_2_code_13 (by decide) (by decide) (⟨⟨_, rfl, own_dig _⟩, rfl⟩)
set_option maxRecDepth 65536 in
set_option maxHeartbeats 4000000 in
theorem rm_method_3_code {l : Launch} {Z : State} {a0 : Array Value} (hw : HW Z a0) (d : Int32)  {h0 : Heap} (hE : Ext Z.heap h0) (hd : 0 ≤ d.toInt ∧ d.toInt ≤ 9) :
    OMeets l Z (⟨"com/example/markmint/markmint/core/code/GtinCheckDigitPinLaw", "ch", "(I)C"⟩ : MethodName) method_3_code 1 (some .char) ({ frames := 0, cells := 0, slots := 0, locals := 0 } : Room) #[(.int d)] h0 [] (fun v h => v = some (.int (48 + d)) ∧ h0 = h) := by
  refine OMeets.body (plainFor_of_name pn4) hE #[.val (.int d)] (fun m => by first | rfl | (simp [entryFrame, mkF, argsToLocals, Value.category, maxLocals]; done)) ?_
  intro p e s m below meth co T S
  refine Go.bipush S (v := 48) d_method_3_code_0 rfl (pc' := 2) rfl ?_
  refine Go.iloadN S d_method_3_code_2 rfl (pc' := 3) rfl ?_
  refine Go.iadd S d_method_3_code_3 (pc' := 4) rfl ?_
  refine Go.i2c S d_method_3_code_4 (pc' := 5) rfl ?_
  exact Go.zreturn S rfl (by decide) d_method_3_code_5 (z' := (48 + d)) (own_i2c hd) (by decide) (by decide) (⟨rfl, rfl⟩)
set_option maxRecDepth 65536 in
set_option maxHeartbeats 4000000 in
theorem rm_chk {l : Launch} {Z : State} {a0 : Array Value} (hw : HW Z a0) (o : Addr) (t : Addr) (kb : ClassId) (d0 d1 d2 d3 d4 d5 d6 d7 d8 d9 d10 d11 d12 d13 : Int32) (fw : Value) (cs : Int32) {h0 : Heap} (hE : Ext Z.heap h0) (hd0 : 0 ≤ d0.toInt ∧ d0.toInt ≤ 9) (hd1 : 0 ≤ d1.toInt ∧ d1.toInt ≤ 9) (hd2 : 0 ≤ d2.toInt ∧ d2.toInt ≤ 9) (hd3 : 0 ≤ d3.toInt ∧ d3.toInt ≤ 9) (hd4 : 0 ≤ d4.toInt ∧ d4.toInt ≤ 9) (hd5 : 0 ≤ d5.toInt ∧ d5.toInt ≤ 9) (hd6 : 0 ≤ d6.toInt ∧ d6.toInt ≤ 9) (hd7 : 0 ≤ d7.toInt ∧ d7.toInt ≤ 9) (hd8 : 0 ≤ d8.toInt ∧ d8.toInt ≤ 9) (hd9 : 0 ≤ d9.toInt ∧ d9.toInt ≤ 9) (hd10 : 0 ≤ d10.toInt ∧ d10.toInt ≤ 9) (hd11 : 0 ≤ d11.toInt ∧ d11.toInt ≤ 9) (hd12 : 0 ≤ d12.toInt ∧ d12.toInt ≤ 9) (hd13 : 0 ≤ d13.toInt ∧ d13.toInt ≤ 9) (hcl : ∀ z ∈ ([48 + d0, 48 + d1, 48 + d2, 48 + d3, 48 + d4, 48 + d5, 48 + d6, 48 + d7, 48 + d8, 48 + d9, 48 + d10, 48 + d11, 48 + d12, 48 + d13] : List Int32), ¬ z < 0 ∧ ¬ 255 < z) (A : StrAt Z h0 o t kb (([48 + d0, 48 + d1, 48 + d2, 48 + d3, 48 + d4, 48 + d5, 48 + d6, 48 + d7, 48 + d8, 48 + d9, 48 + d10, 48 + d11, 48 + d12, 48 + d13] : List Int32).map own_b)) (Ff : Sta Z Z.heap "jdk/internal/util/Preconditions" "SIOOBE_FORMATTER" "Ljava/util/function/BiFunction;" fw) (Fr : fw.isRef = true) (Cs : Sta Z Z.heap "java/lang/String" "COMPACT_STRINGS" "Z" (.int cs)) (Cn : ¬ cs = 0) :
    OMeets l Z (⟨"com/example/markmint/markmint/core/code/Gtin", "checkDigit", "(Ljava/lang/String;)I"⟩ : MethodName) prog_16_method_3_code 4 (some .int) ({ frames := 4, cells := 0, slots := 0, locals := 60 } : Room) #[(.ref o)] h0 [] (fun v h => (∃ r, v = some (.int r) ∧ r.toInt = (10 - (3 * d0.toInt + d1.toInt + 3 * d2.toInt + d3.toInt + 3 * d4.toInt + d5.toInt + 3 * d6.toInt + d7.toInt + 3 * d8.toInt + d9.toInt + 3 * d10.toInt + d11.toInt + 3 * d12.toInt) % 10) % 10) ∧ h0 = h) := by
  refine OMeets.body (plainFor_of_name pn5) hE #[.val (.ref o), .unset, .unset, .unset] (fun m => by first | rfl | (simp [entryFrame, mkF, argsToLocals, Value.category, maxLocals]; done)) ?_
  intro p e s m below meth co T S
  refine Go.iconst S (v := 0) d_prog_16_method_3_code_0 rfl (pc' := 1) rfl ?_
  refine Go.istoreN S d_prog_16_method_3_code_1 (Ls' := #[.val (.ref o), .val (.int (0 : Int32)), .unset, .unset]) rfl (pc' := 2) rfl ?_
  refine Go.iconst S (v := 0) d_prog_16_method_3_code_2 rfl (pc' := 3) rfl ?_
  refine Go.istoreN S d_prog_16_method_3_code_3 (Ls' := #[.val (.ref o), .val (.int (0 : Int32)), .val (.int (0 : Int32)), .unset]) rfl (pc' := 4) rfl ?_
  refine Go.iloadN S d_prog_16_method_3_code_4 rfl (pc' := 5) rfl ?_
  refine Go.bipush S (v := 13) d_prog_16_method_3_code_5 rfl (pc' := 7) rfl ?_
  refine Go.icmp_ge S d_prog_16_method_3_code_7 (pt := 45) (by decide) (pc' := 10) rfl ?_ ?_
  · intro c7; exact absurd (by decide) c7
  · intro c7
    refine Go.bipush S (v := 13) d_prog_16_method_3_code_10 rfl (pc' := 12) rfl ?_
    refine Go.iloadN S d_prog_16_method_3_code_12 rfl (pc' := 13) rfl ?_
    refine Go.isub S d_prog_16_method_3_code_13 (pc' := 14) rfl ?_
    refine Go.iconst S (v := 2) d_prog_16_method_3_code_14 rfl (pc' := 15) rfl ?_
    refine Go.irem S d_prog_16_method_3_code_15 (by decide) (pc' := 16) rfl ?_
    refine Go.iconst S (v := 1) d_prog_16_method_3_code_16 rfl (pc' := 17) rfl ?_
    refine Go.icmp_ne S d_prog_16_method_3_code_17 (pt := 24) (by decide) (pc' := 20) rfl ?_ ?_
    · intro c17; exact absurd (by decide) c17
    · intro c17
      refine Go.iconst S (v := 3) d_prog_16_method_3_code_20 rfl (pc' := 21) rfl ?_
      refine Go.goto S d_prog_16_method_3_code_21 (pc' := 25) (by decide) ?_
      refine Go.istoreN S d_prog_16_method_3_code_25 (Ls' := #[.val (.ref o), .val (.int (0 : Int32)), .val (.int (0 : Int32)), .val (.int (3 : Int32))]) rfl (pc' := 26) rfl ?_
      refine Go.iloadN S d_prog_16_method_3_code_26 rfl (pc' := 27) rfl ?_
      refine Go.iloadN S d_prog_16_method_3_code_27 rfl (pc' := 28) rfl ?_
      refine Go.aloadN S d_prog_16_method_3_code_28 rfl rfl (pc' := 29) rfl ?_
      refine Go.iloadN S d_prog_16_method_3_code_29 rfl (pc' := 30) rfl ?_
      refine Go.invokevirtual S (y := ⟨"java/lang/String", "charAt", "(I)C"⟩) (rm_charAt hw o t kb [48 + d0, 48 + d1, 48 + d2, 48 + d3, 48 + d4, 48 + d5, 48 + d6, 48 + d7, 48 + d8, 48 + d9, 48 + d10, 48 + d11, 48 + d12, 48 + d13] 0 (by simp) (by simp) hcl fw cs S.ext A Ff Fr Cs Cn) (wd42 hw) (wd43 hw) (S.nf (wd45 hw)) (wd45 hw) (wd44 hw) (wd11 hw) (wd46 hw) (by decide) A.1 d_prog_16_method_3_code_30 rfl pd8 (argsL := [(.int (0 : Int32))]) rfl rfl rfl (by decide) (W := 2) rfl (by decide) (by decide) (by decide) all0 (pc' := 33) rfl ?_
      intro v1 T1 h1 L1 S1 K1 q1
      obtain ⟨rfl, rfl⟩ := q1
      show Go _ _ _ _ T1 (mkF m 33 #[.val (.ref o), .val (.int (0 : Int32)), .val (.int (0 : Int32)), .val (.int (3 : Int32))] [(.int (48 + d0)), (.int (3 : Int32)), (.int (0 : Int32))])
      refine Go.bipush S1 (v := 48) d_prog_16_method_3_code_33 rfl (pc' := 35) rfl ?_
      refine Go.isub S1 d_prog_16_method_3_code_35 (pc' := 36) rfl ?_
      refine Go.imul S1 d_prog_16_method_3_code_36 (pc' := 37) rfl ?_
      refine Go.iadd S1 d_prog_16_method_3_code_37 (pc' := 38) rfl ?_
      refine Go.istoreN S1 d_prog_16_method_3_code_38 (Ls' := #[.val (.ref o), .val (.int ((0 : Int32) + ((3 : Int32) * ((48 + d0) - (48 : Int32))))), .val (.int (0 : Int32)), .val (.int (3 : Int32))]) rfl (pc' := 39) rfl ?_
      have hs1 : (((0 : Int32) + ((3 : Int32) * ((48 + d0) - (48 : Int32))))).toInt = 3 * d0.toInt := by
        have q := own_step3 (n := 0) hd0 (rfl : (0 : Int32).toInt = 0) (by omega) (by omega)
        omega
      generalize ((0 : Int32) + ((3 : Int32) * ((48 + d0) - (48 : Int32)))) = s1 at hs1 ⊢
      refine Go.iinc S1 d_prog_16_method_3_code_39 rfl (Ls' := #[.val (.ref o), .val (.int s1), .val (.int (1 : Int32)), .val (.int (3 : Int32))]) rfl (pc' := 42) rfl ?_
      refine Go.goto S1 d_prog_16_method_3_code_42 (pc' := 4) (by decide) ?_
      refine Go.iloadN S1 d_prog_16_method_3_code_4 rfl (pc' := 5) rfl ?_
      refine Go.bipush S1 (v := 13) d_prog_16_method_3_code_5 rfl (pc' := 7) rfl ?_
      refine Go.icmp_ge S1 d_prog_16_method_3_code_7 (pt := 45) (by decide) (pc' := 10) rfl ?_ ?_
      · intro c7_2; exact absurd (by decide) c7_2
      · intro c7_2
        refine Go.bipush S1 (v := 13) d_prog_16_method_3_code_10 rfl (pc' := 12) rfl ?_
        refine Go.iloadN S1 d_prog_16_method_3_code_12 rfl (pc' := 13) rfl ?_
        refine Go.isub S1 d_prog_16_method_3_code_13 (pc' := 14) rfl ?_
        refine Go.iconst S1 (v := 2) d_prog_16_method_3_code_14 rfl (pc' := 15) rfl ?_
        refine Go.irem S1 d_prog_16_method_3_code_15 (by decide) (pc' := 16) rfl ?_
        refine Go.iconst S1 (v := 1) d_prog_16_method_3_code_16 rfl (pc' := 17) rfl ?_
        refine Go.icmp_ne S1 d_prog_16_method_3_code_17 (pt := 24) (by decide) (pc' := 20) rfl ?_ ?_
        · intro c17_2
          refine Go.iconst S1 (v := 1) d_prog_16_method_3_code_24 rfl (pc' := 25) rfl ?_
          refine Go.istoreN S1 d_prog_16_method_3_code_25 (Ls' := #[.val (.ref o), .val (.int s1), .val (.int (1 : Int32)), .val (.int (1 : Int32))]) rfl (pc' := 26) rfl ?_
          refine Go.iloadN S1 d_prog_16_method_3_code_26 rfl (pc' := 27) rfl ?_
          refine Go.iloadN S1 d_prog_16_method_3_code_27 rfl (pc' := 28) rfl ?_
          refine Go.aloadN S1 d_prog_16_method_3_code_28 rfl rfl (pc' := 29) rfl ?_
          refine Go.iloadN S1 d_prog_16_method_3_code_29 rfl (pc' := 30) rfl ?_
          refine Go.invokevirtual S1 (y := ⟨"java/lang/String", "charAt", "(I)C"⟩) (rm_charAt hw o t kb [48 + d0, 48 + d1, 48 + d2, 48 + d3, 48 + d4, 48 + d5, 48 + d6, 48 + d7, 48 + d8, 48 + d9, 48 + d10, 48 + d11, 48 + d12, 48 + d13] 1 (by simp) (by simp) hcl fw cs S1.ext A Ff Fr Cs Cn) (wd42 hw) (wd43 hw) (S1.nf (wd45 hw)) (wd45 hw) (wd44 hw) (wd11 hw) (wd46 hw) (by decide) A.1 d_prog_16_method_3_code_30 rfl pd8 (argsL := [(.int (1 : Int32))]) rfl rfl rfl (by decide) (W := 2) rfl (by decide) (by decide) (by decide) all0 (pc' := 33) rfl ?_
          intro v2 T2 h2 L2 S2 K2 q2
          obtain ⟨rfl, rfl⟩ := q2
          show Go _ _ _ _ T2 (mkF m 33 #[.val (.ref o), .val (.int s1), .val (.int (1 : Int32)), .val (.int (1 : Int32))] [(.int (48 + d1)), (.int (1 : Int32)), (.int s1)])
          refine Go.bipush S2 (v := 48) d_prog_16_method_3_code_33 rfl (pc' := 35) rfl ?_
          refine Go.isub S2 d_prog_16_method_3_code_35 (pc' := 36) rfl ?_
          refine Go.imul S2 d_prog_16_method_3_code_36 (pc' := 37) rfl ?_
          refine Go.iadd S2 d_prog_16_method_3_code_37 (pc' := 38) rfl ?_
          refine Go.istoreN S2 d_prog_16_method_3_code_38 (Ls' := #[.val (.ref o), .val (.int (s1 + ((1 : Int32) * ((48 + d1) - (48 : Int32))))), .val (.int (1 : Int32)), .val (.int (1 : Int32))]) rfl (pc' := 39) rfl ?_
          have hs2 : ((s1 + ((1 : Int32) * ((48 + d1) - (48 : Int32))))).toInt = 3 * d0.toInt + d1.toInt := by
            have q := own_step1 (n := 3 * d0.toInt) hd1 hs1 (by omega) (by omega)
            omega
          generalize (s1 + ((1 : Int32) * ((48 + d1) - (48 : Int32)))) = s2 at hs2 ⊢
          refine Go.iinc S2 d_prog_16_method_3_code_39 rfl (Ls' := #[.val (.ref o), .val (.int s2), .val (.int (2 : Int32)), .val (.int (1 : Int32))]) rfl (pc' := 42) rfl ?_
          refine Go.goto S2 d_prog_16_method_3_code_42 (pc' := 4) (by decide) ?_
          refine Go.iloadN S2 d_prog_16_method_3_code_4 rfl (pc' := 5) rfl ?_
          refine Go.bipush S2 (v := 13) d_prog_16_method_3_code_5 rfl (pc' := 7) rfl ?_
          refine Go.icmp_ge S2 d_prog_16_method_3_code_7 (pt := 45) (by decide) (pc' := 10) rfl ?_ ?_
          · intro c7_3; exact absurd (by decide) c7_3
          · intro c7_3
            refine Go.bipush S2 (v := 13) d_prog_16_method_3_code_10 rfl (pc' := 12) rfl ?_
            refine Go.iloadN S2 d_prog_16_method_3_code_12 rfl (pc' := 13) rfl ?_
            refine Go.isub S2 d_prog_16_method_3_code_13 (pc' := 14) rfl ?_
            refine Go.iconst S2 (v := 2) d_prog_16_method_3_code_14 rfl (pc' := 15) rfl ?_
            refine Go.irem S2 d_prog_16_method_3_code_15 (by decide) (pc' := 16) rfl ?_
            refine Go.iconst S2 (v := 1) d_prog_16_method_3_code_16 rfl (pc' := 17) rfl ?_
            refine Go.icmp_ne S2 d_prog_16_method_3_code_17 (pt := 24) (by decide) (pc' := 20) rfl ?_ ?_
            · intro c17_3; exact absurd (by decide) c17_3
            · intro c17_3
              refine Go.iconst S2 (v := 3) d_prog_16_method_3_code_20 rfl (pc' := 21) rfl ?_
              refine Go.goto S2 d_prog_16_method_3_code_21 (pc' := 25) (by decide) ?_
              refine Go.istoreN S2 d_prog_16_method_3_code_25 (Ls' := #[.val (.ref o), .val (.int s2), .val (.int (2 : Int32)), .val (.int (3 : Int32))]) rfl (pc' := 26) rfl ?_
              refine Go.iloadN S2 d_prog_16_method_3_code_26 rfl (pc' := 27) rfl ?_
              refine Go.iloadN S2 d_prog_16_method_3_code_27 rfl (pc' := 28) rfl ?_
              refine Go.aloadN S2 d_prog_16_method_3_code_28 rfl rfl (pc' := 29) rfl ?_
              refine Go.iloadN S2 d_prog_16_method_3_code_29 rfl (pc' := 30) rfl ?_
              refine Go.invokevirtual S2 (y := ⟨"java/lang/String", "charAt", "(I)C"⟩) (rm_charAt hw o t kb [48 + d0, 48 + d1, 48 + d2, 48 + d3, 48 + d4, 48 + d5, 48 + d6, 48 + d7, 48 + d8, 48 + d9, 48 + d10, 48 + d11, 48 + d12, 48 + d13] 2 (by simp) (by simp) hcl fw cs S2.ext A Ff Fr Cs Cn) (wd42 hw) (wd43 hw) (S2.nf (wd45 hw)) (wd45 hw) (wd44 hw) (wd11 hw) (wd46 hw) (by decide) A.1 d_prog_16_method_3_code_30 rfl pd8 (argsL := [(.int (2 : Int32))]) rfl rfl rfl (by decide) (W := 2) rfl (by decide) (by decide) (by decide) all0 (pc' := 33) rfl ?_
              intro v3 T3 h3 L3 S3 K3 q3
              obtain ⟨rfl, rfl⟩ := q3
              show Go _ _ _ _ T3 (mkF m 33 #[.val (.ref o), .val (.int s2), .val (.int (2 : Int32)), .val (.int (3 : Int32))] [(.int (48 + d2)), (.int (3 : Int32)), (.int s2)])
              refine Go.bipush S3 (v := 48) d_prog_16_method_3_code_33 rfl (pc' := 35) rfl ?_
              refine Go.isub S3 d_prog_16_method_3_code_35 (pc' := 36) rfl ?_
              refine Go.imul S3 d_prog_16_method_3_code_36 (pc' := 37) rfl ?_
              refine Go.iadd S3 d_prog_16_method_3_code_37 (pc' := 38) rfl ?_
              refine Go.istoreN S3 d_prog_16_method_3_code_38 (Ls' := #[.val (.ref o), .val (.int (s2 + ((3 : Int32) * ((48 + d2) - (48 : Int32))))), .val (.int (2 : Int32)), .val (.int (3 : Int32))]) rfl (pc' := 39) rfl ?_
              have hs3 : ((s2 + ((3 : Int32) * ((48 + d2) - (48 : Int32))))).toInt = 3 * d0.toInt + d1.toInt + 3 * d2.toInt := by
                have q := own_step3 (n := 3 * d0.toInt + d1.toInt) hd2 hs2 (by omega) (by omega)
                omega
              generalize (s2 + ((3 : Int32) * ((48 + d2) - (48 : Int32)))) = s3 at hs3 ⊢
              refine Go.iinc S3 d_prog_16_method_3_code_39 rfl (Ls' := #[.val (.ref o), .val (.int s3), .val (.int (3 : Int32)), .val (.int (3 : Int32))]) rfl (pc' := 42) rfl ?_
              refine Go.goto S3 d_prog_16_method_3_code_42 (pc' := 4) (by decide) ?_
              refine Go.iloadN S3 d_prog_16_method_3_code_4 rfl (pc' := 5) rfl ?_
              refine Go.bipush S3 (v := 13) d_prog_16_method_3_code_5 rfl (pc' := 7) rfl ?_
              refine Go.icmp_ge S3 d_prog_16_method_3_code_7 (pt := 45) (by decide) (pc' := 10) rfl ?_ ?_
              · intro c7_4; exact absurd (by decide) c7_4
              · intro c7_4
                refine Go.bipush S3 (v := 13) d_prog_16_method_3_code_10 rfl (pc' := 12) rfl ?_
                refine Go.iloadN S3 d_prog_16_method_3_code_12 rfl (pc' := 13) rfl ?_
                refine Go.isub S3 d_prog_16_method_3_code_13 (pc' := 14) rfl ?_
                refine Go.iconst S3 (v := 2) d_prog_16_method_3_code_14 rfl (pc' := 15) rfl ?_
                refine Go.irem S3 d_prog_16_method_3_code_15 (by decide) (pc' := 16) rfl ?_
                refine Go.iconst S3 (v := 1) d_prog_16_method_3_code_16 rfl (pc' := 17) rfl ?_
                refine Go.icmp_ne S3 d_prog_16_method_3_code_17 (pt := 24) (by decide) (pc' := 20) rfl ?_ ?_
                · intro c17_4
                  refine Go.iconst S3 (v := 1) d_prog_16_method_3_code_24 rfl (pc' := 25) rfl ?_
                  refine Go.istoreN S3 d_prog_16_method_3_code_25 (Ls' := #[.val (.ref o), .val (.int s3), .val (.int (3 : Int32)), .val (.int (1 : Int32))]) rfl (pc' := 26) rfl ?_
                  refine Go.iloadN S3 d_prog_16_method_3_code_26 rfl (pc' := 27) rfl ?_
                  refine Go.iloadN S3 d_prog_16_method_3_code_27 rfl (pc' := 28) rfl ?_
                  refine Go.aloadN S3 d_prog_16_method_3_code_28 rfl rfl (pc' := 29) rfl ?_
                  refine Go.iloadN S3 d_prog_16_method_3_code_29 rfl (pc' := 30) rfl ?_
                  refine Go.invokevirtual S3 (y := ⟨"java/lang/String", "charAt", "(I)C"⟩) (rm_charAt hw o t kb [48 + d0, 48 + d1, 48 + d2, 48 + d3, 48 + d4, 48 + d5, 48 + d6, 48 + d7, 48 + d8, 48 + d9, 48 + d10, 48 + d11, 48 + d12, 48 + d13] 3 (by simp) (by simp) hcl fw cs S3.ext A Ff Fr Cs Cn) (wd42 hw) (wd43 hw) (S3.nf (wd45 hw)) (wd45 hw) (wd44 hw) (wd11 hw) (wd46 hw) (by decide) A.1 d_prog_16_method_3_code_30 rfl pd8 (argsL := [(.int (3 : Int32))]) rfl rfl rfl (by decide) (W := 2) rfl (by decide) (by decide) (by decide) all0 (pc' := 33) rfl ?_
                  intro v4 T4 h4 L4 S4 K4 q4
                  obtain ⟨rfl, rfl⟩ := q4
                  show Go _ _ _ _ T4 (mkF m 33 #[.val (.ref o), .val (.int s3), .val (.int (3 : Int32)), .val (.int (1 : Int32))] [(.int (48 + d3)), (.int (1 : Int32)), (.int s3)])
                  refine Go.bipush S4 (v := 48) d_prog_16_method_3_code_33 rfl (pc' := 35) rfl ?_
                  refine Go.isub S4 d_prog_16_method_3_code_35 (pc' := 36) rfl ?_
                  refine Go.imul S4 d_prog_16_method_3_code_36 (pc' := 37) rfl ?_
                  refine Go.iadd S4 d_prog_16_method_3_code_37 (pc' := 38) rfl ?_
                  refine Go.istoreN S4 d_prog_16_method_3_code_38 (Ls' := #[.val (.ref o), .val (.int (s3 + ((1 : Int32) * ((48 + d3) - (48 : Int32))))), .val (.int (3 : Int32)), .val (.int (1 : Int32))]) rfl (pc' := 39) rfl ?_
                  have hs4 : ((s3 + ((1 : Int32) * ((48 + d3) - (48 : Int32))))).toInt = 3 * d0.toInt + d1.toInt + 3 * d2.toInt + d3.toInt := by
                    have q := own_step1 (n := 3 * d0.toInt + d1.toInt + 3 * d2.toInt) hd3 hs3 (by omega) (by omega)
                    omega
                  generalize (s3 + ((1 : Int32) * ((48 + d3) - (48 : Int32)))) = s4 at hs4 ⊢
                  refine Go.iinc S4 d_prog_16_method_3_code_39 rfl (Ls' := #[.val (.ref o), .val (.int s4), .val (.int (4 : Int32)), .val (.int (1 : Int32))]) rfl (pc' := 42) rfl ?_
                  refine Go.goto S4 d_prog_16_method_3_code_42 (pc' := 4) (by decide) ?_
                  refine Go.iloadN S4 d_prog_16_method_3_code_4 rfl (pc' := 5) rfl ?_
                  refine Go.bipush S4 (v := 13) d_prog_16_method_3_code_5 rfl (pc' := 7) rfl ?_
                  refine Go.icmp_ge S4 d_prog_16_method_3_code_7 (pt := 45) (by decide) (pc' := 10) rfl ?_ ?_
                  · intro c7_5; exact absurd (by decide) c7_5
                  · intro c7_5
                    refine Go.bipush S4 (v := 13) d_prog_16_method_3_code_10 rfl (pc' := 12) rfl ?_
                    refine Go.iloadN S4 d_prog_16_method_3_code_12 rfl (pc' := 13) rfl ?_
                    refine Go.isub S4 d_prog_16_method_3_code_13 (pc' := 14) rfl ?_
                    refine Go.iconst S4 (v := 2) d_prog_16_method_3_code_14 rfl (pc' := 15) rfl ?_
                    refine Go.irem S4 d_prog_16_method_3_code_15 (by decide) (pc' := 16) rfl ?_
                    refine Go.iconst S4 (v := 1) d_prog_16_method_3_code_16 rfl (pc' := 17) rfl ?_
                    refine Go.icmp_ne S4 d_prog_16_method_3_code_17 (pt := 24) (by decide) (pc' := 20) rfl ?_ ?_
                    · intro c17_5; exact absurd (by decide) c17_5
                    · intro c17_5
                      refine Go.iconst S4 (v := 3) d_prog_16_method_3_code_20 rfl (pc' := 21) rfl ?_
                      refine Go.goto S4 d_prog_16_method_3_code_21 (pc' := 25) (by decide) ?_
                      refine Go.istoreN S4 d_prog_16_method_3_code_25 (Ls' := #[.val (.ref o), .val (.int s4), .val (.int (4 : Int32)), .val (.int (3 : Int32))]) rfl (pc' := 26) rfl ?_
                      refine Go.iloadN S4 d_prog_16_method_3_code_26 rfl (pc' := 27) rfl ?_
                      refine Go.iloadN S4 d_prog_16_method_3_code_27 rfl (pc' := 28) rfl ?_
                      refine Go.aloadN S4 d_prog_16_method_3_code_28 rfl rfl (pc' := 29) rfl ?_
                      refine Go.iloadN S4 d_prog_16_method_3_code_29 rfl (pc' := 30) rfl ?_
                      refine Go.invokevirtual S4 (y := ⟨"java/lang/String", "charAt", "(I)C"⟩) (rm_charAt hw o t kb [48 + d0, 48 + d1, 48 + d2, 48 + d3, 48 + d4, 48 + d5, 48 + d6, 48 + d7, 48 + d8, 48 + d9, 48 + d10, 48 + d11, 48 + d12, 48 + d13] 4 (by simp) (by simp) hcl fw cs S4.ext A Ff Fr Cs Cn) (wd42 hw) (wd43 hw) (S4.nf (wd45 hw)) (wd45 hw) (wd44 hw) (wd11 hw) (wd46 hw) (by decide) A.1 d_prog_16_method_3_code_30 rfl pd8 (argsL := [(.int (4 : Int32))]) rfl rfl rfl (by decide) (W := 2) rfl (by decide) (by decide) (by decide) all0 (pc' := 33) rfl ?_
                      intro v5 T5 h5 L5 S5 K5 q5
                      obtain ⟨rfl, rfl⟩ := q5
                      show Go _ _ _ _ T5 (mkF m 33 #[.val (.ref o), .val (.int s4), .val (.int (4 : Int32)), .val (.int (3 : Int32))] [(.int (48 + d4)), (.int (3 : Int32)), (.int s4)])
                      refine Go.bipush S5 (v := 48) d_prog_16_method_3_code_33 rfl (pc' := 35) rfl ?_
                      refine Go.isub S5 d_prog_16_method_3_code_35 (pc' := 36) rfl ?_
                      refine Go.imul S5 d_prog_16_method_3_code_36 (pc' := 37) rfl ?_
                      refine Go.iadd S5 d_prog_16_method_3_code_37 (pc' := 38) rfl ?_
                      refine Go.istoreN S5 d_prog_16_method_3_code_38 (Ls' := #[.val (.ref o), .val (.int (s4 + ((3 : Int32) * ((48 + d4) - (48 : Int32))))), .val (.int (4 : Int32)), .val (.int (3 : Int32))]) rfl (pc' := 39) rfl ?_
                      have hs5 : ((s4 + ((3 : Int32) * ((48 + d4) - (48 : Int32))))).toInt = 3 * d0.toInt + d1.toInt + 3 * d2.toInt + d3.toInt + 3 * d4.toInt := by
                        have q := own_step3 (n := 3 * d0.toInt + d1.toInt + 3 * d2.toInt + d3.toInt) hd4 hs4 (by omega) (by omega)
                        omega
                      generalize (s4 + ((3 : Int32) * ((48 + d4) - (48 : Int32)))) = s5 at hs5 ⊢
                      refine Go.iinc S5 d_prog_16_method_3_code_39 rfl (Ls' := #[.val (.ref o), .val (.int s5), .val (.int (5 : Int32)), .val (.int (3 : Int32))]) rfl (pc' := 42) rfl ?_
                      refine Go.goto S5 d_prog_16_method_3_code_42 (pc' := 4) (by decide) ?_
                      refine Go.iloadN S5 d_prog_16_method_3_code_4 rfl (pc' := 5) rfl ?_
                      refine Go.bipush S5 (v := 13) d_prog_16_method_3_code_5 rfl (pc' := 7) rfl ?_
                      refine Go.icmp_ge S5 d_prog_16_method_3_code_7 (pt := 45) (by decide) (pc' := 10) rfl ?_ ?_
                      · intro c7_6; exact absurd (by decide) c7_6
                      · intro c7_6
                        refine Go.bipush S5 (v := 13) d_prog_16_method_3_code_10 rfl (pc' := 12) rfl ?_
                        refine Go.iloadN S5 d_prog_16_method_3_code_12 rfl (pc' := 13) rfl ?_
                        refine Go.isub S5 d_prog_16_method_3_code_13 (pc' := 14) rfl ?_
                        refine Go.iconst S5 (v := 2) d_prog_16_method_3_code_14 rfl (pc' := 15) rfl ?_
                        refine Go.irem S5 d_prog_16_method_3_code_15 (by decide) (pc' := 16) rfl ?_
                        refine Go.iconst S5 (v := 1) d_prog_16_method_3_code_16 rfl (pc' := 17) rfl ?_
                        refine Go.icmp_ne S5 d_prog_16_method_3_code_17 (pt := 24) (by decide) (pc' := 20) rfl ?_ ?_
                        · intro c17_6
                          refine Go.iconst S5 (v := 1) d_prog_16_method_3_code_24 rfl (pc' := 25) rfl ?_
                          refine Go.istoreN S5 d_prog_16_method_3_code_25 (Ls' := #[.val (.ref o), .val (.int s5), .val (.int (5 : Int32)), .val (.int (1 : Int32))]) rfl (pc' := 26) rfl ?_
                          refine Go.iloadN S5 d_prog_16_method_3_code_26 rfl (pc' := 27) rfl ?_
                          refine Go.iloadN S5 d_prog_16_method_3_code_27 rfl (pc' := 28) rfl ?_
                          refine Go.aloadN S5 d_prog_16_method_3_code_28 rfl rfl (pc' := 29) rfl ?_
                          refine Go.iloadN S5 d_prog_16_method_3_code_29 rfl (pc' := 30) rfl ?_
                          refine Go.invokevirtual S5 (y := ⟨"java/lang/String", "charAt", "(I)C"⟩) (rm_charAt hw o t kb [48 + d0, 48 + d1, 48 + d2, 48 + d3, 48 + d4, 48 + d5, 48 + d6, 48 + d7, 48 + d8, 48 + d9, 48 + d10, 48 + d11, 48 + d12, 48 + d13] 5 (by simp) (by simp) hcl fw cs S5.ext A Ff Fr Cs Cn) (wd42 hw) (wd43 hw) (S5.nf (wd45 hw)) (wd45 hw) (wd44 hw) (wd11 hw) (wd46 hw) (by decide) A.1 d_prog_16_method_3_code_30 rfl pd8 (argsL := [(.int (5 : Int32))]) rfl rfl rfl (by decide) (W := 2) rfl (by decide) (by decide) (by decide) all0 (pc' := 33) rfl ?_
                          intro v6 T6 h6 L6 S6 K6 q6
                          obtain ⟨rfl, rfl⟩ := q6
                          show Go _ _ _ _ T6 (mkF m 33 #[.val (.ref o), .val (.int s5), .val (.int (5 : Int32)), .val (.int (1 : Int32))] [(.int (48 + d5)), (.int (1 : Int32)), (.int s5)])
                          refine Go.bipush S6 (v := 48) d_prog_16_method_3_code_33 rfl (pc' := 35) rfl ?_
                          refine Go.isub S6 d_prog_16_method_3_code_35 (pc' := 36) rfl ?_
                          refine Go.imul S6 d_prog_16_method_3_code_36 (pc' := 37) rfl ?_
                          refine Go.iadd S6 d_prog_16_method_3_code_37 (pc' := 38) rfl ?_
                          refine Go.istoreN S6 d_prog_16_method_3_code_38 (Ls' := #[.val (.ref o), .val (.int (s5 + ((1 : Int32) * ((48 + d5) - (48 : Int32))))), .val (.int (5 : Int32)), .val (.int (1 : Int32))]) rfl (pc' := 39) rfl ?_
                          have hs6 : ((s5 + ((1 : Int32) * ((48 + d5) - (48 : Int32))))).toInt = 3 * d0.toInt + d1.toInt + 3 * d2.toInt + d3.toInt + 3 * d4.toInt + d5.toInt := by
                            have q := own_step1 (n := 3 * d0.toInt + d1.toInt + 3 * d2.toInt + d3.toInt + 3 * d4.toInt) hd5 hs5 (by omega) (by omega)
                            omega
                          generalize (s5 + ((1 : Int32) * ((48 + d5) - (48 : Int32)))) = s6 at hs6 ⊢
                          refine Go.iinc S6 d_prog_16_method_3_code_39 rfl (Ls' := #[.val (.ref o), .val (.int s6), .val (.int (6 : Int32)), .val (.int (1 : Int32))]) rfl (pc' := 42) rfl ?_
                          refine Go.goto S6 d_prog_16_method_3_code_42 (pc' := 4) (by decide) ?_
                          refine Go.iloadN S6 d_prog_16_method_3_code_4 rfl (pc' := 5) rfl ?_
                          refine Go.bipush S6 (v := 13) d_prog_16_method_3_code_5 rfl (pc' := 7) rfl ?_
                          refine Go.icmp_ge S6 d_prog_16_method_3_code_7 (pt := 45) (by decide) (pc' := 10) rfl ?_ ?_
                          · intro c7_7; exact absurd (by decide) c7_7
                          · intro c7_7
                            refine Go.bipush S6 (v := 13) d_prog_16_method_3_code_10 rfl (pc' := 12) rfl ?_
                            refine Go.iloadN S6 d_prog_16_method_3_code_12 rfl (pc' := 13) rfl ?_
                            refine Go.isub S6 d_prog_16_method_3_code_13 (pc' := 14) rfl ?_
                            refine Go.iconst S6 (v := 2) d_prog_16_method_3_code_14 rfl (pc' := 15) rfl ?_
                            refine Go.irem S6 d_prog_16_method_3_code_15 (by decide) (pc' := 16) rfl ?_
                            refine Go.iconst S6 (v := 1) d_prog_16_method_3_code_16 rfl (pc' := 17) rfl ?_
                            refine Go.icmp_ne S6 d_prog_16_method_3_code_17 (pt := 24) (by decide) (pc' := 20) rfl ?_ ?_
                            · intro c17_7; exact absurd (by decide) c17_7
                            · intro c17_7
                              refine Go.iconst S6 (v := 3) d_prog_16_method_3_code_20 rfl (pc' := 21) rfl ?_
                              refine Go.goto S6 d_prog_16_method_3_code_21 (pc' := 25) (by decide) ?_
                              refine Go.istoreN S6 d_prog_16_method_3_code_25 (Ls' := #[.val (.ref o), .val (.int s6), .val (.int (6 : Int32)), .val (.int (3 : Int32))]) rfl (pc' := 26) rfl ?_
                              refine Go.iloadN S6 d_prog_16_method_3_code_26 rfl (pc' := 27) rfl ?_
                              refine Go.iloadN S6 d_prog_16_method_3_code_27 rfl (pc' := 28) rfl ?_
                              refine Go.aloadN S6 d_prog_16_method_3_code_28 rfl rfl (pc' := 29) rfl ?_
                              refine Go.iloadN S6 d_prog_16_method_3_code_29 rfl (pc' := 30) rfl ?_
                              refine Go.invokevirtual S6 (y := ⟨"java/lang/String", "charAt", "(I)C"⟩) (rm_charAt hw o t kb [48 + d0, 48 + d1, 48 + d2, 48 + d3, 48 + d4, 48 + d5, 48 + d6, 48 + d7, 48 + d8, 48 + d9, 48 + d10, 48 + d11, 48 + d12, 48 + d13] 6 (by simp) (by simp) hcl fw cs S6.ext A Ff Fr Cs Cn) (wd42 hw) (wd43 hw) (S6.nf (wd45 hw)) (wd45 hw) (wd44 hw) (wd11 hw) (wd46 hw) (by decide) A.1 d_prog_16_method_3_code_30 rfl pd8 (argsL := [(.int (6 : Int32))]) rfl rfl rfl (by decide) (W := 2) rfl (by decide) (by decide) (by decide) all0 (pc' := 33) rfl ?_
                              intro v7 T7 h7 L7 S7 K7 q7
                              obtain ⟨rfl, rfl⟩ := q7
                              show Go _ _ _ _ T7 (mkF m 33 #[.val (.ref o), .val (.int s6), .val (.int (6 : Int32)), .val (.int (3 : Int32))] [(.int (48 + d6)), (.int (3 : Int32)), (.int s6)])
                              refine Go.bipush S7 (v := 48) d_prog_16_method_3_code_33 rfl (pc' := 35) rfl ?_
                              refine Go.isub S7 d_prog_16_method_3_code_35 (pc' := 36) rfl ?_
                              refine Go.imul S7 d_prog_16_method_3_code_36 (pc' := 37) rfl ?_
                              refine Go.iadd S7 d_prog_16_method_3_code_37 (pc' := 38) rfl ?_
                              refine Go.istoreN S7 d_prog_16_method_3_code_38 (Ls' := #[.val (.ref o), .val (.int (s6 + ((3 : Int32) * ((48 + d6) - (48 : Int32))))), .val (.int (6 : Int32)), .val (.int (3 : Int32))]) rfl (pc' := 39) rfl ?_
                              have hs7 : ((s6 + ((3 : Int32) * ((48 + d6) - (48 : Int32))))).toInt = 3 * d0.toInt + d1.toInt + 3 * d2.toInt + d3.toInt + 3 * d4.toInt + d5.toInt + 3 * d6.toInt := by
                                have q := own_step3 (n := 3 * d0.toInt + d1.toInt + 3 * d2.toInt + d3.toInt + 3 * d4.toInt + d5.toInt) hd6 hs6 (by omega) (by omega)
                                omega
                              generalize (s6 + ((3 : Int32) * ((48 + d6) - (48 : Int32)))) = s7 at hs7 ⊢
                              refine Go.iinc S7 d_prog_16_method_3_code_39 rfl (Ls' := #[.val (.ref o), .val (.int s7), .val (.int (7 : Int32)), .val (.int (3 : Int32))]) rfl (pc' := 42) rfl ?_
                              refine Go.goto S7 d_prog_16_method_3_code_42 (pc' := 4) (by decide) ?_
                              refine Go.iloadN S7 d_prog_16_method_3_code_4 rfl (pc' := 5) rfl ?_
                              refine Go.bipush S7 (v := 13) d_prog_16_method_3_code_5 rfl (pc' := 7) rfl ?_
                              refine Go.icmp_ge S7 d_prog_16_method_3_code_7 (pt := 45) (by decide) (pc' := 10) rfl ?_ ?_
                              · intro c7_8; exact absurd (by decide) c7_8
                              · intro c7_8
                                refine Go.bipush S7 (v := 13) d_prog_16_method_3_code_10 rfl (pc' := 12) rfl ?_
                                refine Go.iloadN S7 d_prog_16_method_3_code_12 rfl (pc' := 13) rfl ?_
                                refine Go.isub S7 d_prog_16_method_3_code_13 (pc' := 14) rfl ?_
                                refine Go.iconst S7 (v := 2) d_prog_16_method_3_code_14 rfl (pc' := 15) rfl ?_
                                refine Go.irem S7 d_prog_16_method_3_code_15 (by decide) (pc' := 16) rfl ?_
                                refine Go.iconst S7 (v := 1) d_prog_16_method_3_code_16 rfl (pc' := 17) rfl ?_
                                refine Go.icmp_ne S7 d_prog_16_method_3_code_17 (pt := 24) (by decide) (pc' := 20) rfl ?_ ?_
                                · intro c17_8
                                  refine Go.iconst S7 (v := 1) d_prog_16_method_3_code_24 rfl (pc' := 25) rfl ?_
                                  refine Go.istoreN S7 d_prog_16_method_3_code_25 (Ls' := #[.val (.ref o), .val (.int s7), .val (.int (7 : Int32)), .val (.int (1 : Int32))]) rfl (pc' := 26) rfl ?_
                                  refine Go.iloadN S7 d_prog_16_method_3_code_26 rfl (pc' := 27) rfl ?_
                                  refine Go.iloadN S7 d_prog_16_method_3_code_27 rfl (pc' := 28) rfl ?_
                                  refine Go.aloadN S7 d_prog_16_method_3_code_28 rfl rfl (pc' := 29) rfl ?_
                                  refine Go.iloadN S7 d_prog_16_method_3_code_29 rfl (pc' := 30) rfl ?_
                                  refine Go.invokevirtual S7 (y := ⟨"java/lang/String", "charAt", "(I)C"⟩) (rm_charAt hw o t kb [48 + d0, 48 + d1, 48 + d2, 48 + d3, 48 + d4, 48 + d5, 48 + d6, 48 + d7, 48 + d8, 48 + d9, 48 + d10, 48 + d11, 48 + d12, 48 + d13] 7 (by simp) (by simp) hcl fw cs S7.ext A Ff Fr Cs Cn) (wd42 hw) (wd43 hw) (S7.nf (wd45 hw)) (wd45 hw) (wd44 hw) (wd11 hw) (wd46 hw) (by decide) A.1 d_prog_16_method_3_code_30 rfl pd8 (argsL := [(.int (7 : Int32))]) rfl rfl rfl (by decide) (W := 2) rfl (by decide) (by decide) (by decide) all0 (pc' := 33) rfl ?_
                                  intro v8 T8 h8 L8 S8 K8 q8
                                  obtain ⟨rfl, rfl⟩ := q8
                                  show Go _ _ _ _ T8 (mkF m 33 #[.val (.ref o), .val (.int s7), .val (.int (7 : Int32)), .val (.int (1 : Int32))] [(.int (48 + d7)), (.int (1 : Int32)), (.int s7)])
                                  refine Go.bipush S8 (v := 48) d_prog_16_method_3_code_33 rfl (pc' := 35) rfl ?_
                                  refine Go.isub S8 d_prog_16_method_3_code_35 (pc' := 36) rfl ?_
                                  refine Go.imul S8 d_prog_16_method_3_code_36 (pc' := 37) rfl ?_
                                  refine Go.iadd S8 d_prog_16_method_3_code_37 (pc' := 38) rfl ?_
                                  refine Go.istoreN S8 d_prog_16_method_3_code_38 (Ls' := #[.val (.ref o), .val (.int (s7 + ((1 : Int32) * ((48 + d7) - (48 : Int32))))), .val (.int (7 : Int32)), .val (.int (1 : Int32))]) rfl (pc' := 39) rfl ?_
                                  have hs8 : ((s7 + ((1 : Int32) * ((48 + d7) - (48 : Int32))))).toInt = 3 * d0.toInt + d1.toInt + 3 * d2.toInt + d3.toInt + 3 * d4.toInt + d5.toInt + 3 * d6.toInt + d7.toInt := by
                                    have q := own_step1 (n := 3 * d0.toInt + d1.toInt + 3 * d2.toInt + d3.toInt + 3 * d4.toInt + d5.toInt + 3 * d6.toInt) hd7 hs7 (by omega) (by omega)
                                    omega
                                  generalize (s7 + ((1 : Int32) * ((48 + d7) - (48 : Int32)))) = s8 at hs8 ⊢
                                  refine Go.iinc S8 d_prog_16_method_3_code_39 rfl (Ls' := #[.val (.ref o), .val (.int s8), .val (.int (8 : Int32)), .val (.int (1 : Int32))]) rfl (pc' := 42) rfl ?_
                                  refine Go.goto S8 d_prog_16_method_3_code_42 (pc' := 4) (by decide) ?_
                                  refine Go.iloadN S8 d_prog_16_method_3_code_4 rfl (pc' := 5) rfl ?_
                                  refine Go.bipush S8 (v := 13) d_prog_16_method_3_code_5 rfl (pc' := 7) rfl ?_
                                  refine Go.icmp_ge S8 d_prog_16_method_3_code_7 (pt := 45) (by decide) (pc' := 10) rfl ?_ ?_
                                  · intro c7_9; exact absurd (by decide) c7_9
                                  · intro c7_9
                                    refine Go.bipush S8 (v := 13) d_prog_16_method_3_code_10 rfl (pc' := 12) rfl ?_
                                    refine Go.iloadN S8 d_prog_16_method_3_code_12 rfl (pc' := 13) rfl ?_
                                    refine Go.isub S8 d_prog_16_method_3_code_13 (pc' := 14) rfl ?_
                                    refine Go.iconst S8 (v := 2) d_prog_16_method_3_code_14 rfl (pc' := 15) rfl ?_
                                    refine Go.irem S8 d_prog_16_method_3_code_15 (by decide) (pc' := 16) rfl ?_
                                    refine Go.iconst S8 (v := 1) d_prog_16_method_3_code_16 rfl (pc' := 17) rfl ?_
                                    refine Go.icmp_ne S8 d_prog_16_method_3_code_17 (pt := 24) (by decide) (pc' := 20) rfl ?_ ?_
                                    · intro c17_9; exact absurd (by decide) c17_9
                                    · intro c17_9
                                      refine Go.iconst S8 (v := 3) d_prog_16_method_3_code_20 rfl (pc' := 21) rfl ?_
                                      refine Go.goto S8 d_prog_16_method_3_code_21 (pc' := 25) (by decide) ?_
                                      refine Go.istoreN S8 d_prog_16_method_3_code_25 (Ls' := #[.val (.ref o), .val (.int s8), .val (.int (8 : Int32)), .val (.int (3 : Int32))]) rfl (pc' := 26) rfl ?_
                                      refine Go.iloadN S8 d_prog_16_method_3_code_26 rfl (pc' := 27) rfl ?_
                                      refine Go.iloadN S8 d_prog_16_method_3_code_27 rfl (pc' := 28) rfl ?_
                                      refine Go.aloadN S8 d_prog_16_method_3_code_28 rfl rfl (pc' := 29) rfl ?_
                                      refine Go.iloadN S8 d_prog_16_method_3_code_29 rfl (pc' := 30) rfl ?_
                                      refine Go.invokevirtual S8 (y := ⟨"java/lang/String", "charAt", "(I)C"⟩) (rm_charAt hw o t kb [48 + d0, 48 + d1, 48 + d2, 48 + d3, 48 + d4, 48 + d5, 48 + d6, 48 + d7, 48 + d8, 48 + d9, 48 + d10, 48 + d11, 48 + d12, 48 + d13] 8 (by simp) (by simp) hcl fw cs S8.ext A Ff Fr Cs Cn) (wd42 hw) (wd43 hw) (S8.nf (wd45 hw)) (wd45 hw) (wd44 hw) (wd11 hw) (wd46 hw) (by decide) A.1 d_prog_16_method_3_code_30 rfl pd8 (argsL := [(.int (8 : Int32))]) rfl rfl rfl (by decide) (W := 2) rfl (by decide) (by decide) (by decide) all0 (pc' := 33) rfl ?_
                                      intro v9 T9 h9 L9 S9 K9 q9
                                      obtain ⟨rfl, rfl⟩ := q9
                                      show Go _ _ _ _ T9 (mkF m 33 #[.val (.ref o), .val (.int s8), .val (.int (8 : Int32)), .val (.int (3 : Int32))] [(.int (48 + d8)), (.int (3 : Int32)), (.int s8)])
                                      refine Go.bipush S9 (v := 48) d_prog_16_method_3_code_33 rfl (pc' := 35) rfl ?_
                                      refine Go.isub S9 d_prog_16_method_3_code_35 (pc' := 36) rfl ?_
                                      refine Go.imul S9 d_prog_16_method_3_code_36 (pc' := 37) rfl ?_
                                      refine Go.iadd S9 d_prog_16_method_3_code_37 (pc' := 38) rfl ?_
                                      refine Go.istoreN S9 d_prog_16_method_3_code_38 (Ls' := #[.val (.ref o), .val (.int (s8 + ((3 : Int32) * ((48 + d8) - (48 : Int32))))), .val (.int (8 : Int32)), .val (.int (3 : Int32))]) rfl (pc' := 39) rfl ?_
                                      have hs9 : ((s8 + ((3 : Int32) * ((48 + d8) - (48 : Int32))))).toInt = 3 * d0.toInt + d1.toInt + 3 * d2.toInt + d3.toInt + 3 * d4.toInt + d5.toInt + 3 * d6.toInt + d7.toInt + 3 * d8.toInt := by
                                        have q := own_step3 (n := 3 * d0.toInt + d1.toInt + 3 * d2.toInt + d3.toInt + 3 * d4.toInt + d5.toInt + 3 * d6.toInt + d7.toInt) hd8 hs8 (by omega) (by omega)
                                        omega
                                      generalize (s8 + ((3 : Int32) * ((48 + d8) - (48 : Int32)))) = s9 at hs9 ⊢
                                      refine Go.iinc S9 d_prog_16_method_3_code_39 rfl (Ls' := #[.val (.ref o), .val (.int s9), .val (.int (9 : Int32)), .val (.int (3 : Int32))]) rfl (pc' := 42) rfl ?_
                                      refine Go.goto S9 d_prog_16_method_3_code_42 (pc' := 4) (by decide) ?_
                                      refine Go.iloadN S9 d_prog_16_method_3_code_4 rfl (pc' := 5) rfl ?_
                                      refine Go.bipush S9 (v := 13) d_prog_16_method_3_code_5 rfl (pc' := 7) rfl ?_
                                      refine Go.icmp_ge S9 d_prog_16_method_3_code_7 (pt := 45) (by decide) (pc' := 10) rfl ?_ ?_
                                      · intro c7_10; exact absurd (by decide) c7_10
                                      · intro c7_10
                                        refine Go.bipush S9 (v := 13) d_prog_16_method_3_code_10 rfl (pc' := 12) rfl ?_
                                        refine Go.iloadN S9 d_prog_16_method_3_code_12 rfl (pc' := 13) rfl ?_
                                        refine Go.isub S9 d_prog_16_method_3_code_13 (pc' := 14) rfl ?_
                                        refine Go.iconst S9 (v := 2) d_prog_16_method_3_code_14 rfl (pc' := 15) rfl ?_
                                        refine Go.irem S9 d_prog_16_method_3_code_15 (by decide) (pc' := 16) rfl ?_
                                        refine Go.iconst S9 (v := 1) d_prog_16_method_3_code_16 rfl (pc' := 17) rfl ?_
                                        refine Go.icmp_ne S9 d_prog_16_method_3_code_17 (pt := 24) (by decide) (pc' := 20) rfl ?_ ?_
                                        · intro c17_10
                                          refine Go.iconst S9 (v := 1) d_prog_16_method_3_code_24 rfl (pc' := 25) rfl ?_
                                          refine Go.istoreN S9 d_prog_16_method_3_code_25 (Ls' := #[.val (.ref o), .val (.int s9), .val (.int (9 : Int32)), .val (.int (1 : Int32))]) rfl (pc' := 26) rfl ?_
                                          refine Go.iloadN S9 d_prog_16_method_3_code_26 rfl (pc' := 27) rfl ?_
                                          refine Go.iloadN S9 d_prog_16_method_3_code_27 rfl (pc' := 28) rfl ?_
                                          refine Go.aloadN S9 d_prog_16_method_3_code_28 rfl rfl (pc' := 29) rfl ?_
                                          refine Go.iloadN S9 d_prog_16_method_3_code_29 rfl (pc' := 30) rfl ?_
                                          refine Go.invokevirtual S9 (y := ⟨"java/lang/String", "charAt", "(I)C"⟩) (rm_charAt hw o t kb [48 + d0, 48 + d1, 48 + d2, 48 + d3, 48 + d4, 48 + d5, 48 + d6, 48 + d7, 48 + d8, 48 + d9, 48 + d10, 48 + d11, 48 + d12, 48 + d13] 9 (by simp) (by simp) hcl fw cs S9.ext A Ff Fr Cs Cn) (wd42 hw) (wd43 hw) (S9.nf (wd45 hw)) (wd45 hw) (wd44 hw) (wd11 hw) (wd46 hw) (by decide) A.1 d_prog_16_method_3_code_30 rfl pd8 (argsL := [(.int (9 : Int32))]) rfl rfl rfl (by decide) (W := 2) rfl (by decide) (by decide) (by decide) all0 (pc' := 33) rfl ?_
                                          intro v10 T10 h10 L10 S10 K10 q10
                                          obtain ⟨rfl, rfl⟩ := q10
                                          show Go _ _ _ _ T10 (mkF m 33 #[.val (.ref o), .val (.int s9), .val (.int (9 : Int32)), .val (.int (1 : Int32))] [(.int (48 + d9)), (.int (1 : Int32)), (.int s9)])
                                          refine Go.bipush S10 (v := 48) d_prog_16_method_3_code_33 rfl (pc' := 35) rfl ?_
                                          refine Go.isub S10 d_prog_16_method_3_code_35 (pc' := 36) rfl ?_
                                          refine Go.imul S10 d_prog_16_method_3_code_36 (pc' := 37) rfl ?_
                                          refine Go.iadd S10 d_prog_16_method_3_code_37 (pc' := 38) rfl ?_
                                          refine Go.istoreN S10 d_prog_16_method_3_code_38 (Ls' := #[.val (.ref o), .val (.int (s9 + ((1 : Int32) * ((48 + d9) - (48 : Int32))))), .val (.int (9 : Int32)), .val (.int (1 : Int32))]) rfl (pc' := 39) rfl ?_
                                          have hs10 : ((s9 + ((1 : Int32) * ((48 + d9) - (48 : Int32))))).toInt = 3 * d0.toInt + d1.toInt + 3 * d2.toInt + d3.toInt + 3 * d4.toInt + d5.toInt + 3 * d6.toInt + d7.toInt + 3 * d8.toInt + d9.toInt := by
                                            have q := own_step1 (n := 3 * d0.toInt + d1.toInt + 3 * d2.toInt + d3.toInt + 3 * d4.toInt + d5.toInt + 3 * d6.toInt + d7.toInt + 3 * d8.toInt) hd9 hs9 (by omega) (by omega)
                                            omega
                                          generalize (s9 + ((1 : Int32) * ((48 + d9) - (48 : Int32)))) = s10 at hs10 ⊢
                                          refine Go.iinc S10 d_prog_16_method_3_code_39 rfl (Ls' := #[.val (.ref o), .val (.int s10), .val (.int (10 : Int32)), .val (.int (1 : Int32))]) rfl (pc' := 42) rfl ?_
                                          refine Go.goto S10 d_prog_16_method_3_code_42 (pc' := 4) (by decide) ?_
                                          refine Go.iloadN S10 d_prog_16_method_3_code_4 rfl (pc' := 5) rfl ?_
                                          refine Go.bipush S10 (v := 13) d_prog_16_method_3_code_5 rfl (pc' := 7) rfl ?_
                                          refine Go.icmp_ge S10 d_prog_16_method_3_code_7 (pt := 45) (by decide) (pc' := 10) rfl ?_ ?_
                                          · intro c7_11; exact absurd (by decide) c7_11
                                          · intro c7_11
                                            refine Go.bipush S10 (v := 13) d_prog_16_method_3_code_10 rfl (pc' := 12) rfl ?_
                                            refine Go.iloadN S10 d_prog_16_method_3_code_12 rfl (pc' := 13) rfl ?_
                                            refine Go.isub S10 d_prog_16_method_3_code_13 (pc' := 14) rfl ?_
                                            refine Go.iconst S10 (v := 2) d_prog_16_method_3_code_14 rfl (pc' := 15) rfl ?_
                                            refine Go.irem S10 d_prog_16_method_3_code_15 (by decide) (pc' := 16) rfl ?_
                                            refine Go.iconst S10 (v := 1) d_prog_16_method_3_code_16 rfl (pc' := 17) rfl ?_
                                            refine Go.icmp_ne S10 d_prog_16_method_3_code_17 (pt := 24) (by decide) (pc' := 20) rfl ?_ ?_
                                            · intro c17_11; exact absurd (by decide) c17_11
                                            · intro c17_11
                                              refine Go.iconst S10 (v := 3) d_prog_16_method_3_code_20 rfl (pc' := 21) rfl ?_
                                              refine Go.goto S10 d_prog_16_method_3_code_21 (pc' := 25) (by decide) ?_
                                              refine Go.istoreN S10 d_prog_16_method_3_code_25 (Ls' := #[.val (.ref o), .val (.int s10), .val (.int (10 : Int32)), .val (.int (3 : Int32))]) rfl (pc' := 26) rfl ?_
                                              refine Go.iloadN S10 d_prog_16_method_3_code_26 rfl (pc' := 27) rfl ?_
                                              refine Go.iloadN S10 d_prog_16_method_3_code_27 rfl (pc' := 28) rfl ?_
                                              refine Go.aloadN S10 d_prog_16_method_3_code_28 rfl rfl (pc' := 29) rfl ?_
                                              refine Go.iloadN S10 d_prog_16_method_3_code_29 rfl (pc' := 30) rfl ?_
                                              refine Go.invokevirtual S10 (y := ⟨"java/lang/String", "charAt", "(I)C"⟩) (rm_charAt hw o t kb [48 + d0, 48 + d1, 48 + d2, 48 + d3, 48 + d4, 48 + d5, 48 + d6, 48 + d7, 48 + d8, 48 + d9, 48 + d10, 48 + d11, 48 + d12, 48 + d13] 10 (by simp) (by simp) hcl fw cs S10.ext A Ff Fr Cs Cn) (wd42 hw) (wd43 hw) (S10.nf (wd45 hw)) (wd45 hw) (wd44 hw) (wd11 hw) (wd46 hw) (by decide) A.1 d_prog_16_method_3_code_30 rfl pd8 (argsL := [(.int (10 : Int32))]) rfl rfl rfl (by decide) (W := 2) rfl (by decide) (by decide) (by decide) all0 (pc' := 33) rfl ?_
                                              intro v11 T11 h11 L11 S11 K11 q11
                                              obtain ⟨rfl, rfl⟩ := q11
                                              show Go _ _ _ _ T11 (mkF m 33 #[.val (.ref o), .val (.int s10), .val (.int (10 : Int32)), .val (.int (3 : Int32))] [(.int (48 + d10)), (.int (3 : Int32)), (.int s10)])
                                              refine Go.bipush S11 (v := 48) d_prog_16_method_3_code_33 rfl (pc' := 35) rfl ?_
                                              refine Go.isub S11 d_prog_16_method_3_code_35 (pc' := 36) rfl ?_
                                              refine Go.imul S11 d_prog_16_method_3_code_36 (pc' := 37) rfl ?_
                                              refine Go.iadd S11 d_prog_16_method_3_code_37 (pc' := 38) rfl ?_
                                              refine Go.istoreN S11 d_prog_16_method_3_code_38 (Ls' := #[.val (.ref o), .val (.int (s10 + ((3 : Int32) * ((48 + d10) - (48 : Int32))))), .val (.int (10 : Int32)), .val (.int (3 : Int32))]) rfl (pc' := 39) rfl ?_
                                              have hs11 : ((s10 + ((3 : Int32) * ((48 + d10) - (48 : Int32))))).toInt = 3 * d0.toInt + d1.toInt + 3 * d2.toInt + d3.toInt + 3 * d4.toInt + d5.toInt + 3 * d6.toInt + d7.toInt + 3 * d8.toInt + d9.toInt + 3 * d10.toInt := by
                                                have q := own_step3 (n := 3 * d0.toInt + d1.toInt + 3 * d2.toInt + d3.toInt + 3 * d4.toInt + d5.toInt + 3 * d6.toInt + d7.toInt + 3 * d8.toInt + d9.toInt) hd10 hs10 (by omega) (by omega)
                                                omega
                                              generalize (s10 + ((3 : Int32) * ((48 + d10) - (48 : Int32)))) = s11 at hs11 ⊢
                                              refine Go.iinc S11 d_prog_16_method_3_code_39 rfl (Ls' := #[.val (.ref o), .val (.int s11), .val (.int (11 : Int32)), .val (.int (3 : Int32))]) rfl (pc' := 42) rfl ?_
                                              refine Go.goto S11 d_prog_16_method_3_code_42 (pc' := 4) (by decide) ?_
                                              refine Go.iloadN S11 d_prog_16_method_3_code_4 rfl (pc' := 5) rfl ?_
                                              refine Go.bipush S11 (v := 13) d_prog_16_method_3_code_5 rfl (pc' := 7) rfl ?_
                                              refine Go.icmp_ge S11 d_prog_16_method_3_code_7 (pt := 45) (by decide) (pc' := 10) rfl ?_ ?_
                                              · intro c7_12; exact absurd (by decide) c7_12
                                              · intro c7_12
                                                refine Go.bipush S11 (v := 13) d_prog_16_method_3_code_10 rfl (pc' := 12) rfl ?_
                                                refine Go.iloadN S11 d_prog_16_method_3_code_12 rfl (pc' := 13) rfl ?_
                                                refine Go.isub S11 d_prog_16_method_3_code_13 (pc' := 14) rfl ?_
                                                refine Go.iconst S11 (v := 2) d_prog_16_method_3_code_14 rfl (pc' := 15) rfl ?_
                                                refine Go.irem S11 d_prog_16_method_3_code_15 (by decide) (pc' := 16) rfl ?_
                                                refine Go.iconst S11 (v := 1) d_prog_16_method_3_code_16 rfl (pc' := 17) rfl ?_
                                                refine Go.icmp_ne S11 d_prog_16_method_3_code_17 (pt := 24) (by decide) (pc' := 20) rfl ?_ ?_
                                                · intro c17_12
                                                  refine Go.iconst S11 (v := 1) d_prog_16_method_3_code_24 rfl (pc' := 25) rfl ?_
                                                  refine Go.istoreN S11 d_prog_16_method_3_code_25 (Ls' := #[.val (.ref o), .val (.int s11), .val (.int (11 : Int32)), .val (.int (1 : Int32))]) rfl (pc' := 26) rfl ?_
                                                  refine Go.iloadN S11 d_prog_16_method_3_code_26 rfl (pc' := 27) rfl ?_
                                                  refine Go.iloadN S11 d_prog_16_method_3_code_27 rfl (pc' := 28) rfl ?_
                                                  refine Go.aloadN S11 d_prog_16_method_3_code_28 rfl rfl (pc' := 29) rfl ?_
                                                  refine Go.iloadN S11 d_prog_16_method_3_code_29 rfl (pc' := 30) rfl ?_
                                                  refine Go.invokevirtual S11 (y := ⟨"java/lang/String", "charAt", "(I)C"⟩) (rm_charAt hw o t kb [48 + d0, 48 + d1, 48 + d2, 48 + d3, 48 + d4, 48 + d5, 48 + d6, 48 + d7, 48 + d8, 48 + d9, 48 + d10, 48 + d11, 48 + d12, 48 + d13] 11 (by simp) (by simp) hcl fw cs S11.ext A Ff Fr Cs Cn) (wd42 hw) (wd43 hw) (S11.nf (wd45 hw)) (wd45 hw) (wd44 hw) (wd11 hw) (wd46 hw) (by decide) A.1 d_prog_16_method_3_code_30 rfl pd8 (argsL := [(.int (11 : Int32))]) rfl rfl rfl (by decide) (W := 2) rfl (by decide) (by decide) (by decide) all0 (pc' := 33) rfl ?_
                                                  intro v12 T12 h12 L12 S12 K12 q12
                                                  obtain ⟨rfl, rfl⟩ := q12
                                                  show Go _ _ _ _ T12 (mkF m 33 #[.val (.ref o), .val (.int s11), .val (.int (11 : Int32)), .val (.int (1 : Int32))] [(.int (48 + d11)), (.int (1 : Int32)), (.int s11)])
                                                  refine Go.bipush S12 (v := 48) d_prog_16_method_3_code_33 rfl (pc' := 35) rfl ?_
                                                  refine Go.isub S12 d_prog_16_method_3_code_35 (pc' := 36) rfl ?_
                                                  refine Go.imul S12 d_prog_16_method_3_code_36 (pc' := 37) rfl ?_
                                                  refine Go.iadd S12 d_prog_16_method_3_code_37 (pc' := 38) rfl ?_
                                                  refine Go.istoreN S12 d_prog_16_method_3_code_38 (Ls' := #[.val (.ref o), .val (.int (s11 + ((1 : Int32) * ((48 + d11) - (48 : Int32))))), .val (.int (11 : Int32)), .val (.int (1 : Int32))]) rfl (pc' := 39) rfl ?_
                                                  have hs12 : ((s11 + ((1 : Int32) * ((48 + d11) - (48 : Int32))))).toInt = 3 * d0.toInt + d1.toInt + 3 * d2.toInt + d3.toInt + 3 * d4.toInt + d5.toInt + 3 * d6.toInt + d7.toInt + 3 * d8.toInt + d9.toInt + 3 * d10.toInt + d11.toInt := by
                                                    have q := own_step1 (n := 3 * d0.toInt + d1.toInt + 3 * d2.toInt + d3.toInt + 3 * d4.toInt + d5.toInt + 3 * d6.toInt + d7.toInt + 3 * d8.toInt + d9.toInt + 3 * d10.toInt) hd11 hs11 (by omega) (by omega)
                                                    omega
                                                  generalize (s11 + ((1 : Int32) * ((48 + d11) - (48 : Int32)))) = s12 at hs12 ⊢
                                                  refine Go.iinc S12 d_prog_16_method_3_code_39 rfl (Ls' := #[.val (.ref o), .val (.int s12), .val (.int (12 : Int32)), .val (.int (1 : Int32))]) rfl (pc' := 42) rfl ?_
                                                  refine Go.goto S12 d_prog_16_method_3_code_42 (pc' := 4) (by decide) ?_
                                                  refine Go.iloadN S12 d_prog_16_method_3_code_4 rfl (pc' := 5) rfl ?_
                                                  refine Go.bipush S12 (v := 13) d_prog_16_method_3_code_5 rfl (pc' := 7) rfl ?_
                                                  refine Go.icmp_ge S12 d_prog_16_method_3_code_7 (pt := 45) (by decide) (pc' := 10) rfl ?_ ?_
                                                  · intro c7_13; exact absurd (by decide) c7_13
                                                  · intro c7_13
                                                    refine Go.bipush S12 (v := 13) d_prog_16_method_3_code_10 rfl (pc' := 12) rfl ?_
                                                    refine Go.iloadN S12 d_prog_16_method_3_code_12 rfl (pc' := 13) rfl ?_
                                                    refine Go.isub S12 d_prog_16_method_3_code_13 (pc' := 14) rfl ?_
                                                    refine Go.iconst S12 (v := 2) d_prog_16_method_3_code_14 rfl (pc' := 15) rfl ?_
                                                    refine Go.irem S12 d_prog_16_method_3_code_15 (by decide) (pc' := 16) rfl ?_
                                                    refine Go.iconst S12 (v := 1) d_prog_16_method_3_code_16 rfl (pc' := 17) rfl ?_
                                                    refine Go.icmp_ne S12 d_prog_16_method_3_code_17 (pt := 24) (by decide) (pc' := 20) rfl ?_ ?_
                                                    · intro c17_13; exact absurd (by decide) c17_13
                                                    · intro c17_13
                                                      refine Go.iconst S12 (v := 3) d_prog_16_method_3_code_20 rfl (pc' := 21) rfl ?_
                                                      refine Go.goto S12 d_prog_16_method_3_code_21 (pc' := 25) (by decide) ?_
                                                      refine Go.istoreN S12 d_prog_16_method_3_code_25 (Ls' := #[.val (.ref o), .val (.int s12), .val (.int (12 : Int32)), .val (.int (3 : Int32))]) rfl (pc' := 26) rfl ?_
                                                      refine Go.iloadN S12 d_prog_16_method_3_code_26 rfl (pc' := 27) rfl ?_
                                                      refine Go.iloadN S12 d_prog_16_method_3_code_27 rfl (pc' := 28) rfl ?_
                                                      refine Go.aloadN S12 d_prog_16_method_3_code_28 rfl rfl (pc' := 29) rfl ?_
                                                      refine Go.iloadN S12 d_prog_16_method_3_code_29 rfl (pc' := 30) rfl ?_
                                                      refine Go.invokevirtual S12 (y := ⟨"java/lang/String", "charAt", "(I)C"⟩) (rm_charAt hw o t kb [48 + d0, 48 + d1, 48 + d2, 48 + d3, 48 + d4, 48 + d5, 48 + d6, 48 + d7, 48 + d8, 48 + d9, 48 + d10, 48 + d11, 48 + d12, 48 + d13] 12 (by simp) (by simp) hcl fw cs S12.ext A Ff Fr Cs Cn) (wd42 hw) (wd43 hw) (S12.nf (wd45 hw)) (wd45 hw) (wd44 hw) (wd11 hw) (wd46 hw) (by decide) A.1 d_prog_16_method_3_code_30 rfl pd8 (argsL := [(.int (12 : Int32))]) rfl rfl rfl (by decide) (W := 2) rfl (by decide) (by decide) (by decide) all0 (pc' := 33) rfl ?_
                                                      intro v13 T13 h13 L13 S13 K13 q13
                                                      obtain ⟨rfl, rfl⟩ := q13
                                                      show Go _ _ _ _ T13 (mkF m 33 #[.val (.ref o), .val (.int s12), .val (.int (12 : Int32)), .val (.int (3 : Int32))] [(.int (48 + d12)), (.int (3 : Int32)), (.int s12)])
                                                      refine Go.bipush S13 (v := 48) d_prog_16_method_3_code_33 rfl (pc' := 35) rfl ?_
                                                      refine Go.isub S13 d_prog_16_method_3_code_35 (pc' := 36) rfl ?_
                                                      refine Go.imul S13 d_prog_16_method_3_code_36 (pc' := 37) rfl ?_
                                                      refine Go.iadd S13 d_prog_16_method_3_code_37 (pc' := 38) rfl ?_
                                                      refine Go.istoreN S13 d_prog_16_method_3_code_38 (Ls' := #[.val (.ref o), .val (.int (s12 + ((3 : Int32) * ((48 + d12) - (48 : Int32))))), .val (.int (12 : Int32)), .val (.int (3 : Int32))]) rfl (pc' := 39) rfl ?_
                                                      have hs13 : ((s12 + ((3 : Int32) * ((48 + d12) - (48 : Int32))))).toInt = 3 * d0.toInt + d1.toInt + 3 * d2.toInt + d3.toInt + 3 * d4.toInt + d5.toInt + 3 * d6.toInt + d7.toInt + 3 * d8.toInt + d9.toInt + 3 * d10.toInt + d11.toInt + 3 * d12.toInt := by
                                                        have q := own_step3 (n := 3 * d0.toInt + d1.toInt + 3 * d2.toInt + d3.toInt + 3 * d4.toInt + d5.toInt + 3 * d6.toInt + d7.toInt + 3 * d8.toInt + d9.toInt + 3 * d10.toInt + d11.toInt) hd12 hs12 (by omega) (by omega)
                                                        omega
                                                      generalize (s12 + ((3 : Int32) * ((48 + d12) - (48 : Int32)))) = s13 at hs13 ⊢
                                                      refine Go.iinc S13 d_prog_16_method_3_code_39 rfl (Ls' := #[.val (.ref o), .val (.int s13), .val (.int (13 : Int32)), .val (.int (3 : Int32))]) rfl (pc' := 42) rfl ?_
                                                      refine Go.goto S13 d_prog_16_method_3_code_42 (pc' := 4) (by decide) ?_
                                                      refine Go.iloadN S13 d_prog_16_method_3_code_4 rfl (pc' := 5) rfl ?_
                                                      refine Go.bipush S13 (v := 13) d_prog_16_method_3_code_5 rfl (pc' := 7) rfl ?_
                                                      refine Go.icmp_ge S13 d_prog_16_method_3_code_7 (pt := 45) (by decide) (pc' := 10) rfl ?_ ?_
                                                      · intro c7_14
                                                        refine Go.bipush S13 (v := 10) d_prog_16_method_3_code_45 rfl (pc' := 47) rfl ?_
                                                        refine Go.iloadN S13 d_prog_16_method_3_code_47 rfl (pc' := 48) rfl ?_
                                                        refine Go.bipush S13 (v := 10) d_prog_16_method_3_code_48 rfl (pc' := 50) rfl ?_
                                                        refine Go.irem S13 d_prog_16_method_3_code_50 (by decide) (pc' := 51) rfl ?_
                                                        refine Go.isub S13 d_prog_16_method_3_code_51 (pc' := 52) rfl ?_
                                                        refine Go.bipush S13 (v := 10) d_prog_16_method_3_code_52 rfl (pc' := 54) rfl ?_
                                                        refine Go.irem S13 d_prog_16_method_3_code_54 (by decide) (pc' := 55) rfl ?_
                                                        exact Go.ireturn S13 rfl d_prog_16_method_3_code_55 (by decide) (by decide) (⟨⟨_, rfl, own_chk hs13 (by omega) (by omega)⟩, rfl⟩)
                                                      · intro c7_14; exact absurd c7_14 (by decide)
                                                · intro c17_12; exact absurd c17_12 (by decide)
                                        · intro c17_10; exact absurd c17_10 (by decide)
                                · intro c17_8; exact absurd c17_8 (by decide)
                        · intro c17_6; exact absurd c17_6 (by decide)
                · intro c17_4; exact absurd c17_4 (by decide)
        · intro c17_2; exact absurd c17_2 (by decide)
theorem own_plus {a b : Int32} {m n : Int} (ha : a.toInt = m) (hb : b.toInt = n) (h0 : 0 ≤ m ∧ m ≤ 100000) (h1 : 0 ≤ n ∧ n ≤ 100000) : (a + b).toInt = m + n := by
  have q := c_iadd a b
  have r := rng32 (a + b)
  omega
theorem own_tri {a : Int32} {m : Int} (ha : a.toInt = m) (h0 : 0 ≤ m ∧ m ≤ 100000) : (3 * a).toInt = 3 * m := by
  have q := c_imul 3 a
  have r := rng32 (3 * a)
  have e3 : (3 : Int32).toInt = 3 := rfl
  rw [e3] at q
  omega
theorem own_fin {ck d0 d1 d2 d3 d4 d5 d6 d7 d8 d9 d10 d11 d12 : Int32} (hck : ck.toInt = (10 - (3 * d0.toInt + d1.toInt + 3 * d2.toInt + d3.toInt + 3 * d4.toInt + d5.toInt + 3 * d6.toInt + d7.toInt + 3 * d8.toInt + d9.toInt + 3 * d10.toInt + d11.toInt + 3 * d12.toInt) % 10) % 10) (hd0 : 0 ≤ d0.toInt ∧ d0.toInt ≤ 9) (hd1 : 0 ≤ d1.toInt ∧ d1.toInt ≤ 9) (hd2 : 0 ≤ d2.toInt ∧ d2.toInt ≤ 9) (hd3 : 0 ≤ d3.toInt ∧ d3.toInt ≤ 9) (hd4 : 0 ≤ d4.toInt ∧ d4.toInt ≤ 9) (hd5 : 0 ≤ d5.toInt ∧ d5.toInt ≤ 9) (hd6 : 0 ≤ d6.toInt ∧ d6.toInt ≤ 9) (hd7 : 0 ≤ d7.toInt ∧ d7.toInt ≤ 9) (hd8 : 0 ≤ d8.toInt ∧ d8.toInt ≤ 9) (hd9 : 0 ≤ d9.toInt ∧ d9.toInt ≤ 9) (hd10 : 0 ≤ d10.toInt ∧ d10.toInt ≤ 9) (hd11 : 0 ≤ d11.toInt ∧ d11.toInt ≤ 9) (hd12 : 0 ≤ d12.toInt ∧ d12.toInt ≤ 9) : (((3 * ((((((d0 + d2) + d4) + d6) + d8) + d10) + d12)) + (((((d1 + d3) + d5) + d7) + d9) + d11)) + ck) % 10 = 0 := by
  have p0 : (d0 + d2).toInt = d0.toInt + d2.toInt := own_plus rfl rfl (by omega) (by omega)
  have p1 : ((d0 + d2) + d4).toInt = d0.toInt + d2.toInt + d4.toInt := own_plus p0 rfl (by omega) (by omega)
  have p2 : (((d0 + d2) + d4) + d6).toInt = d0.toInt + d2.toInt + d4.toInt + d6.toInt := own_plus p1 rfl (by omega) (by omega)
  have p3 : ((((d0 + d2) + d4) + d6) + d8).toInt = d0.toInt + d2.toInt + d4.toInt + d6.toInt + d8.toInt := own_plus p2 rfl (by omega) (by omega)
  have p4 : (((((d0 + d2) + d4) + d6) + d8) + d10).toInt = d0.toInt + d2.toInt + d4.toInt + d6.toInt + d8.toInt + d10.toInt := own_plus p3 rfl (by omega) (by omega)
  have p5 : ((((((d0 + d2) + d4) + d6) + d8) + d10) + d12).toInt = d0.toInt + d2.toInt + d4.toInt + d6.toInt + d8.toInt + d10.toInt + d12.toInt := own_plus p4 rfl (by omega) (by omega)
  have q0 : (d1 + d3).toInt = d1.toInt + d3.toInt := own_plus rfl rfl (by omega) (by omega)
  have q1 : ((d1 + d3) + d5).toInt = d1.toInt + d3.toInt + d5.toInt := own_plus q0 rfl (by omega) (by omega)
  have q2 : (((d1 + d3) + d5) + d7).toInt = d1.toInt + d3.toInt + d5.toInt + d7.toInt := own_plus q1 rfl (by omega) (by omega)
  have q3 : ((((d1 + d3) + d5) + d7) + d9).toInt = d1.toInt + d3.toInt + d5.toInt + d7.toInt + d9.toInt := own_plus q2 rfl (by omega) (by omega)
  have q4 : (((((d1 + d3) + d5) + d7) + d9) + d11).toInt = d1.toInt + d3.toInt + d5.toInt + d7.toInt + d9.toInt + d11.toInt := own_plus q3 rfl (by omega) (by omega)
  have m := own_tri p5 (by omega)
  have s := own_plus m q4 (by omega) (by omega)
  have u := own_plus s rfl (by omega) (b := ck) (by omega)
  have w := c_irem (((3 * ((((((d0 + d2) + d4) + d6) + d8) + d10) + d12)) + (((((d1 + d3) + d5) + d7) + d9) + d11)) + ck) 10 10 rfl
  have e0 : (0 : Int32).toInt = 0 := rfl
  rw [← Int32.toInt_inj]
  omega
set_option maxRecDepth 65536 in
set_option maxHeartbeats 4000000 in
theorem rm_code {l : Launch} {Z : State} {a0 : Array Value} (hw : HW Z a0) (ax : Int64) (last : Int32) (fw : Value) (cs : Int32) {h0 : Heap} (hE : Ext Z.heap h0) (Ff : Sta Z Z.heap "jdk/internal/util/Preconditions" "SIOOBE_FORMATTER" "Ljava/util/function/BiFunction;" fw) (Fr : fw.isRef = true) (Cs : Sta Z Z.heap "java/lang/String" "COMPACT_STRINGS" "Z" (.int cs)) (Cn : ¬ cs = 0) :
    OMeets l Z x code maxLocals ret room_1 #[(.long ax), (.int last)] h0 [] (fun v h => v = some (.int 1)) := by
  refine OMeets.body (plainFor_of_name pn4) hE #[.val (.long ax), .second, .val (.int last), .unset, .unset, .unset, .unset, .unset, .unset, .unset, .unset, .unset, .unset, .unset, .unset, .unset, .unset, .unset, .unset, .unset, .unset] (fun m => by first | (simp [entryFrame, mkF, argsToLocals, Value.category, maxLocals]; done) | rfl) ?_
  intro p e s m below meth co T S
  refine Go.lloadN S at_0 rfl (pc' := 1) rfl ?_
  refine Go.iconst S (v := 0) at_1 rfl (pc' := 2) rfl ?_
  refine Go.invokestatic S (y := ⟨"com/example/markmint/markmint/core/code/GtinCheckDigitPinLaw", "d", "(JI)I"⟩) (rm_method_2_code hw ax (0 : Int32) S.ext) (wd0 hw) (wd1 hw) (wd2 hw) (wd3 hw) (by decide) at_2 rfl pd9 (argsL := [(.long ax), (.int (0 : Int32))]) rfl rfl rfl (by decide) (W := 0) rfl (by decide) (by decide) (by decide) all0 (pc' := 5) rfl ?_
  intro v1 T1 h1 L1 S1 K1 q1
  obtain ⟨⟨d0, rfl, hd0⟩, rfl⟩ := q1
  show Go _ _ _ _ T1 (mkF m 5 #[.val (.long ax), .second, .val (.int last), .unset, .unset, .unset, .unset, .unset, .unset, .unset, .unset, .unset, .unset, .unset, .unset, .unset, .unset, .unset, .unset, .unset, .unset] [(.int d0)])
  refine Go.istoreN S1 at_5 (Ls' := #[.val (.long ax), .second, .val (.int last), .val (.int d0), .unset, .unset, .unset, .unset, .unset, .unset, .unset, .unset, .unset, .unset, .unset, .unset, .unset, .unset, .unset, .unset, .unset]) rfl (pc' := 6) rfl ?_
  refine Go.lloadN S1 at_6 rfl (pc' := 7) rfl ?_
  refine Go.iconst S1 (v := 1) at_7 rfl (pc' := 8) rfl ?_
  refine Go.invokestatic S1 (y := ⟨"com/example/markmint/markmint/core/code/GtinCheckDigitPinLaw", "d", "(JI)I"⟩) (rm_method_2_code hw ax (1 : Int32) S1.ext) (wd0 hw) (wd1 hw) (wd2 hw) (wd3 hw) (by decide) at_8 rfl pd9 (argsL := [(.long ax), (.int (1 : Int32))]) rfl rfl rfl (by decide) (W := 0) rfl (by decide) (by decide) (by decide) all0 (pc' := 11) rfl ?_
  intro v2 T2 h2 L2 S2 K2 q2
  obtain ⟨⟨d1, rfl, hd1⟩, rfl⟩ := q2
  show Go _ _ _ _ T2 (mkF m 11 #[.val (.long ax), .second, .val (.int last), .val (.int d0), .unset, .unset, .unset, .unset, .unset, .unset, .unset, .unset, .unset, .unset, .unset, .unset, .unset, .unset, .unset, .unset, .unset] [(.int d1)])
  refine Go.istore S2 at_11 (Ls' := #[.val (.long ax), .second, .val (.int last), .val (.int d0), .val (.int d1), .unset, .unset, .unset, .unset, .unset, .unset, .unset, .unset, .unset, .unset, .unset, .unset, .unset, .unset, .unset, .unset]) rfl (pc' := 13) rfl ?_
  refine Go.lloadN S2 at_13 rfl (pc' := 14) rfl ?_
  refine Go.iconst S2 (v := 2) at_14 rfl (pc' := 15) rfl ?_
  refine Go.invokestatic S2 (y := ⟨"com/example/markmint/markmint/core/code/GtinCheckDigitPinLaw", "d", "(JI)I"⟩) (rm_method_2_code hw ax (2 : Int32) S2.ext) (wd0 hw) (wd1 hw) (wd2 hw) (wd3 hw) (by decide) at_15 rfl pd9 (argsL := [(.long ax), (.int (2 : Int32))]) rfl rfl rfl (by decide) (W := 0) rfl (by decide) (by decide) (by decide) all0 (pc' := 18) rfl ?_
  intro v3 T3 h3 L3 S3 K3 q3
  obtain ⟨⟨d2, rfl, hd2⟩, rfl⟩ := q3
  show Go _ _ _ _ T3 (mkF m 18 #[.val (.long ax), .second, .val (.int last), .val (.int d0), .val (.int d1), .unset, .unset, .unset, .unset, .unset, .unset, .unset, .unset, .unset, .unset, .unset, .unset, .unset, .unset, .unset, .unset] [(.int d2)])
  refine Go.istore S3 at_18 (Ls' := #[.val (.long ax), .second, .val (.int last), .val (.int d0), .val (.int d1), .val (.int d2), .unset, .unset, .unset, .unset, .unset, .unset, .unset, .unset, .unset, .unset, .unset, .unset, .unset, .unset, .unset]) rfl (pc' := 20) rfl ?_
  refine Go.lloadN S3 at_20 rfl (pc' := 21) rfl ?_
  refine Go.iconst S3 (v := 3) at_21 rfl (pc' := 22) rfl ?_
  refine Go.invokestatic S3 (y := ⟨"com/example/markmint/markmint/core/code/GtinCheckDigitPinLaw", "d", "(JI)I"⟩) (rm_method_2_code hw ax (3 : Int32) S3.ext) (wd0 hw) (wd1 hw) (wd2 hw) (wd3 hw) (by decide) at_22 rfl pd9 (argsL := [(.long ax), (.int (3 : Int32))]) rfl rfl rfl (by decide) (W := 0) rfl (by decide) (by decide) (by decide) all0 (pc' := 25) rfl ?_
  intro v4 T4 h4 L4 S4 K4 q4
  obtain ⟨⟨d3, rfl, hd3⟩, rfl⟩ := q4
  show Go _ _ _ _ T4 (mkF m 25 #[.val (.long ax), .second, .val (.int last), .val (.int d0), .val (.int d1), .val (.int d2), .unset, .unset, .unset, .unset, .unset, .unset, .unset, .unset, .unset, .unset, .unset, .unset, .unset, .unset, .unset] [(.int d3)])
  refine Go.istore S4 at_25 (Ls' := #[.val (.long ax), .second, .val (.int last), .val (.int d0), .val (.int d1), .val (.int d2), .val (.int d3), .unset, .unset, .unset, .unset, .unset, .unset, .unset, .unset, .unset, .unset, .unset, .unset, .unset, .unset]) rfl (pc' := 27) rfl ?_
  refine Go.lloadN S4 at_27 rfl (pc' := 28) rfl ?_
  refine Go.iconst S4 (v := 4) at_28 rfl (pc' := 29) rfl ?_
  refine Go.invokestatic S4 (y := ⟨"com/example/markmint/markmint/core/code/GtinCheckDigitPinLaw", "d", "(JI)I"⟩) (rm_method_2_code hw ax (4 : Int32) S4.ext) (wd0 hw) (wd1 hw) (wd2 hw) (wd3 hw) (by decide) at_29 rfl pd9 (argsL := [(.long ax), (.int (4 : Int32))]) rfl rfl rfl (by decide) (W := 0) rfl (by decide) (by decide) (by decide) all0 (pc' := 32) rfl ?_
  intro v5 T5 h5 L5 S5 K5 q5
  obtain ⟨⟨d4, rfl, hd4⟩, rfl⟩ := q5
  show Go _ _ _ _ T5 (mkF m 32 #[.val (.long ax), .second, .val (.int last), .val (.int d0), .val (.int d1), .val (.int d2), .val (.int d3), .unset, .unset, .unset, .unset, .unset, .unset, .unset, .unset, .unset, .unset, .unset, .unset, .unset, .unset] [(.int d4)])
  refine Go.istore S5 at_32 (Ls' := #[.val (.long ax), .second, .val (.int last), .val (.int d0), .val (.int d1), .val (.int d2), .val (.int d3), .val (.int d4), .unset, .unset, .unset, .unset, .unset, .unset, .unset, .unset, .unset, .unset, .unset, .unset, .unset]) rfl (pc' := 34) rfl ?_
  refine Go.lloadN S5 at_34 rfl (pc' := 35) rfl ?_
  refine Go.iconst S5 (v := 5) at_35 rfl (pc' := 36) rfl ?_
  refine Go.invokestatic S5 (y := ⟨"com/example/markmint/markmint/core/code/GtinCheckDigitPinLaw", "d", "(JI)I"⟩) (rm_method_2_code hw ax (5 : Int32) S5.ext) (wd0 hw) (wd1 hw) (wd2 hw) (wd3 hw) (by decide) at_36 rfl pd9 (argsL := [(.long ax), (.int (5 : Int32))]) rfl rfl rfl (by decide) (W := 0) rfl (by decide) (by decide) (by decide) all0 (pc' := 39) rfl ?_
  intro v6 T6 h6 L6 S6 K6 q6
  obtain ⟨⟨d5, rfl, hd5⟩, rfl⟩ := q6
  show Go _ _ _ _ T6 (mkF m 39 #[.val (.long ax), .second, .val (.int last), .val (.int d0), .val (.int d1), .val (.int d2), .val (.int d3), .val (.int d4), .unset, .unset, .unset, .unset, .unset, .unset, .unset, .unset, .unset, .unset, .unset, .unset, .unset] [(.int d5)])
  refine Go.istore S6 at_39 (Ls' := #[.val (.long ax), .second, .val (.int last), .val (.int d0), .val (.int d1), .val (.int d2), .val (.int d3), .val (.int d4), .val (.int d5), .unset, .unset, .unset, .unset, .unset, .unset, .unset, .unset, .unset, .unset, .unset, .unset]) rfl (pc' := 41) rfl ?_
  refine Go.lloadN S6 at_41 rfl (pc' := 42) rfl ?_
  refine Go.bipush S6 (v := 6) at_42 rfl (pc' := 44) rfl ?_
  refine Go.invokestatic S6 (y := ⟨"com/example/markmint/markmint/core/code/GtinCheckDigitPinLaw", "d", "(JI)I"⟩) (rm_method_2_code hw ax (6 : Int32) S6.ext) (wd0 hw) (wd1 hw) (wd2 hw) (wd3 hw) (by decide) at_44 rfl pd9 (argsL := [(.long ax), (.int (6 : Int32))]) rfl rfl rfl (by decide) (W := 0) rfl (by decide) (by decide) (by decide) all0 (pc' := 47) rfl ?_
  intro v7 T7 h7 L7 S7 K7 q7
  obtain ⟨⟨d6, rfl, hd6⟩, rfl⟩ := q7
  show Go _ _ _ _ T7 (mkF m 47 #[.val (.long ax), .second, .val (.int last), .val (.int d0), .val (.int d1), .val (.int d2), .val (.int d3), .val (.int d4), .val (.int d5), .unset, .unset, .unset, .unset, .unset, .unset, .unset, .unset, .unset, .unset, .unset, .unset] [(.int d6)])
  refine Go.istore S7 at_47 (Ls' := #[.val (.long ax), .second, .val (.int last), .val (.int d0), .val (.int d1), .val (.int d2), .val (.int d3), .val (.int d4), .val (.int d5), .val (.int d6), .unset, .unset, .unset, .unset, .unset, .unset, .unset, .unset, .unset, .unset, .unset]) rfl (pc' := 49) rfl ?_
  refine Go.lloadN S7 at_49 rfl (pc' := 50) rfl ?_
  refine Go.bipush S7 (v := 7) at_50 rfl (pc' := 52) rfl ?_
  refine Go.invokestatic S7 (y := ⟨"com/example/markmint/markmint/core/code/GtinCheckDigitPinLaw", "d", "(JI)I"⟩) (rm_method_2_code hw ax (7 : Int32) S7.ext) (wd0 hw) (wd1 hw) (wd2 hw) (wd3 hw) (by decide) at_52 rfl pd9 (argsL := [(.long ax), (.int (7 : Int32))]) rfl rfl rfl (by decide) (W := 0) rfl (by decide) (by decide) (by decide) all0 (pc' := 55) rfl ?_
  intro v8 T8 h8 L8 S8 K8 q8
  obtain ⟨⟨d7, rfl, hd7⟩, rfl⟩ := q8
  show Go _ _ _ _ T8 (mkF m 55 #[.val (.long ax), .second, .val (.int last), .val (.int d0), .val (.int d1), .val (.int d2), .val (.int d3), .val (.int d4), .val (.int d5), .val (.int d6), .unset, .unset, .unset, .unset, .unset, .unset, .unset, .unset, .unset, .unset, .unset] [(.int d7)])
  refine Go.istore S8 at_55 (Ls' := #[.val (.long ax), .second, .val (.int last), .val (.int d0), .val (.int d1), .val (.int d2), .val (.int d3), .val (.int d4), .val (.int d5), .val (.int d6), .val (.int d7), .unset, .unset, .unset, .unset, .unset, .unset, .unset, .unset, .unset, .unset]) rfl (pc' := 57) rfl ?_
  refine Go.lloadN S8 at_57 rfl (pc' := 58) rfl ?_
  refine Go.bipush S8 (v := 8) at_58 rfl (pc' := 60) rfl ?_
  refine Go.invokestatic S8 (y := ⟨"com/example/markmint/markmint/core/code/GtinCheckDigitPinLaw", "d", "(JI)I"⟩) (rm_method_2_code hw ax (8 : Int32) S8.ext) (wd0 hw) (wd1 hw) (wd2 hw) (wd3 hw) (by decide) at_60 rfl pd9 (argsL := [(.long ax), (.int (8 : Int32))]) rfl rfl rfl (by decide) (W := 0) rfl (by decide) (by decide) (by decide) all0 (pc' := 63) rfl ?_
  intro v9 T9 h9 L9 S9 K9 q9
  obtain ⟨⟨d8, rfl, hd8⟩, rfl⟩ := q9
  show Go _ _ _ _ T9 (mkF m 63 #[.val (.long ax), .second, .val (.int last), .val (.int d0), .val (.int d1), .val (.int d2), .val (.int d3), .val (.int d4), .val (.int d5), .val (.int d6), .val (.int d7), .unset, .unset, .unset, .unset, .unset, .unset, .unset, .unset, .unset, .unset] [(.int d8)])
  refine Go.istore S9 at_63 (Ls' := #[.val (.long ax), .second, .val (.int last), .val (.int d0), .val (.int d1), .val (.int d2), .val (.int d3), .val (.int d4), .val (.int d5), .val (.int d6), .val (.int d7), .val (.int d8), .unset, .unset, .unset, .unset, .unset, .unset, .unset, .unset, .unset]) rfl (pc' := 65) rfl ?_
  refine Go.lloadN S9 at_65 rfl (pc' := 66) rfl ?_
  refine Go.bipush S9 (v := 9) at_66 rfl (pc' := 68) rfl ?_
  refine Go.invokestatic S9 (y := ⟨"com/example/markmint/markmint/core/code/GtinCheckDigitPinLaw", "d", "(JI)I"⟩) (rm_method_2_code hw ax (9 : Int32) S9.ext) (wd0 hw) (wd1 hw) (wd2 hw) (wd3 hw) (by decide) at_68 rfl pd9 (argsL := [(.long ax), (.int (9 : Int32))]) rfl rfl rfl (by decide) (W := 0) rfl (by decide) (by decide) (by decide) all0 (pc' := 71) rfl ?_
  intro v10 T10 h10 L10 S10 K10 q10
  obtain ⟨⟨d9, rfl, hd9⟩, rfl⟩ := q10
  show Go _ _ _ _ T10 (mkF m 71 #[.val (.long ax), .second, .val (.int last), .val (.int d0), .val (.int d1), .val (.int d2), .val (.int d3), .val (.int d4), .val (.int d5), .val (.int d6), .val (.int d7), .val (.int d8), .unset, .unset, .unset, .unset, .unset, .unset, .unset, .unset, .unset] [(.int d9)])
  refine Go.istore S10 at_71 (Ls' := #[.val (.long ax), .second, .val (.int last), .val (.int d0), .val (.int d1), .val (.int d2), .val (.int d3), .val (.int d4), .val (.int d5), .val (.int d6), .val (.int d7), .val (.int d8), .val (.int d9), .unset, .unset, .unset, .unset, .unset, .unset, .unset, .unset]) rfl (pc' := 73) rfl ?_
  refine Go.lloadN S10 at_73 rfl (pc' := 74) rfl ?_
  refine Go.bipush S10 (v := 10) at_74 rfl (pc' := 76) rfl ?_
  refine Go.invokestatic S10 (y := ⟨"com/example/markmint/markmint/core/code/GtinCheckDigitPinLaw", "d", "(JI)I"⟩) (rm_method_2_code hw ax (10 : Int32) S10.ext) (wd0 hw) (wd1 hw) (wd2 hw) (wd3 hw) (by decide) at_76 rfl pd9 (argsL := [(.long ax), (.int (10 : Int32))]) rfl rfl rfl (by decide) (W := 0) rfl (by decide) (by decide) (by decide) all0 (pc' := 79) rfl ?_
  intro v11 T11 h11 L11 S11 K11 q11
  obtain ⟨⟨d10, rfl, hd10⟩, rfl⟩ := q11
  show Go _ _ _ _ T11 (mkF m 79 #[.val (.long ax), .second, .val (.int last), .val (.int d0), .val (.int d1), .val (.int d2), .val (.int d3), .val (.int d4), .val (.int d5), .val (.int d6), .val (.int d7), .val (.int d8), .val (.int d9), .unset, .unset, .unset, .unset, .unset, .unset, .unset, .unset] [(.int d10)])
  refine Go.istore S11 at_79 (Ls' := #[.val (.long ax), .second, .val (.int last), .val (.int d0), .val (.int d1), .val (.int d2), .val (.int d3), .val (.int d4), .val (.int d5), .val (.int d6), .val (.int d7), .val (.int d8), .val (.int d9), .val (.int d10), .unset, .unset, .unset, .unset, .unset, .unset, .unset]) rfl (pc' := 81) rfl ?_
  refine Go.lloadN S11 at_81 rfl (pc' := 82) rfl ?_
  refine Go.bipush S11 (v := 11) at_82 rfl (pc' := 84) rfl ?_
  refine Go.invokestatic S11 (y := ⟨"com/example/markmint/markmint/core/code/GtinCheckDigitPinLaw", "d", "(JI)I"⟩) (rm_method_2_code hw ax (11 : Int32) S11.ext) (wd0 hw) (wd1 hw) (wd2 hw) (wd3 hw) (by decide) at_84 rfl pd9 (argsL := [(.long ax), (.int (11 : Int32))]) rfl rfl rfl (by decide) (W := 0) rfl (by decide) (by decide) (by decide) all0 (pc' := 87) rfl ?_
  intro v12 T12 h12 L12 S12 K12 q12
  obtain ⟨⟨d11, rfl, hd11⟩, rfl⟩ := q12
  show Go _ _ _ _ T12 (mkF m 87 #[.val (.long ax), .second, .val (.int last), .val (.int d0), .val (.int d1), .val (.int d2), .val (.int d3), .val (.int d4), .val (.int d5), .val (.int d6), .val (.int d7), .val (.int d8), .val (.int d9), .val (.int d10), .unset, .unset, .unset, .unset, .unset, .unset, .unset] [(.int d11)])
  refine Go.istore S12 at_87 (Ls' := #[.val (.long ax), .second, .val (.int last), .val (.int d0), .val (.int d1), .val (.int d2), .val (.int d3), .val (.int d4), .val (.int d5), .val (.int d6), .val (.int d7), .val (.int d8), .val (.int d9), .val (.int d10), .val (.int d11), .unset, .unset, .unset, .unset, .unset, .unset]) rfl (pc' := 89) rfl ?_
  refine Go.lloadN S12 at_89 rfl (pc' := 90) rfl ?_
  refine Go.bipush S12 (v := 12) at_90 rfl (pc' := 92) rfl ?_
  refine Go.invokestatic S12 (y := ⟨"com/example/markmint/markmint/core/code/GtinCheckDigitPinLaw", "d", "(JI)I"⟩) (rm_method_2_code hw ax (12 : Int32) S12.ext) (wd0 hw) (wd1 hw) (wd2 hw) (wd3 hw) (by decide) at_92 rfl pd9 (argsL := [(.long ax), (.int (12 : Int32))]) rfl rfl rfl (by decide) (W := 0) rfl (by decide) (by decide) (by decide) all0 (pc' := 95) rfl ?_
  intro v13 T13 h13 L13 S13 K13 q13
  obtain ⟨⟨d12, rfl, hd12⟩, rfl⟩ := q13
  show Go _ _ _ _ T13 (mkF m 95 #[.val (.long ax), .second, .val (.int last), .val (.int d0), .val (.int d1), .val (.int d2), .val (.int d3), .val (.int d4), .val (.int d5), .val (.int d6), .val (.int d7), .val (.int d8), .val (.int d9), .val (.int d10), .val (.int d11), .unset, .unset, .unset, .unset, .unset, .unset] [(.int d12)])
  refine Go.istore S13 at_95 (Ls' := #[.val (.long ax), .second, .val (.int last), .val (.int d0), .val (.int d1), .val (.int d2), .val (.int d3), .val (.int d4), .val (.int d5), .val (.int d6), .val (.int d7), .val (.int d8), .val (.int d9), .val (.int d10), .val (.int d11), .val (.int d12), .unset, .unset, .unset, .unset, .unset]) rfl (pc' := 97) rfl ?_
  refine Go.iloadN S13 at_97 rfl (pc' := 98) rfl ?_
  refine Go.bipush S13 (v := 15) at_98 rfl (pc' := 100) rfl ?_
  refine Go.iand S13 at_100 (pc' := 101) rfl ?_
  refine Go.bipush S13 (v := 10) at_101 rfl (pc' := 103) rfl ?_
  refine Go.irem S13 at_103 (by decide) (pc' := 104) rfl ?_
  refine Go.istore S13 at_104 (Ls' := #[.val (.long ax), .second, .val (.int last), .val (.int d0), .val (.int d1), .val (.int d2), .val (.int d3), .val (.int d4), .val (.int d5), .val (.int d6), .val (.int d7), .val (.int d8), .val (.int d9), .val (.int d10), .val (.int d11), .val (.int d12), .val (.int ((last &&& (15 : Int32)) % (10 : Int32))), .unset, .unset, .unset, .unset]) rfl (pc' := 106) rfl ?_
  generalize h_d13 : ((last &&& (15 : Int32)) % (10 : Int32)) = d13
  have hd13 := own_dig2 last
  rw [h_d13] at hd13
  refine Go.bipush S13 (v := 14) at_106 rfl (pc' := 108) rfl ?_
  refine Go.newarray S13 (ty := .char) (dv := (.int (0 : Int32))) rfl rfl (wd5 hw) at_108 (by decide) (cap := 14) (by decide) (by decide) (by decide) (by decide) (pc' := 110) rfl ?_
  intro T14 h14 a14 kA14 S14 E14 hg14 hz14 hk14 V14
  replace V14 : Arv Z h14 a14 kA14 .char (14 : Int32) [(.int (0 : Int32)), (.int (0 : Int32)), (.int (0 : Int32)), (.int (0 : Int32)), (.int (0 : Int32)), (.int (0 : Int32)), (.int (0 : Int32)), (.int (0 : Int32)), (.int (0 : Int32)), (.int (0 : Int32)), (.int (0 : Int32)), (.int (0 : Int32)), (.int (0 : Int32)), (.int (0 : Int32))] (.int (0 : Int32)) := V14
  refine Go.astore S14 at_110 rfl (Ls' := #[.val (.long ax), .second, .val (.int last), .val (.int d0), .val (.int d1), .val (.int d2), .val (.int d3), .val (.int d4), .val (.int d5), .val (.int d6), .val (.int d7), .val (.int d8), .val (.int d9), .val (.int d10), .val (.int d11), .val (.int d12), .val (.int d13), .val (.ref a14), .unset, .unset, .unset]) rfl (pc' := 112) rfl ?_
  refine Go.aload S14 at_112 rfl rfl (pc' := 114) rfl ?_
  refine Go.iconst S14 (v := 0) at_114 rfl (pc' := 115) rfl ?_
  refine Go.iloadN S14 at_115 rfl (pc' := 116) rfl ?_
  refine Go.invokestatic S14 (y := ⟨"com/example/markmint/markmint/core/code/GtinCheckDigitPinLaw", "ch", "(I)C"⟩) (rm_method_3_code hw d0 S14.ext hd0) (wd6 hw) (wd7 hw) (wd2 hw) (wd8 hw) (by decide) at_116 rfl pd8 (argsL := [(.int d0)]) rfl rfl rfl (by decide) (W := 2) rfl (by decide) (by decide) (by decide) all0 (pc' := 119) rfl ?_
  intro v15 T15 h15 L15 S15 K15 q15
  obtain ⟨rfl, rfl⟩ := q15
  show Go _ _ _ _ T15 (mkF m 119 #[.val (.long ax), .second, .val (.int last), .val (.int d0), .val (.int d1), .val (.int d2), .val (.int d3), .val (.int d4), .val (.int d5), .val (.int d6), .val (.int d7), .val (.int d8), .val (.int d9), .val (.int d10), .val (.int d11), .val (.int d12), .val (.int d13), .val (.ref a14), .unset, .unset, .unset] [(.int (48 + d0)), (.int (0 : Int32)), (.ref a14)])
  refine Go.castore S15 V14 (by decide) (i := 0) (by decide) (Nat.le_of_ble_eq_true rfl) hz14 (Or.inr hk14) at_119 (pc' := 120) rfl ?_
  intro T16 h16 L16 S16 W16 V16
  rw [show nar .char (48 + d0) = (48 + d0) from own_narc (own_chr hd0).1 (own_big (own_chr hd0).2)] at V16
  replace V16 : Arv Z h16 a14 kA14 .char (14 : Int32) [(.int (48 + d0)), (.int (0 : Int32)), (.int (0 : Int32)), (.int (0 : Int32)), (.int (0 : Int32)), (.int (0 : Int32)), (.int (0 : Int32)), (.int (0 : Int32)), (.int (0 : Int32)), (.int (0 : Int32)), (.int (0 : Int32)), (.int (0 : Int32)), (.int (0 : Int32)), (.int (0 : Int32))] (.int (0 : Int32)) := V16
  refine Go.aload S16 at_120 rfl rfl (pc' := 122) rfl ?_
  refine Go.iconst S16 (v := 1) at_122 rfl (pc' := 123) rfl ?_
  refine Go.iload S16 at_123 rfl (pc' := 125) rfl ?_
  refine Go.invokestatic S16 (y := ⟨"com/example/markmint/markmint/core/code/GtinCheckDigitPinLaw", "ch", "(I)C"⟩) (rm_method_3_code hw d1 S16.ext hd1) (wd6 hw) (wd7 hw) (wd2 hw) (wd8 hw) (by decide) at_125 rfl pd8 (argsL := [(.int d1)]) rfl rfl rfl (by decide) (W := 2) rfl (by decide) (by decide) (by decide) all0 (pc' := 128) rfl ?_
  intro v17 T17 h17 L17 S17 K17 q17
  obtain ⟨rfl, rfl⟩ := q17
  show Go _ _ _ _ T17 (mkF m 128 #[.val (.long ax), .second, .val (.int last), .val (.int d0), .val (.int d1), .val (.int d2), .val (.int d3), .val (.int d4), .val (.int d5), .val (.int d6), .val (.int d7), .val (.int d8), .val (.int d9), .val (.int d10), .val (.int d11), .val (.int d12), .val (.int d13), .val (.ref a14), .unset, .unset, .unset] [(.int (48 + d1)), (.int (1 : Int32)), (.ref a14)])
  refine Go.castore S17 V16 (by decide) (i := 1) (by decide) (Nat.le_of_ble_eq_true rfl) hz14 (Or.inr hk14) at_128 (pc' := 129) rfl ?_
  intro T18 h18 L18 S18 W18 V18
  rw [show nar .char (48 + d1) = (48 + d1) from own_narc (own_chr hd1).1 (own_big (own_chr hd1).2)] at V18
  replace V18 : Arv Z h18 a14 kA14 .char (14 : Int32) [(.int (48 + d0)), (.int (48 + d1)), (.int (0 : Int32)), (.int (0 : Int32)), (.int (0 : Int32)), (.int (0 : Int32)), (.int (0 : Int32)), (.int (0 : Int32)), (.int (0 : Int32)), (.int (0 : Int32)), (.int (0 : Int32)), (.int (0 : Int32)), (.int (0 : Int32)), (.int (0 : Int32))] (.int (0 : Int32)) := V18
  refine Go.aload S18 at_129 rfl rfl (pc' := 131) rfl ?_
  refine Go.iconst S18 (v := 2) at_131 rfl (pc' := 132) rfl ?_
  refine Go.iload S18 at_132 rfl (pc' := 134) rfl ?_
  refine Go.invokestatic S18 (y := ⟨"com/example/markmint/markmint/core/code/GtinCheckDigitPinLaw", "ch", "(I)C"⟩) (rm_method_3_code hw d2 S18.ext hd2) (wd6 hw) (wd7 hw) (wd2 hw) (wd8 hw) (by decide) at_134 rfl pd8 (argsL := [(.int d2)]) rfl rfl rfl (by decide) (W := 2) rfl (by decide) (by decide) (by decide) all0 (pc' := 137) rfl ?_
  intro v19 T19 h19 L19 S19 K19 q19
  obtain ⟨rfl, rfl⟩ := q19
  show Go _ _ _ _ T19 (mkF m 137 #[.val (.long ax), .second, .val (.int last), .val (.int d0), .val (.int d1), .val (.int d2), .val (.int d3), .val (.int d4), .val (.int d5), .val (.int d6), .val (.int d7), .val (.int d8), .val (.int d9), .val (.int d10), .val (.int d11), .val (.int d12), .val (.int d13), .val (.ref a14), .unset, .unset, .unset] [(.int (48 + d2)), (.int (2 : Int32)), (.ref a14)])
  refine Go.castore S19 V18 (by decide) (i := 2) (by decide) (Nat.le_of_ble_eq_true rfl) hz14 (Or.inr hk14) at_137 (pc' := 138) rfl ?_
  intro T20 h20 L20 S20 W20 V20
  rw [show nar .char (48 + d2) = (48 + d2) from own_narc (own_chr hd2).1 (own_big (own_chr hd2).2)] at V20
  replace V20 : Arv Z h20 a14 kA14 .char (14 : Int32) [(.int (48 + d0)), (.int (48 + d1)), (.int (48 + d2)), (.int (0 : Int32)), (.int (0 : Int32)), (.int (0 : Int32)), (.int (0 : Int32)), (.int (0 : Int32)), (.int (0 : Int32)), (.int (0 : Int32)), (.int (0 : Int32)), (.int (0 : Int32)), (.int (0 : Int32)), (.int (0 : Int32))] (.int (0 : Int32)) := V20
  refine Go.aload S20 at_138 rfl rfl (pc' := 140) rfl ?_
  refine Go.iconst S20 (v := 3) at_140 rfl (pc' := 141) rfl ?_
  refine Go.iload S20 at_141 rfl (pc' := 143) rfl ?_
  refine Go.invokestatic S20 (y := ⟨"com/example/markmint/markmint/core/code/GtinCheckDigitPinLaw", "ch", "(I)C"⟩) (rm_method_3_code hw d3 S20.ext hd3) (wd6 hw) (wd7 hw) (wd2 hw) (wd8 hw) (by decide) at_143 rfl pd8 (argsL := [(.int d3)]) rfl rfl rfl (by decide) (W := 2) rfl (by decide) (by decide) (by decide) all0 (pc' := 146) rfl ?_
  intro v21 T21 h21 L21 S21 K21 q21
  obtain ⟨rfl, rfl⟩ := q21
  show Go _ _ _ _ T21 (mkF m 146 #[.val (.long ax), .second, .val (.int last), .val (.int d0), .val (.int d1), .val (.int d2), .val (.int d3), .val (.int d4), .val (.int d5), .val (.int d6), .val (.int d7), .val (.int d8), .val (.int d9), .val (.int d10), .val (.int d11), .val (.int d12), .val (.int d13), .val (.ref a14), .unset, .unset, .unset] [(.int (48 + d3)), (.int (3 : Int32)), (.ref a14)])
  refine Go.castore S21 V20 (by decide) (i := 3) (by decide) (Nat.le_of_ble_eq_true rfl) hz14 (Or.inr hk14) at_146 (pc' := 147) rfl ?_
  intro T22 h22 L22 S22 W22 V22
  rw [show nar .char (48 + d3) = (48 + d3) from own_narc (own_chr hd3).1 (own_big (own_chr hd3).2)] at V22
  replace V22 : Arv Z h22 a14 kA14 .char (14 : Int32) [(.int (48 + d0)), (.int (48 + d1)), (.int (48 + d2)), (.int (48 + d3)), (.int (0 : Int32)), (.int (0 : Int32)), (.int (0 : Int32)), (.int (0 : Int32)), (.int (0 : Int32)), (.int (0 : Int32)), (.int (0 : Int32)), (.int (0 : Int32)), (.int (0 : Int32)), (.int (0 : Int32))] (.int (0 : Int32)) := V22
  refine Go.aload S22 at_147 rfl rfl (pc' := 149) rfl ?_
  refine Go.iconst S22 (v := 4) at_149 rfl (pc' := 150) rfl ?_
  refine Go.iload S22 at_150 rfl (pc' := 152) rfl ?_
  refine Go.invokestatic S22 (y := ⟨"com/example/markmint/markmint/core/code/GtinCheckDigitPinLaw", "ch", "(I)C"⟩) (rm_method_3_code hw d4 S22.ext hd4) (wd6 hw) (wd7 hw) (wd2 hw) (wd8 hw) (by decide) at_152 rfl pd8 (argsL := [(.int d4)]) rfl rfl rfl (by decide) (W := 2) rfl (by decide) (by decide) (by decide) all0 (pc' := 155) rfl ?_
  intro v23 T23 h23 L23 S23 K23 q23
  obtain ⟨rfl, rfl⟩ := q23
  show Go _ _ _ _ T23 (mkF m 155 #[.val (.long ax), .second, .val (.int last), .val (.int d0), .val (.int d1), .val (.int d2), .val (.int d3), .val (.int d4), .val (.int d5), .val (.int d6), .val (.int d7), .val (.int d8), .val (.int d9), .val (.int d10), .val (.int d11), .val (.int d12), .val (.int d13), .val (.ref a14), .unset, .unset, .unset] [(.int (48 + d4)), (.int (4 : Int32)), (.ref a14)])
  refine Go.castore S23 V22 (by decide) (i := 4) (by decide) (Nat.le_of_ble_eq_true rfl) hz14 (Or.inr hk14) at_155 (pc' := 156) rfl ?_
  intro T24 h24 L24 S24 W24 V24
  rw [show nar .char (48 + d4) = (48 + d4) from own_narc (own_chr hd4).1 (own_big (own_chr hd4).2)] at V24
  replace V24 : Arv Z h24 a14 kA14 .char (14 : Int32) [(.int (48 + d0)), (.int (48 + d1)), (.int (48 + d2)), (.int (48 + d3)), (.int (48 + d4)), (.int (0 : Int32)), (.int (0 : Int32)), (.int (0 : Int32)), (.int (0 : Int32)), (.int (0 : Int32)), (.int (0 : Int32)), (.int (0 : Int32)), (.int (0 : Int32)), (.int (0 : Int32))] (.int (0 : Int32)) := V24
  refine Go.aload S24 at_156 rfl rfl (pc' := 158) rfl ?_
  refine Go.iconst S24 (v := 5) at_158 rfl (pc' := 159) rfl ?_
  refine Go.iload S24 at_159 rfl (pc' := 161) rfl ?_
  refine Go.invokestatic S24 (y := ⟨"com/example/markmint/markmint/core/code/GtinCheckDigitPinLaw", "ch", "(I)C"⟩) (rm_method_3_code hw d5 S24.ext hd5) (wd6 hw) (wd7 hw) (wd2 hw) (wd8 hw) (by decide) at_161 rfl pd8 (argsL := [(.int d5)]) rfl rfl rfl (by decide) (W := 2) rfl (by decide) (by decide) (by decide) all0 (pc' := 164) rfl ?_
  intro v25 T25 h25 L25 S25 K25 q25
  obtain ⟨rfl, rfl⟩ := q25
  show Go _ _ _ _ T25 (mkF m 164 #[.val (.long ax), .second, .val (.int last), .val (.int d0), .val (.int d1), .val (.int d2), .val (.int d3), .val (.int d4), .val (.int d5), .val (.int d6), .val (.int d7), .val (.int d8), .val (.int d9), .val (.int d10), .val (.int d11), .val (.int d12), .val (.int d13), .val (.ref a14), .unset, .unset, .unset] [(.int (48 + d5)), (.int (5 : Int32)), (.ref a14)])
  refine Go.castore S25 V24 (by decide) (i := 5) (by decide) (Nat.le_of_ble_eq_true rfl) hz14 (Or.inr hk14) at_164 (pc' := 165) rfl ?_
  intro T26 h26 L26 S26 W26 V26
  rw [show nar .char (48 + d5) = (48 + d5) from own_narc (own_chr hd5).1 (own_big (own_chr hd5).2)] at V26
  replace V26 : Arv Z h26 a14 kA14 .char (14 : Int32) [(.int (48 + d0)), (.int (48 + d1)), (.int (48 + d2)), (.int (48 + d3)), (.int (48 + d4)), (.int (48 + d5)), (.int (0 : Int32)), (.int (0 : Int32)), (.int (0 : Int32)), (.int (0 : Int32)), (.int (0 : Int32)), (.int (0 : Int32)), (.int (0 : Int32)), (.int (0 : Int32))] (.int (0 : Int32)) := V26
  refine Go.aload S26 at_165 rfl rfl (pc' := 167) rfl ?_
  refine Go.bipush S26 (v := 6) at_167 rfl (pc' := 169) rfl ?_
  refine Go.iload S26 at_169 rfl (pc' := 171) rfl ?_
  refine Go.invokestatic S26 (y := ⟨"com/example/markmint/markmint/core/code/GtinCheckDigitPinLaw", "ch", "(I)C"⟩) (rm_method_3_code hw d6 S26.ext hd6) (wd6 hw) (wd7 hw) (wd2 hw) (wd8 hw) (by decide) at_171 rfl pd8 (argsL := [(.int d6)]) rfl rfl rfl (by decide) (W := 2) rfl (by decide) (by decide) (by decide) all0 (pc' := 174) rfl ?_
  intro v27 T27 h27 L27 S27 K27 q27
  obtain ⟨rfl, rfl⟩ := q27
  show Go _ _ _ _ T27 (mkF m 174 #[.val (.long ax), .second, .val (.int last), .val (.int d0), .val (.int d1), .val (.int d2), .val (.int d3), .val (.int d4), .val (.int d5), .val (.int d6), .val (.int d7), .val (.int d8), .val (.int d9), .val (.int d10), .val (.int d11), .val (.int d12), .val (.int d13), .val (.ref a14), .unset, .unset, .unset] [(.int (48 + d6)), (.int (6 : Int32)), (.ref a14)])
  refine Go.castore S27 V26 (by decide) (i := 6) (by decide) (Nat.le_of_ble_eq_true rfl) hz14 (Or.inr hk14) at_174 (pc' := 175) rfl ?_
  intro T28 h28 L28 S28 W28 V28
  rw [show nar .char (48 + d6) = (48 + d6) from own_narc (own_chr hd6).1 (own_big (own_chr hd6).2)] at V28
  replace V28 : Arv Z h28 a14 kA14 .char (14 : Int32) [(.int (48 + d0)), (.int (48 + d1)), (.int (48 + d2)), (.int (48 + d3)), (.int (48 + d4)), (.int (48 + d5)), (.int (48 + d6)), (.int (0 : Int32)), (.int (0 : Int32)), (.int (0 : Int32)), (.int (0 : Int32)), (.int (0 : Int32)), (.int (0 : Int32)), (.int (0 : Int32))] (.int (0 : Int32)) := V28
  refine Go.aload S28 at_175 rfl rfl (pc' := 177) rfl ?_
  refine Go.bipush S28 (v := 7) at_177 rfl (pc' := 179) rfl ?_
  refine Go.iload S28 at_179 rfl (pc' := 181) rfl ?_
  refine Go.invokestatic S28 (y := ⟨"com/example/markmint/markmint/core/code/GtinCheckDigitPinLaw", "ch", "(I)C"⟩) (rm_method_3_code hw d7 S28.ext hd7) (wd6 hw) (wd7 hw) (wd2 hw) (wd8 hw) (by decide) at_181 rfl pd8 (argsL := [(.int d7)]) rfl rfl rfl (by decide) (W := 2) rfl (by decide) (by decide) (by decide) all0 (pc' := 184) rfl ?_
  intro v29 T29 h29 L29 S29 K29 q29
  obtain ⟨rfl, rfl⟩ := q29
  show Go _ _ _ _ T29 (mkF m 184 #[.val (.long ax), .second, .val (.int last), .val (.int d0), .val (.int d1), .val (.int d2), .val (.int d3), .val (.int d4), .val (.int d5), .val (.int d6), .val (.int d7), .val (.int d8), .val (.int d9), .val (.int d10), .val (.int d11), .val (.int d12), .val (.int d13), .val (.ref a14), .unset, .unset, .unset] [(.int (48 + d7)), (.int (7 : Int32)), (.ref a14)])
  refine Go.castore S29 V28 (by decide) (i := 7) (by decide) (Nat.le_of_ble_eq_true rfl) hz14 (Or.inr hk14) at_184 (pc' := 185) rfl ?_
  intro T30 h30 L30 S30 W30 V30
  rw [show nar .char (48 + d7) = (48 + d7) from own_narc (own_chr hd7).1 (own_big (own_chr hd7).2)] at V30
  replace V30 : Arv Z h30 a14 kA14 .char (14 : Int32) [(.int (48 + d0)), (.int (48 + d1)), (.int (48 + d2)), (.int (48 + d3)), (.int (48 + d4)), (.int (48 + d5)), (.int (48 + d6)), (.int (48 + d7)), (.int (0 : Int32)), (.int (0 : Int32)), (.int (0 : Int32)), (.int (0 : Int32)), (.int (0 : Int32)), (.int (0 : Int32))] (.int (0 : Int32)) := V30
  refine Go.aload S30 at_185 rfl rfl (pc' := 187) rfl ?_
  refine Go.bipush S30 (v := 8) at_187 rfl (pc' := 189) rfl ?_
  refine Go.iload S30 at_189 rfl (pc' := 191) rfl ?_
  refine Go.invokestatic S30 (y := ⟨"com/example/markmint/markmint/core/code/GtinCheckDigitPinLaw", "ch", "(I)C"⟩) (rm_method_3_code hw d8 S30.ext hd8) (wd6 hw) (wd7 hw) (wd2 hw) (wd8 hw) (by decide) at_191 rfl pd8 (argsL := [(.int d8)]) rfl rfl rfl (by decide) (W := 2) rfl (by decide) (by decide) (by decide) all0 (pc' := 194) rfl ?_
  intro v31 T31 h31 L31 S31 K31 q31
  obtain ⟨rfl, rfl⟩ := q31
  show Go _ _ _ _ T31 (mkF m 194 #[.val (.long ax), .second, .val (.int last), .val (.int d0), .val (.int d1), .val (.int d2), .val (.int d3), .val (.int d4), .val (.int d5), .val (.int d6), .val (.int d7), .val (.int d8), .val (.int d9), .val (.int d10), .val (.int d11), .val (.int d12), .val (.int d13), .val (.ref a14), .unset, .unset, .unset] [(.int (48 + d8)), (.int (8 : Int32)), (.ref a14)])
  refine Go.castore S31 V30 (by decide) (i := 8) (by decide) (Nat.le_of_ble_eq_true rfl) hz14 (Or.inr hk14) at_194 (pc' := 195) rfl ?_
  intro T32 h32 L32 S32 W32 V32
  rw [show nar .char (48 + d8) = (48 + d8) from own_narc (own_chr hd8).1 (own_big (own_chr hd8).2)] at V32
  replace V32 : Arv Z h32 a14 kA14 .char (14 : Int32) [(.int (48 + d0)), (.int (48 + d1)), (.int (48 + d2)), (.int (48 + d3)), (.int (48 + d4)), (.int (48 + d5)), (.int (48 + d6)), (.int (48 + d7)), (.int (48 + d8)), (.int (0 : Int32)), (.int (0 : Int32)), (.int (0 : Int32)), (.int (0 : Int32)), (.int (0 : Int32))] (.int (0 : Int32)) := V32
  refine Go.aload S32 at_195 rfl rfl (pc' := 197) rfl ?_
  refine Go.bipush S32 (v := 9) at_197 rfl (pc' := 199) rfl ?_
  refine Go.iload S32 at_199 rfl (pc' := 201) rfl ?_
  refine Go.invokestatic S32 (y := ⟨"com/example/markmint/markmint/core/code/GtinCheckDigitPinLaw", "ch", "(I)C"⟩) (rm_method_3_code hw d9 S32.ext hd9) (wd6 hw) (wd7 hw) (wd2 hw) (wd8 hw) (by decide) at_201 rfl pd8 (argsL := [(.int d9)]) rfl rfl rfl (by decide) (W := 2) rfl (by decide) (by decide) (by decide) all0 (pc' := 204) rfl ?_
  intro v33 T33 h33 L33 S33 K33 q33
  obtain ⟨rfl, rfl⟩ := q33
  show Go _ _ _ _ T33 (mkF m 204 #[.val (.long ax), .second, .val (.int last), .val (.int d0), .val (.int d1), .val (.int d2), .val (.int d3), .val (.int d4), .val (.int d5), .val (.int d6), .val (.int d7), .val (.int d8), .val (.int d9), .val (.int d10), .val (.int d11), .val (.int d12), .val (.int d13), .val (.ref a14), .unset, .unset, .unset] [(.int (48 + d9)), (.int (9 : Int32)), (.ref a14)])
  refine Go.castore S33 V32 (by decide) (i := 9) (by decide) (Nat.le_of_ble_eq_true rfl) hz14 (Or.inr hk14) at_204 (pc' := 205) rfl ?_
  intro T34 h34 L34 S34 W34 V34
  rw [show nar .char (48 + d9) = (48 + d9) from own_narc (own_chr hd9).1 (own_big (own_chr hd9).2)] at V34
  replace V34 : Arv Z h34 a14 kA14 .char (14 : Int32) [(.int (48 + d0)), (.int (48 + d1)), (.int (48 + d2)), (.int (48 + d3)), (.int (48 + d4)), (.int (48 + d5)), (.int (48 + d6)), (.int (48 + d7)), (.int (48 + d8)), (.int (48 + d9)), (.int (0 : Int32)), (.int (0 : Int32)), (.int (0 : Int32)), (.int (0 : Int32))] (.int (0 : Int32)) := V34
  refine Go.aload S34 at_205 rfl rfl (pc' := 207) rfl ?_
  refine Go.bipush S34 (v := 10) at_207 rfl (pc' := 209) rfl ?_
  refine Go.iload S34 at_209 rfl (pc' := 211) rfl ?_
  refine Go.invokestatic S34 (y := ⟨"com/example/markmint/markmint/core/code/GtinCheckDigitPinLaw", "ch", "(I)C"⟩) (rm_method_3_code hw d10 S34.ext hd10) (wd6 hw) (wd7 hw) (wd2 hw) (wd8 hw) (by decide) at_211 rfl pd8 (argsL := [(.int d10)]) rfl rfl rfl (by decide) (W := 2) rfl (by decide) (by decide) (by decide) all0 (pc' := 214) rfl ?_
  intro v35 T35 h35 L35 S35 K35 q35
  obtain ⟨rfl, rfl⟩ := q35
  show Go _ _ _ _ T35 (mkF m 214 #[.val (.long ax), .second, .val (.int last), .val (.int d0), .val (.int d1), .val (.int d2), .val (.int d3), .val (.int d4), .val (.int d5), .val (.int d6), .val (.int d7), .val (.int d8), .val (.int d9), .val (.int d10), .val (.int d11), .val (.int d12), .val (.int d13), .val (.ref a14), .unset, .unset, .unset] [(.int (48 + d10)), (.int (10 : Int32)), (.ref a14)])
  refine Go.castore S35 V34 (by decide) (i := 10) (by decide) (Nat.le_of_ble_eq_true rfl) hz14 (Or.inr hk14) at_214 (pc' := 215) rfl ?_
  intro T36 h36 L36 S36 W36 V36
  rw [show nar .char (48 + d10) = (48 + d10) from own_narc (own_chr hd10).1 (own_big (own_chr hd10).2)] at V36
  replace V36 : Arv Z h36 a14 kA14 .char (14 : Int32) [(.int (48 + d0)), (.int (48 + d1)), (.int (48 + d2)), (.int (48 + d3)), (.int (48 + d4)), (.int (48 + d5)), (.int (48 + d6)), (.int (48 + d7)), (.int (48 + d8)), (.int (48 + d9)), (.int (48 + d10)), (.int (0 : Int32)), (.int (0 : Int32)), (.int (0 : Int32))] (.int (0 : Int32)) := V36
  refine Go.aload S36 at_215 rfl rfl (pc' := 217) rfl ?_
  refine Go.bipush S36 (v := 11) at_217 rfl (pc' := 219) rfl ?_
  refine Go.iload S36 at_219 rfl (pc' := 221) rfl ?_
  refine Go.invokestatic S36 (y := ⟨"com/example/markmint/markmint/core/code/GtinCheckDigitPinLaw", "ch", "(I)C"⟩) (rm_method_3_code hw d11 S36.ext hd11) (wd6 hw) (wd7 hw) (wd2 hw) (wd8 hw) (by decide) at_221 rfl pd8 (argsL := [(.int d11)]) rfl rfl rfl (by decide) (W := 2) rfl (by decide) (by decide) (by decide) all0 (pc' := 224) rfl ?_
  intro v37 T37 h37 L37 S37 K37 q37
  obtain ⟨rfl, rfl⟩ := q37
  show Go _ _ _ _ T37 (mkF m 224 #[.val (.long ax), .second, .val (.int last), .val (.int d0), .val (.int d1), .val (.int d2), .val (.int d3), .val (.int d4), .val (.int d5), .val (.int d6), .val (.int d7), .val (.int d8), .val (.int d9), .val (.int d10), .val (.int d11), .val (.int d12), .val (.int d13), .val (.ref a14), .unset, .unset, .unset] [(.int (48 + d11)), (.int (11 : Int32)), (.ref a14)])
  refine Go.castore S37 V36 (by decide) (i := 11) (by decide) (Nat.le_of_ble_eq_true rfl) hz14 (Or.inr hk14) at_224 (pc' := 225) rfl ?_
  intro T38 h38 L38 S38 W38 V38
  rw [show nar .char (48 + d11) = (48 + d11) from own_narc (own_chr hd11).1 (own_big (own_chr hd11).2)] at V38
  replace V38 : Arv Z h38 a14 kA14 .char (14 : Int32) [(.int (48 + d0)), (.int (48 + d1)), (.int (48 + d2)), (.int (48 + d3)), (.int (48 + d4)), (.int (48 + d5)), (.int (48 + d6)), (.int (48 + d7)), (.int (48 + d8)), (.int (48 + d9)), (.int (48 + d10)), (.int (48 + d11)), (.int (0 : Int32)), (.int (0 : Int32))] (.int (0 : Int32)) := V38
  refine Go.aload S38 at_225 rfl rfl (pc' := 227) rfl ?_
  refine Go.bipush S38 (v := 12) at_227 rfl (pc' := 229) rfl ?_
  refine Go.iload S38 at_229 rfl (pc' := 231) rfl ?_
  refine Go.invokestatic S38 (y := ⟨"com/example/markmint/markmint/core/code/GtinCheckDigitPinLaw", "ch", "(I)C"⟩) (rm_method_3_code hw d12 S38.ext hd12) (wd6 hw) (wd7 hw) (wd2 hw) (wd8 hw) (by decide) at_231 rfl pd8 (argsL := [(.int d12)]) rfl rfl rfl (by decide) (W := 2) rfl (by decide) (by decide) (by decide) all0 (pc' := 234) rfl ?_
  intro v39 T39 h39 L39 S39 K39 q39
  obtain ⟨rfl, rfl⟩ := q39
  show Go _ _ _ _ T39 (mkF m 234 #[.val (.long ax), .second, .val (.int last), .val (.int d0), .val (.int d1), .val (.int d2), .val (.int d3), .val (.int d4), .val (.int d5), .val (.int d6), .val (.int d7), .val (.int d8), .val (.int d9), .val (.int d10), .val (.int d11), .val (.int d12), .val (.int d13), .val (.ref a14), .unset, .unset, .unset] [(.int (48 + d12)), (.int (12 : Int32)), (.ref a14)])
  refine Go.castore S39 V38 (by decide) (i := 12) (by decide) (Nat.le_of_ble_eq_true rfl) hz14 (Or.inr hk14) at_234 (pc' := 235) rfl ?_
  intro T40 h40 L40 S40 W40 V40
  rw [show nar .char (48 + d12) = (48 + d12) from own_narc (own_chr hd12).1 (own_big (own_chr hd12).2)] at V40
  replace V40 : Arv Z h40 a14 kA14 .char (14 : Int32) [(.int (48 + d0)), (.int (48 + d1)), (.int (48 + d2)), (.int (48 + d3)), (.int (48 + d4)), (.int (48 + d5)), (.int (48 + d6)), (.int (48 + d7)), (.int (48 + d8)), (.int (48 + d9)), (.int (48 + d10)), (.int (48 + d11)), (.int (48 + d12)), (.int (0 : Int32))] (.int (0 : Int32)) := V40
  refine Go.aload S40 at_235 rfl rfl (pc' := 237) rfl ?_
  refine Go.bipush S40 (v := 13) at_237 rfl (pc' := 239) rfl ?_
  refine Go.iload S40 at_239 rfl (pc' := 241) rfl ?_
  refine Go.invokestatic S40 (y := ⟨"com/example/markmint/markmint/core/code/GtinCheckDigitPinLaw", "ch", "(I)C"⟩) (rm_method_3_code hw d13 S40.ext hd13) (wd6 hw) (wd7 hw) (wd2 hw) (wd8 hw) (by decide) at_241 rfl pd8 (argsL := [(.int d13)]) rfl rfl rfl (by decide) (W := 2) rfl (by decide) (by decide) (by decide) all0 (pc' := 244) rfl ?_
  intro v41 T41 h41 L41 S41 K41 q41
  obtain ⟨rfl, rfl⟩ := q41
  show Go _ _ _ _ T41 (mkF m 244 #[.val (.long ax), .second, .val (.int last), .val (.int d0), .val (.int d1), .val (.int d2), .val (.int d3), .val (.int d4), .val (.int d5), .val (.int d6), .val (.int d7), .val (.int d8), .val (.int d9), .val (.int d10), .val (.int d11), .val (.int d12), .val (.int d13), .val (.ref a14), .unset, .unset, .unset] [(.int (48 + d13)), (.int (13 : Int32)), (.ref a14)])
  refine Go.castore S41 V40 (by decide) (i := 13) (by decide) (Nat.le_of_ble_eq_true rfl) hz14 (Or.inr hk14) at_244 (pc' := 245) rfl ?_
  intro T42 h42 L42 S42 W42 V42
  rw [show nar .char (48 + d13) = (48 + d13) from own_narc (own_chr hd13).1 (own_big (own_chr hd13).2)] at V42
  replace V42 : Arv Z h42 a14 kA14 .char (14 : Int32) [(.int (48 + d0)), (.int (48 + d1)), (.int (48 + d2)), (.int (48 + d3)), (.int (48 + d4)), (.int (48 + d5)), (.int (48 + d6)), (.int (48 + d7)), (.int (48 + d8)), (.int (48 + d9)), (.int (48 + d10)), (.int (48 + d11)), (.int (48 + d12)), (.int (48 + d13))] (.int (0 : Int32)) := V42
  refine Go.new S42 (wd9 hw) (wd10 hw) (wd11 hw) at_245 (by decide) (by decide) (pc' := 248) rfl ?_
  intro T43 h43 a43 S43 E43 hg43 hz43 hk43 X43 D43
  have n_a14_a43 : a14 ≠ a43 := Nat.ne_of_lt (Nat.lt_of_lt_of_le V42.lt (Nat.le_of_eq hg43))
  replace V42 := V42.ext E43
  have F43_coder : Fld Z h43 a43 "java/lang/String" "coder" "B" (.int (0 : Int32)) := D43 (Or.inr (wd35 hw)) (ty := .byte) (by decide)
  have F43_value : Fld Z h43 a43 "java/lang/String" "value" "[B" .null := D43 (Or.inr (wd37 hw)) (ty := (.array .byte)) (by decide)
  refine Go.dup S43 at_248 rfl (pc' := 249) rfl ?_
  refine Go.aload S43 at_249 rfl rfl (pc' := 251) rfl ?_
  have hcl : ∀ z ∈ ([48 + d0, 48 + d1, 48 + d2, 48 + d3, 48 + d4, 48 + d5, 48 + d6, 48 + d7, 48 + d8, 48 + d9, 48 + d10, 48 + d11, 48 + d12, 48 + d13] : List Int32), ¬ z < 0 ∧ ¬ 255 < z := by
    intro z hz
    simp only [List.mem_cons, List.not_mem_nil, or_false] at hz
    rcases hz with rfl | rfl | rfl | rfl | rfl | rfl | rfl | rfl | rfl | rfl | rfl | rfl | rfl | rfl
    · exact own_chr hd0
    · exact own_chr hd1
    · exact own_chr hd2
    · exact own_chr hd3
    · exact own_chr hd4
    · exact own_chr hd5
    · exact own_chr hd6
    · exact own_chr hd7
    · exact own_chr hd8
    · exact own_chr hd9
    · exact own_chr hd10
    · exact own_chr hd11
    · exact own_chr hd12
    · exact own_chr hd13
  refine Go.invokespecial S43 (y := ⟨"java/lang/String", "<init>", "([C)V"⟩) (rm_sinit hw a43 a14 kA14 [48 + d0, 48 + d1, 48 + d2, 48 + d3, 48 + d4, 48 + d5, 48 + d6, 48 + d7, 48 + d8, 48 + d9, 48 + d10, 48 + d11, 48 + d12, 48 + d13] cs (by simp) (by simp) (fun z hz => (hcl z hz).2) S43.ext hz43 X43 F43_value F43_coder n_a14_a43 V42 Cs Cn) rfl rfl (wd12 hw) (wd13 hw) (wd11 hw) (wd14 hw) (by decide) at_251 rfl pd10 (argsL := [(.ref a14)]) rfl rfl rfl (by decide) (W := 1) rfl (by decide) (by decide) (by decide) (allS (Or.inr hk43) all0) (pc' := 254) rfl ?_
  intro v44 T44 h44 L44 S44 K44 q44
  obtain ⟨rfl, ts, kb, A, ht⟩ := q44
  replace V42 := V42.keep K44 (ninS n_a14_a43 nin0)
  replace X43 := X43.keep K44
  show Go _ _ _ _ T44 (mkF m 254 #[.val (.long ax), .second, .val (.int last), .val (.int d0), .val (.int d1), .val (.int d2), .val (.int d3), .val (.int d4), .val (.int d5), .val (.int d6), .val (.int d7), .val (.int d8), .val (.int d9), .val (.int d10), .val (.int d11), .val (.int d12), .val (.int d13), .val (.ref a14), .unset, .unset, .unset] [(.ref a43)])
  refine Go.astore S44 at_254 rfl (Ls' := #[.val (.long ax), .second, .val (.int last), .val (.int d0), .val (.int d1), .val (.int d2), .val (.int d3), .val (.int d4), .val (.int d5), .val (.int d6), .val (.int d7), .val (.int d8), .val (.int d9), .val (.int d10), .val (.int d11), .val (.int d12), .val (.int d13), .val (.ref a14), .val (.ref a43), .unset, .unset]) rfl (pc' := 256) rfl ?_
  refine Go.aload S44 at_256 rfl rfl (pc' := 258) rfl ?_
  refine Go.invokestatic S44 (y := ⟨"com/example/markmint/markmint/core/code/Gtin", "checkDigit", "(Ljava/lang/String;)I"⟩) (rm_chk hw a43 ts kb d0 d1 d2 d3 d4 d5 d6 d7 d8 d9 d10 d11 d12 d13 fw cs S44.ext hd0 hd1 hd2 hd3 hd4 hd5 hd6 hd7 hd8 hd9 hd10 hd11 hd12 hd13 hcl A Ff Fr Cs Cn) (wd38 hw) (wd39 hw) (wd40 hw) (wd41 hw) (by decide) at_258 rfl pd11 (argsL := [(.ref a43)]) rfl rfl rfl (by decide) (W := 0) rfl (by decide) (by decide) (by decide) all0 (pc' := 261) rfl ?_
  intro v45 T45 h45 L45 S45 K45 q45
  obtain ⟨⟨ck, rfl, hck⟩, rfl⟩ := q45
  show Go _ _ _ _ T45 (mkF m 261 #[.val (.long ax), .second, .val (.int last), .val (.int d0), .val (.int d1), .val (.int d2), .val (.int d3), .val (.int d4), .val (.int d5), .val (.int d6), .val (.int d7), .val (.int d8), .val (.int d9), .val (.int d10), .val (.int d11), .val (.int d12), .val (.int d13), .val (.ref a14), .val (.ref a43), .unset, .unset] [(.int ck)])
  refine Go.istore S45 at_261 (Ls' := #[.val (.long ax), .second, .val (.int last), .val (.int d0), .val (.int d1), .val (.int d2), .val (.int d3), .val (.int d4), .val (.int d5), .val (.int d6), .val (.int d7), .val (.int d8), .val (.int d9), .val (.int d10), .val (.int d11), .val (.int d12), .val (.int d13), .val (.ref a14), .val (.ref a43), .val (.int ck), .unset]) rfl (pc' := 263) rfl ?_
  refine Go.iload S45 at_263 rfl (pc' := 265) rfl ?_
  refine Go.if_lt S45 at_265 (pt := 275) (by decide) (pc' := 268) rfl ?_ ?_
  · intro c265; exact absurd c265 (by rw [Int32.lt_iff_toInt_lt]; have e0 : (0 : Int32).toInt = 0 := rfl; have e9 : (9 : Int32).toInt = 9 := rfl; omega)
  · intro c265
    refine Go.iload S45 at_268 rfl (pc' := 270) rfl ?_
    refine Go.bipush S45 (v := 9) at_270 rfl (pc' := 272) rfl ?_
    refine Go.icmp_le S45 at_272 (pt := 277) (by decide) (pc' := 275) rfl ?_ ?_
    · intro c272
      refine Go.iconst S45 (v := 3) at_277 rfl (pc' := 278) rfl ?_
      refine Go.iloadN S45 at_278 rfl (pc' := 279) rfl ?_
      refine Go.iload S45 at_279 rfl (pc' := 281) rfl ?_
      refine Go.iadd S45 at_281 (pc' := 282) rfl ?_
      refine Go.iload S45 at_282 rfl (pc' := 284) rfl ?_
      refine Go.iadd S45 at_284 (pc' := 285) rfl ?_
      refine Go.iload S45 at_285 rfl (pc' := 287) rfl ?_
      refine Go.iadd S45 at_287 (pc' := 288) rfl ?_
      refine Go.iload S45 at_288 rfl (pc' := 290) rfl ?_
      refine Go.iadd S45 at_290 (pc' := 291) rfl ?_
      refine Go.iload S45 at_291 rfl (pc' := 293) rfl ?_
      refine Go.iadd S45 at_293 (pc' := 294) rfl ?_
      refine Go.iload S45 at_294 rfl (pc' := 296) rfl ?_
      refine Go.iadd S45 at_296 (pc' := 297) rfl ?_
      refine Go.imul S45 at_297 (pc' := 298) rfl ?_
      refine Go.iload S45 at_298 rfl (pc' := 300) rfl ?_
      refine Go.iload S45 at_300 rfl (pc' := 302) rfl ?_
      refine Go.iadd S45 at_302 (pc' := 303) rfl ?_
      refine Go.iload S45 at_303 rfl (pc' := 305) rfl ?_
      refine Go.iadd S45 at_305 (pc' := 306) rfl ?_
      refine Go.iload S45 at_306 rfl (pc' := 308) rfl ?_
      refine Go.iadd S45 at_308 (pc' := 309) rfl ?_
      refine Go.iload S45 at_309 rfl (pc' := 311) rfl ?_
      refine Go.iadd S45 at_311 (pc' := 312) rfl ?_
      refine Go.iload S45 at_312 rfl (pc' := 314) rfl ?_
      refine Go.iadd S45 at_314 (pc' := 315) rfl ?_
      refine Go.iadd S45 at_315 (pc' := 316) rfl ?_
      refine Go.istore S45 at_316 (Ls' := #[.val (.long ax), .second, .val (.int last), .val (.int d0), .val (.int d1), .val (.int d2), .val (.int d3), .val (.int d4), .val (.int d5), .val (.int d6), .val (.int d7), .val (.int d8), .val (.int d9), .val (.int d10), .val (.int d11), .val (.int d12), .val (.int d13), .val (.ref a14), .val (.ref a43), .val (.int ck), .val (.int (((3 : Int32) * ((((((d0 + d2) + d4) + d6) + d8) + d10) + d12)) + (((((d1 + d3) + d5) + d7) + d9) + d11)))]) rfl (pc' := 318) rfl ?_
      refine Go.iload S45 at_318 rfl (pc' := 320) rfl ?_
      refine Go.iload S45 at_320 rfl (pc' := 322) rfl ?_
      refine Go.iadd S45 at_322 (pc' := 323) rfl ?_
      refine Go.bipush S45 (v := 10) at_323 rfl (pc' := 325) rfl ?_
      refine Go.irem S45 at_325 (by decide) (pc' := 326) rfl ?_
      refine Go.if_ne S45 at_326 (pt := 333) (by decide) (pc' := 329) rfl ?_ ?_
      · intro c326; exact absurd (own_fin hck hd0 hd1 hd2 hd3 hd4 hd5 hd6 hd7 hd8 hd9 hd10 hd11 hd12) c326
      · intro c326
        refine Go.iconst S45 (v := 1) at_329 rfl (pc' := 330) rfl ?_
        refine Go.goto S45 at_330 (pc' := 334) (by decide) ?_
        exact Go.zreturn S45 rfl (by decide) at_334 (z' := (1 : Int32)) rfl (by decide) (by decide) (rfl)
    · intro c272; exact absurd c272 (by rw [Int32.lt_iff_toInt_lt]; have e0 : (0 : Int32).toInt = 0 := rfl; have e9 : (9 : Int32).toInt = 9 := rfl; omega)
set_option maxRecDepth 65536 in
set_option maxHeartbeats 4000000 in
theorem comes_1 {Post : Tables → Env → Array Value → State → Outcome → State → Prop} (hpost : ∀ tb e args s v u, (limb_1_1.after args s (.returned v) u = true ∧ limb_1_2.after args s (.returned v) u = true ∧ True) → FrameEnd s (.returned v) u (Jvm.fieldLocs frame_1_writes args s ++ Jvm.arrayLocs frame_1_arrays args s ++ Jvm.staticLocs frame_1_statics s) 16 128 → Post tb e args s (.returned v) u) :
    ArmFor flags0 classFile x code maxLocals ret World_1 tables_1 room_1 Calls_1 rest_1 Pre_1 Post := by
  intro l hfl _ _ p e ha hc hk s m args below hf hA hF happ hP
  obtain ⟨hcalls, hrest, hpre⟩ := hP
  obtain ⟨-, -, -, hnamed, -, -, -, hat⟩ := (Spec.applies_iff hf).mp happ
  obtain ⟨hg, hn⟩ := and_e (Cond.before_iff.mp (show (Jvm.Cond.and given_1 narrow_1).before args s = true from hpre))
  obtain ⟨g1a, g1b⟩ := and_e hg
  obtain ⟨g2a, g2b⟩ := and_e g1b
  obtain ⟨w0, w1, rfl⟩ : ∃ w0 w1 : Value, args = #[w0, w1] := by
    have hs : args.size = 2 := by simpa [Cond.value, given_1] using g1a
    obtain ⟨L⟩ := args
    match L, hs with
    | [w0, w1], _ => exact ⟨w0, w1, rfl⟩
  have hw : HW s _ := fun d (hd : d ∈ tables_1) => atoms_spec (ws := Jvm.Cond.code x code maxLocals ret :: tables_1) hat d (List.mem_cons_of_mem _ hd)
  have hfit : Fit s := fun {y c} hc i hi => by
    obtain ⟨ha, rfl⟩ := Array.getElem?_eq_some_iff.mp hc
    have q := List.all_eq_true.mp ((Array.all_eq_true_iff_forall_mem.mp hF) _ (Array.getElem_mem ha)) i (List.mem_range.mpr hi)
    simpa [Array.getElem?_eq_getElem hi] using q
  obtain ⟨i0, ei0⟩ := isL_v g2a
  obtain rfl : w0 = (.long i0) := Option.some.inj ei0
  obtain ⟨i1, ei1⟩ := is_v g2b
  obtain rfl : w1 = (.int i1) := Option.some.inj ei1
  obtain ⟨hsets, -⟩ := atoms_of _ (rest_1_c_eq ▸ (show rest_1_c.before _ s = true from hrest))
  obtain ⟨cs, evc⟩ := is_v (Cond.before_iff.mp (hsets _ (List.mem_of_getElem? (i := 1) rfl)))
  have Cs : Sta s s.heap "java/lang/String" "COMPACT_STRINGS" "Z" (.int cs) := Sta.start evc (Or.inl (hsets _ (List.mem_of_getElem? (i := 0) rfl)))
  have Cn : ¬ cs = 0 := fun q => by
    have z := not_v (Cond.before_iff.mp (hsets _ (List.mem_of_getElem? (i := 2) rfl)))
    have y := eq_i evc (Term.int_eval (0 : Int32)) (congrArg Value.int q)
    exact absurd (y.symm.trans z) (by decide)
  obtain ⟨fw, evf, Fr⟩ := isR_v (Cond.before_iff.mp (hsets _ (List.mem_of_getElem? (i := 8) rfl)))
  have Ff : Sta s s.heap "jdk/internal/util/Preconditions" "SIOOBE_FORMATTER" "Ljava/util/function/BiFunction;" fw := Sta.start evf (Or.inl (hsets _ (List.mem_of_getElem? (i := 7) rfl)))
  obtain ⟨n, o, h1, h2, h3, _, L, rfl, ⟨N, -, -, rfl⟩, hq⟩ := rm_code (l := l) hw i0 i1 fw cs (h0 := s.heap) ⟨Nat.le_refl _, fun _ _ q => q⟩ Ff Fr Cs Cn tables_1 p e ha hc hk s m _ below hf ((Spec.applies_iff_loose hf).mp happ).1 ⟨rfl, State.Warmed39.refl s, rfl⟩ trivial
  refine ⟨n, _, h1, h2, h3, hpost _ _ _ _ _ _ ⟨Cond.after_iff.mpr rfl, Cond.after_iff.mpr (eq_i res_at (Term.int_eval (1)) rfl), trivial⟩ ⟨hq.1, hq.2.1, (hq.2.2.sift fun y hy => Or.inr (N y hy)).mono (by decide) (by decide)⟩⟩
theorem main_1_1 : Claimed_1_1 := comes_1 fun _ _ _ _ _ _ h hF => ⟨h.1, hF⟩
theorem main_1_2 : Claimed_1_2 := comes_1 fun _ _ _ _ _ _ h hF => ⟨h.2.1, hF⟩
end Jvm.Pilot.@@N@@
namespace Jvm.Pilot.@@N@@
open Jvm Jvm.ClassFile Sem Op Lib Jvm.Free Jvm.Stand Jvm.Pilot.@@N@@.Jvm.D
/-! MADE BY PROGRAM (witnessworld.py) out of the Statement's table words and the real class files: 20 classes; the members and pool entries that the words name. The judged class is class 1, her method 3. -/
namespace start1
open Jvm.ClassFile
def u (s : String) : CpInfo := .utf8 (stringToUtf16 s)
/-- a pool by its gaps: so many unusable entries, then the entry; so many at the end -/
def gap : Nat → List CpInfo → List CpInfo
  | 0, r => r
  | n + 1, r => .unusable :: gap n r
def poolList (es : List (Nat × CpInfo)) (last : Nat) : List CpInfo := es.foldr (fun e r => gap e.1 (e.2 :: r)) (gap last [])
def pool (es : List (Nat × CpInfo)) (last : Nat) : Array CpInfo := ⟨poolList es last⟩
def fileOf (pool : Array CpInfo) (this : Nat) (attrs : Array Attribute := #[]) (ms : Array MethodInfo := #[]) (fl : Nat := 33) (sup : Nat := 0) (ifs : Array Nat := #[]) (fds : Array FieldInfo := #[]) : ClassFile where
  minorVersion := 0
  majorVersion := 65
  constantPool := pool
  accessFlags := fl
  thisClass := this
  superClass := sup
  interfaces := ifs
  fields := fds
  methods := ms
  attributes := attrs
def plain (name : String) (sup : Option ClassId) : Class where
  name := name
  kind := .ordinary
  loader := none
  accessFlags := 33
  super := sup
  interfaces := #[]
  cf := none
  fields := #[]
  methods := #[]
  instanceTypes := #[]
  staticTypes := #[]
  resolved := #[]
  callSites := []
  init := .initialized
  statics := none
  mirror := none

def pool0 : Array CpInfo := pool [(5, u "<init>"), (0, u "()V"), (1, .class_ 10), (1, u "java/lang/Object")] 113

def k0c0 : Code := { maxStack := 0, maxLocals := 1, code := object_method_1_code, exceptionTable := #[], attributes := #[] }
def k0m0 : Method := { name := "<init>", desc := "()V", sig := { parameters := [], returnType := none }, accessFlags := 1, code := some k0c0 }
/-- java/lang/Object -/
def k0 : Class := { plain "java/lang/Object" none with
  accessFlags := 33
  interfaces := #[]
  cf := some (fileOf pool0 8 #[] #[{ accessFlags := 1, nameIndex := 5, descriptorIndex := 6, attributes := #[] }] 33 0 #[] #[])
  fields := #[]
  methods := #[k0m0]
  instanceTypes := #[]
  staticTypes := #[]
  resolved := Array.replicate 124 none
  statics := none }

def pool1 : Array CpInfo := pool [(2, .class_ 4), (1, u "java/lang/Object"), (0, u "<init>"), (0, u "()V"), (0, .long 15), (1, .methodref 10 11), (0, .class_ 12), (0, .nameAndType 13 14), (0, u "com/example/markmint/markmint/core/code/GtinCheckDigitPinLaw"), (0, u "d"), (0, u "(JI)I"), (0, .methodref 10 16), (0, .nameAndType 17 18), (0, u "ch"), (0, u "(I)C"), (0, .class_ 20), (0, u "java/lang/String"), (0, .methodref 19 22), (0, .nameAndType 5 23), (0, u "([C)V"), (0, .methodref 25 26), (0, .class_ 27), (0, .nameAndType 28 29), (0, u "com/example/markmint/markmint/core/code/Gtin"), (0, u "checkDigit"), (0, u "(Ljava/lang/String;)I"), (2, u "law"), (0, u "(JI)Z")] 5

def k1m0 : Method := { name := "<init>", desc := "()V", sig := { parameters := [], returnType := none }, accessFlags := 1, code := none }
def k1c1 : Code := { maxStack := 4, maxLocals := 3, code := method_2_code, exceptionTable := #[], attributes := #[] }
def k1m1 : Method := { name := "d", desc := "(JI)I", sig := { parameters := [.long, .int], returnType := some .int }, accessFlags := 10, code := some k1c1 }
def k1c2 : Code := { maxStack := 2, maxLocals := 1, code := method_3_code, exceptionTable := #[], attributes := #[] }
def k1m2 : Method := { name := "ch", desc := "(I)C", sig := { parameters := [.int], returnType := some .char }, accessFlags := 10, code := some k1c2 }
def k1c3 : Code := { maxStack := 3, maxLocals := 21, code := code, exceptionTable := #[], attributes := #[] }
def k1m3 : Method := { name := "law", desc := "(JI)Z", sig := { parameters := [.long, .int], returnType := some .boolean }, accessFlags := 9, code := some k1c3 }
/-- com/example/markmint/markmint/core/code/GtinCheckDigitPinLaw -/
def k1 : Class := { plain "com/example/markmint/markmint/core/code/GtinCheckDigitPinLaw" (some 0) with
  accessFlags := 49
  interfaces := #[]
  cf := some (fileOf pool1 10 #[] #[{ accessFlags := 1, nameIndex := 5, descriptorIndex := 6, attributes := #[] }, { accessFlags := 10, nameIndex := 13, descriptorIndex := 14, attributes := #[] }, { accessFlags := 10, nameIndex := 17, descriptorIndex := 18, attributes := #[] }, { accessFlags := 9, nameIndex := 32, descriptorIndex := 33, attributes := #[] }] 49 2 #[] #[])
  fields := #[]
  methods := #[k1m0, k1m1, k1m2, k1m3]
  instanceTypes := #[]
  staticTypes := #[]
  resolved := Array.replicate 39 none
  statics := none }

def pool2 : Array CpInfo := pool [(1, .class_ 2), (0, u "java/io/Serializable"), (0, .class_ 4), (0, u "java/lang/Object")] 2

/-- java/io/Serializable -/
def k2 : Class := { plain "java/io/Serializable" (some 0) with
  accessFlags := 1537
  interfaces := #[]
  cf := some (fileOf pool2 1 #[] #[] 1537 3 #[] #[])
  fields := #[]
  methods := #[]
  instanceTypes := #[]
  staticTypes := #[]
  resolved := Array.replicate 7 none
  statics := none }

def pool3 : Array CpInfo := pool [(1, .class_ 2), (0, u "java/lang/Comparable"), (0, .class_ 4), (0, u "java/lang/Object")] 7

/-- java/lang/Comparable -/
def k3 : Class := { plain "java/lang/Comparable" (some 0) with
  accessFlags := 1537
  interfaces := #[]
  cf := some (fileOf pool3 1 #[] #[] 1537 3 #[] #[])
  fields := #[]
  methods := #[]
  instanceTypes := #[]
  staticTypes := #[]
  resolved := Array.replicate 12 none
  statics := none }

def pool4 : Array CpInfo := pool [(2, .class_ 4), (1, u "java/lang/CharSequence"), (42, .class_ 48), (0, u "java/lang/CharSequence$1CodePointIterator"), (10, .class_ 60), (0, u "java/lang/CharSequence$1CharIterator"), (5, .class_ 67), (0, u "java/lang/Object")] 63

/-- java/lang/CharSequence -/
def k4 : Class := { plain "java/lang/CharSequence" (some 0) with
  accessFlags := 1537
  interfaces := #[]
  cf := some (fileOf pool4 2 #[.nestMembers #[47, 59]] #[] 1537 66 #[] #[])
  fields := #[]
  methods := #[]
  instanceTypes := #[]
  staticTypes := #[]
  resolved := Array.replicate 131 none
  statics := none }

def pool5 : Array CpInfo := pool [(1, .class_ 2), (0, u "java/lang/constant/Constable"), (0, .class_ 4), (0, u "java/lang/Object")] 6

/-- java/lang/constant/Constable -/
def k5 : Class := { plain "java/lang/constant/Constable" (some 0) with
  accessFlags := 1537
  interfaces := #[]
  cf := some (fileOf pool5 1 #[] #[] 1537 3 #[] #[])
  fields := #[]
  methods := #[]
  instanceTypes := #[]
  staticTypes := #[]
  resolved := Array.replicate 11 none
  statics := none }

def pool6 : Array CpInfo := pool [(1, .class_ 2), (0, u "java/lang/constant/ConstantDesc"), (0, .class_ 4), (0, u "java/lang/Object")] 32

/-- java/lang/constant/ConstantDesc -/
def k6 : Class := { plain "java/lang/constant/ConstantDesc" (some 0) with
  accessFlags := 1537
  interfaces := #[]
  cf := some (fileOf pool6 1 #[] #[] 1537 3 #[] #[])
  fields := #[]
  methods := #[]
  instanceTypes := #[]
  staticTypes := #[]
  resolved := Array.replicate 37 none
  statics := none }

def pool7 : Array CpInfo := pool [(1, .methodref 2 3), (0, .class_ 4), (0, .nameAndType 5 6), (0, u "java/lang/Object"), (0, u "<init>"), (0, u "()V"), (2, .fieldref 10 11), (0, .class_ 12), (0, .nameAndType 13 14), (0, u "java/lang/String"), (0, u "value"), (0, u "[B"), (0, .fieldref 10 16), (0, .nameAndType 17 18), (0, u "coder"), (0, u "B"), (2, u "hash"), (0, u "I"), (2, u "hashIsZero"), (0, u "Z"), (0, .methodref 10 28), (0, .nameAndType 5 29), (0, u "([CIILjava/lang/Void;)V"), (8, .fieldref 10 39), (0, .nameAndType 40 26), (0, u "COMPACT_STRINGS"), (1, .class_ 44), (1, u "java/lang/StringUTF16"), (0, u "compress"), (1, .methodref 42 48), (0, .nameAndType 49 50), (0, u "coderFromArrayLen"), (0, u "([BI)B"), (56, .class_ 109), (1, u "java/lang/StringLatin1"), (32, u "()Z"), (34, .methodref 42 178), (0, .nameAndType 45 179), (0, u "([CII)[B"), (183, u "([BI)C"), (27, u "(II)V"), (35, u "(I)C"), (64, .methodref 10 493), (0, .nameAndType 494 142), (0, u "isLatin1"), (0, .methodref 107 496), (0, .nameAndType 497 363), (0, u "charAt"), (3, u "checkIndex"), (73, .class_ 576), (0, u "java/lang/CharSequence"), (22, u "CASE_INSENSITIVE_ORDER"), (0, u "Ljava/util/Comparator;"), (409, u "([C)V"), (42, .fieldref 1054 1055), (0, .class_ 1056), (0, .nameAndType 1057 1058), (0, u "jdk/internal/util/Preconditions"), (0, u "SIOOBE_FORMATTER"), (0, u "Ljava/util/function/BiFunction;"), (0, .methodref 1054 1060), (0, .nameAndType 501 1061), (0, u "(IILjava/util/function/BiFunction;)I"), (39, u "serialPersistentFields"), (0, u "[Ljava/io/ObjectStreamField;"), (0, .class_ 1104), (0, u "java/lang/String$CaseInsensitiveComparator"), (1, .class_ 1107), (0, u "java/io/Serializable"), (0, .class_ 1109), (0, u "java/lang/Comparable"), (0, .class_ 1111), (0, u "java/lang/constant/Constable"), (0, .class_ 1113), (0, u "java/lang/constant/ConstantDesc"), (2, u "serialVersionUID"), (0, u "J"), (3, u "REPL"), (0, u "C"), (2, u "LATIN1"), (1, u "UTF16")] 323

def k7m0 : Method := { name := "<init>", desc := "()V", sig := { parameters := [], returnType := none }, accessFlags := 1, code := none }
def k7c1 : Code := { maxStack := 5, maxLocals := 2, code := jdk_42_method_3_code, exceptionTable := #[], attributes := #[] }
def k7m1 : Method := { name := "<init>", desc := "([C)V", sig := { parameters := [(.array .char)], returnType := none }, accessFlags := 1, code := some k7c1 }
def k7c2 : Code := { maxStack := 2, maxLocals := 2, code := jdk_42_method_56_code, exceptionTable := #[], attributes := #[] }
def k7m2 : Method := { name := "charAt", desc := "(I)C", sig := { parameters := [.int], returnType := some .char }, accessFlags := 1, code := some k7c2 }
def k7c3 : Code := { maxStack := 4, maxLocals := 6, code := jdk_42_method_149_code, exceptionTable := #[], attributes := #[] }
def k7m3 : Method := { name := "<init>", desc := "([CIILjava/lang/Void;)V", sig := { parameters := [(.array .char), .int, .int, (.object "java/lang/Void")], returnType := none }, accessFlags := 2, code := some k7c3 }
def k7c4 : Code := { maxStack := 1, maxLocals := 1, code := jdk_42_method_154_code, exceptionTable := #[], attributes := #[] }
def k7m4 : Method := { name := "isLatin1", desc := "()Z", sig := { parameters := [], returnType := some .boolean }, accessFlags := 0, code := some k7c4 }
def k7c5 : Code := { maxStack := 3, maxLocals := 2, code := jdk_42_method_155_code, exceptionTable := #[], attributes := #[] }
def k7m5 : Method := { name := "checkIndex", desc := "(II)V", sig := { parameters := [.int, .int], returnType := none }, accessFlags := 8, code := some k7c5 }
/-- java/lang/String -/
def k7 : Class := { plain "java/lang/String" (some 0) with
  accessFlags := 49
  interfaces := #[2, 3, 4, 5, 6]
  cf := some (fileOf pool7 10 #[.nestMembers #[1103]] #[{ accessFlags := 1, nameIndex := 5, descriptorIndex := 6, attributes := #[] }, { accessFlags := 1, nameIndex := 5, descriptorIndex := 1010, attributes := #[] }, { accessFlags := 1, nameIndex := 497, descriptorIndex := 427, attributes := #[] }, { accessFlags := 2, nameIndex := 5, descriptorIndex := 29, attributes := #[] }, { accessFlags := 0, nameIndex := 494, descriptorIndex := 142, attributes := #[] }, { accessFlags := 8, nameIndex := 501, descriptorIndex := 391, attributes := #[] }] 49 2 #[1106, 1108, 575, 1110, 1112] #[{ accessFlags := 18, nameIndex := 13, descriptorIndex := 14, attributes := #[] }, { accessFlags := 18, nameIndex := 17, descriptorIndex := 18, attributes := #[] }, { accessFlags := 2, nameIndex := 21, descriptorIndex := 22, attributes := #[] }, { accessFlags := 2, nameIndex := 25, descriptorIndex := 26, attributes := #[] }, { accessFlags := 26, nameIndex := 1116, descriptorIndex := 1117, attributes := #[] }, { accessFlags := 24, nameIndex := 40, descriptorIndex := 26, attributes := #[] }, { accessFlags := 26, nameIndex := 1101, descriptorIndex := 1102, attributes := #[] }, { accessFlags := 26, nameIndex := 1121, descriptorIndex := 1122, attributes := #[] }, { accessFlags := 25, nameIndex := 599, descriptorIndex := 600, attributes := #[] }, { accessFlags := 24, nameIndex := 1125, descriptorIndex := 18, attributes := #[] }, { accessFlags := 24, nameIndex := 1127, descriptorIndex := 18, attributes := #[] }])
  fields := #[{ name := "value", type := (.array .byte), accessFlags := 18, slot := 0, constantValue := 0 }, { name := "coder", type := .byte, accessFlags := 18, slot := 1, constantValue := 0 }, { name := "hash", type := .int, accessFlags := 2, slot := 2, constantValue := 0 }, { name := "hashIsZero", type := .boolean, accessFlags := 2, slot := 3, constantValue := 0 }, { name := "serialVersionUID", type := .long, accessFlags := 26, slot := 0, constantValue := 0 }, { name := "COMPACT_STRINGS", type := .boolean, accessFlags := 24, slot := 1, constantValue := 0 }, { name := "serialPersistentFields", type := (.array (.object "java/io/ObjectStreamField")), accessFlags := 26, slot := 2, constantValue := 0 }, { name := "REPL", type := .char, accessFlags := 26, slot := 3, constantValue := 0 }, { name := "CASE_INSENSITIVE_ORDER", type := (.object "java/util/Comparator"), accessFlags := 25, slot := 4, constantValue := 0 }, { name := "LATIN1", type := .byte, accessFlags := 24, slot := 5, constantValue := 0 }, { name := "UTF16", type := .byte, accessFlags := 24, slot := 6, constantValue := 0 }]
  methods := #[k7m0, k7m1, k7m2, k7m3, k7m4, k7m5]
  instanceTypes := #[(.array .byte), .byte, .int, .boolean]
  staticTypes := #[.long, .boolean, (.array (.object "java/io/ObjectStreamField")), .char, (.object "java/util/Comparator"), .byte, .byte]
  resolved := Array.replicate 1451 none
  statics := some 0 }

def pool8 : Array CpInfo := pool [(6, .class_ 8), (1, u "java/lang/Object"), (0, u "<init>"), (0, u "()V"), (1, .class_ 14), (1, u "java/lang/StringUTF16"), (31, u "$assertionsDisabled"), (0, u "Z"), (13, u "HI_BYTE_SHIFT"), (0, u "I"), (2, u "LO_BYTE_SHIFT"), (49, .methodref 12 116), (0, .nameAndType 117 118), (0, u "compress"), (0, u "([CI[BII)I"), (3, u "([CII)[B"), (138, u "coderFromArrayLen"), (0, u "([BI)B"), (106, .class_ 371), (1, u "java/lang/StringUTF16$LinesSpliterator"), (58, u "MAX_LENGTH"), (196, .class_ 628), (0, u "java/lang/StringUTF16$CodePointsSpliterator"), (0, .class_ 630), (0, u "java/lang/StringUTF16$CharsSpliterator")] 4

def k8m0 : Method := { name := "<init>", desc := "()V", sig := { parameters := [], returnType := none }, accessFlags := 0, code := none }
def k8c1 : Code := { maxStack := 2, maxLocals := 2, code := jdk_52_method_15_code, exceptionTable := #[], attributes := #[] }
def k8m1 : Method := { name := "coderFromArrayLen", desc := "([BI)B", sig := { parameters := [(.array .byte), .int], returnType := some .byte }, accessFlags := 8, code := some k8c1 }
def k8c2 : Code := { maxStack := 5, maxLocals := 6, code := jdk_52_method_16_code, exceptionTable := #[], attributes := #[] }
def k8m2 : Method := { name := "compress", desc := "([CII)[B", sig := { parameters := [(.array .char), .int, .int], returnType := some (.array .byte) }, accessFlags := 9, code := some k8c2 }
def k8c3 : Code := { maxStack := 3, maxLocals := 7, code := jdk_52_method_21_code, exceptionTable := #[], attributes := #[] }
def k8m3 : Method := { name := "compress", desc := "([CI[BII)I", sig := { parameters := [(.array .char), .int, (.array .byte), .int, .int], returnType := some .int }, accessFlags := 9, code := some k8c3 }
/-- java/lang/StringUTF16 -/
def k8 : Class := { plain "java/lang/StringUTF16" (some 0) with
  accessFlags := 48
  interfaces := #[]
  cf := some (fileOf pool8 12 #[.nestMembers #[627, 629, 369]] #[{ accessFlags := 0, nameIndex := 9, descriptorIndex := 10, attributes := #[] }, { accessFlags := 8, nameIndex := 261, descriptorIndex := 262, attributes := #[] }, { accessFlags := 9, nameIndex := 117, descriptorIndex := 122, attributes := #[] }, { accessFlags := 9, nameIndex := 117, descriptorIndex := 118, attributes := #[] }] 48 6 #[] #[{ accessFlags := 26, nameIndex := 61, descriptorIndex := 62, attributes := #[] }, { accessFlags := 26, nameIndex := 65, descriptorIndex := 62, attributes := #[] }, { accessFlags := 24, nameIndex := 430, descriptorIndex := 62, attributes := #[] }, { accessFlags := 4120, nameIndex := 46, descriptorIndex := 47, attributes := #[] }])
  fields := #[{ name := "HI_BYTE_SHIFT", type := .int, accessFlags := 26, slot := 0, constantValue := 0 }, { name := "LO_BYTE_SHIFT", type := .int, accessFlags := 26, slot := 1, constantValue := 0 }, { name := "MAX_LENGTH", type := .int, accessFlags := 24, slot := 2, constantValue := 0 }, { name := "$assertionsDisabled", type := .boolean, accessFlags := 4120, slot := 3, constantValue := 0 }]
  methods := #[k8m0, k8m1, k8m2, k8m3]
  instanceTypes := #[]
  staticTypes := #[.int, .int, .int, .boolean]
  resolved := Array.replicate 635 none
  statics := none }

def pool9 : Array CpInfo := pool [(2, .class_ 4), (1, u "java/lang/Object"), (0, u "<init>"), (0, u "()V"), (1, .class_ 10), (1, u "com/example/markmint/markmint/core/code/Gtin"), (0, u "FORM"), (0, u "Ljava/util/regex/Pattern;"), (12, .methodref 26 27), (0, .class_ 28), (0, .nameAndType 29 30), (0, u "java/lang/String"), (0, u "charAt"), (0, u "(I)C"), (6, u "LENGTH"), (0, u "I"), (7, u "checkDigit"), (0, u "(Ljava/lang/String;)I")] 3

def k9m0 : Method := { name := "<init>", desc := "()V", sig := { parameters := [], returnType := none }, accessFlags := 2, code := none }
def k9c1 : Code := { maxStack := 4, maxLocals := 4, code := prog_16_method_3_code, exceptionTable := #[], attributes := #[] }
def k9m1 : Method := { name := "checkDigit", desc := "(Ljava/lang/String;)I", sig := { parameters := [(.object "java/lang/String")], returnType := some .int }, accessFlags := 9, code := some k9c1 }
/-- com/example/markmint/markmint/core/code/Gtin -/
def k9 : Class := { plain "com/example/markmint/markmint/core/code/Gtin" (some 0) with
  accessFlags := 49
  interfaces := #[]
  cf := some (fileOf pool9 8 #[] #[{ accessFlags := 2, nameIndex := 5, descriptorIndex := 6, attributes := #[] }, { accessFlags := 9, nameIndex := 46, descriptorIndex := 47, attributes := #[] }] 49 2 #[] #[{ accessFlags := 25, nameIndex := 37, descriptorIndex := 38, attributes := #[] }, { accessFlags := 26, nameIndex := 11, descriptorIndex := 12, attributes := #[] }])
  fields := #[{ name := "LENGTH", type := .int, accessFlags := 25, slot := 0, constantValue := 0 }, { name := "FORM", type := (.object "java/util/regex/Pattern"), accessFlags := 26, slot := 1, constantValue := 0 }]
  methods := #[k9m0, k9m1]
  instanceTypes := #[]
  staticTypes := #[.int, (.object "java/util/regex/Pattern")]
  resolved := Array.replicate 51 none
  statics := none }

def pool10 : Array CpInfo := pool [(1, .class_ 2), (0, u "java/lang/String"), (1, .class_ 6), (1, u "java/lang/Object"), (0, u "<init>"), (0, u "()V"), (0, .methodref 1 10), (0, .nameAndType 11 12), (0, u "checkIndex"), (0, u "(II)V"), (1, .class_ 16), (1, u "java/lang/StringLatin1"), (36, u "([BI)C"), (67, u "$assertionsDisabled"), (0, u "Z"), (98, .class_ 223), (1, u "java/lang/StringLatin1$LinesSpliterator"), (28, u "charAt"), (137, .class_ 391), (0, u "java/lang/StringLatin1$CharsSpliterator")] 3

def k10m0 : Method := { name := "<init>", desc := "()V", sig := { parameters := [], returnType := none }, accessFlags := 0, code := none }
def k10c1 : Code := { maxStack := 2, maxLocals := 2, code := jdk_43_method_2_code, exceptionTable := #[], attributes := #[] }
def k10m1 : Method := { name := "charAt", desc := "([BI)C", sig := { parameters := [(.array .byte), .int], returnType := some .char }, accessFlags := 9, code := some k10c1 }
/-- java/lang/StringLatin1 -/
def k10 : Class := { plain "java/lang/StringLatin1" (some 0) with
  accessFlags := 48
  interfaces := #[]
  cf := some (fileOf pool10 14 #[.nestMembers #[390, 221]] #[{ accessFlags := 0, nameIndex := 7, descriptorIndex := 8, attributes := #[] }, { accessFlags := 9, nameIndex := 252, descriptorIndex := 53, attributes := #[] }] 48 4 #[] #[{ accessFlags := 4120, nameIndex := 121, descriptorIndex := 122, attributes := #[] }])
  fields := #[{ name := "$assertionsDisabled", type := .boolean, accessFlags := 4120, slot := 0, constantValue := 0 }]
  methods := #[k10m0, k10m1]
  instanceTypes := #[]
  staticTypes := #[.boolean]
  resolved := Array.replicate 395 none
  statics := none }

def pool11 : Array CpInfo := pool [(2, .class_ 4), (1, u "java/lang/Object"), (0, u "<init>"), (0, u "()V"), (17, .class_ 26), (1, u "jdk/internal/util/Preconditions"), (6, u "checkIndex"), (21, .class_ 56), (0, u "jdk/internal/util/Preconditions$4"), (57, .class_ 115), (0, u "jdk/internal/util/Preconditions$1"), (7, u "SIOOBE_FORMATTER"), (0, u "Ljava/util/function/BiFunction;"), (0, .class_ 126), (0, u "jdk/internal/util/Preconditions$2"), (3, u "AIOOBE_FORMATTER"), (0, .class_ 132), (0, u "jdk/internal/util/Preconditions$3"), (3, u "IOOBE_FORMATTER"), (41, u "(IILjava/util/function/BiFunction;)I")] 15

def k11m0 : Method := { name := "<init>", desc := "()V", sig := { parameters := [], returnType := none }, accessFlags := 1, code := none }
def k11c1 : Code := { maxStack := 3, maxLocals := 3, code := jdk_41_method_11_code, exceptionTable := #[], attributes := #[] }
def k11m1 : Method := { name := "checkIndex", desc := "(IILjava/util/function/BiFunction;)I", sig := { parameters := [.int, .int, (.object "java/util/function/BiFunction")], returnType := some .int }, accessFlags := 9, code := some k11c1 }
/-- jdk/internal/util/Preconditions -/
def k11 : Class := { plain "jdk/internal/util/Preconditions" (some 0) with
  accessFlags := 33
  interfaces := #[]
  cf := some (fileOf pool11 24 #[.nestMembers #[55, 131, 125, 114]] #[{ accessFlags := 1, nameIndex := 5, descriptorIndex := 6, attributes := #[] }, { accessFlags := 9, nameIndex := 33, descriptorIndex := 178, attributes := #[] }] 33 2 #[] #[{ accessFlags := 25, nameIndex := 123, descriptorIndex := 124, attributes := #[] }, { accessFlags := 25, nameIndex := 130, descriptorIndex := 124, attributes := #[] }, { accessFlags := 25, nameIndex := 136, descriptorIndex := 124, attributes := #[] }])
  fields := #[{ name := "SIOOBE_FORMATTER", type := (.object "java/util/function/BiFunction"), accessFlags := 25, slot := 0, constantValue := 0 }, { name := "AIOOBE_FORMATTER", type := (.object "java/util/function/BiFunction"), accessFlags := 25, slot := 1, constantValue := 0 }, { name := "IOOBE_FORMATTER", type := (.object "java/util/function/BiFunction"), accessFlags := 25, slot := 2, constantValue := 0 }]
  methods := #[k11m0, k11m1]
  instanceTypes := #[]
  staticTypes := #[(.object "java/util/function/BiFunction"), (.object "java/util/function/BiFunction"), (.object "java/util/function/BiFunction")]
  resolved := Array.replicate 194 none
  statics := some 1 }

def pool12 : Array CpInfo := pool [(9, u "<init>"), (6, .class_ 18), (1, u "java/lang/Object"), (0, u "()V"), (1, .class_ 23), (1, u "jdk/internal/util/ArraysSupport"), (0, u "LOG2_ARRAY_LONG_INDEX_SCALE"), (0, u "I"), (2, u "U"), (0, u "Ljdk/internal/misc/Unsafe;"), (8, u "BIG_ENDIAN"), (0, u "Z"), (8, u "LOG2_BYTE_BIT_SIZE"), (4, u "LOG2_ARRAY_INT_INDEX_SCALE"), (54, u "JLA"), (0, u "Ljdk/internal/access/JavaLangAccess;"), (11, u "LOG2_ARRAY_BOOLEAN_INDEX_SCALE"), (9, u "LOG2_ARRAY_BYTE_INDEX_SCALE"), (5, u "LOG2_ARRAY_CHAR_INDEX_SCALE"), (5, u "LOG2_ARRAY_SHORT_INDEX_SCALE"), (18, u "LOG2_ARRAY_FLOAT_INDEX_SCALE"), (24, u "LOG2_ARRAY_DOUBLE_INDEX_SCALE"), (89, u "T_BOOLEAN"), (2, u "T_CHAR"), (1, u "T_FLOAT"), (1, u "T_DOUBLE"), (1, u "T_BYTE"), (1, u "T_SHORT"), (1, u "T_INT"), (1, u "T_LONG"), (1, u "SOFT_MAX_ARRAY_LENGTH")] 83

def k12m0 : Method := { name := "<init>", desc := "()V", sig := { parameters := [], returnType := none }, accessFlags := 2, code := none }
/-- jdk/internal/util/ArraysSupport -/
def k12 : Class := { plain "jdk/internal/util/ArraysSupport" (some 0) with
  accessFlags := 33
  interfaces := #[]
  cf := some (fileOf pool12 21 #[] #[{ accessFlags := 2, nameIndex := 9, descriptorIndex := 19, attributes := #[] }] 33 16 #[] #[{ accessFlags := 24, nameIndex := 28, descriptorIndex := 29, attributes := #[] }, { accessFlags := 26, nameIndex := 38, descriptorIndex := 39, attributes := #[] }, { accessFlags := 25, nameIndex := 121, descriptorIndex := 25, attributes := #[] }, { accessFlags := 25, nameIndex := 131, descriptorIndex := 25, attributes := #[] }, { accessFlags := 25, nameIndex := 137, descriptorIndex := 25, attributes := #[] }, { accessFlags := 25, nameIndex := 143, descriptorIndex := 25, attributes := #[] }, { accessFlags := 25, nameIndex := 53, descriptorIndex := 25, attributes := #[] }, { accessFlags := 25, nameIndex := 24, descriptorIndex := 25, attributes := #[] }, { accessFlags := 25, nameIndex := 162, descriptorIndex := 25, attributes := #[] }, { accessFlags := 25, nameIndex := 187, descriptorIndex := 25, attributes := #[] }, { accessFlags := 26, nameIndex := 48, descriptorIndex := 25, attributes := #[] }, { accessFlags := 25, nameIndex := 277, descriptorIndex := 25, attributes := #[] }, { accessFlags := 25, nameIndex := 280, descriptorIndex := 25, attributes := #[] }, { accessFlags := 25, nameIndex := 282, descriptorIndex := 25, attributes := #[] }, { accessFlags := 25, nameIndex := 284, descriptorIndex := 25, attributes := #[] }, { accessFlags := 25, nameIndex := 286, descriptorIndex := 25, attributes := #[] }, { accessFlags := 25, nameIndex := 288, descriptorIndex := 25, attributes := #[] }, { accessFlags := 25, nameIndex := 290, descriptorIndex := 25, attributes := #[] }, { accessFlags := 25, nameIndex := 292, descriptorIndex := 25, attributes := #[] }, { accessFlags := 26, nameIndex := 108, descriptorIndex := 109, attributes := #[] }, { accessFlags := 25, nameIndex := 294, descriptorIndex := 25, attributes := #[] }])
  fields := #[{ name := "U", type := (.object "jdk/internal/misc/Unsafe"), accessFlags := 24, slot := 0, constantValue := 0 }, { name := "BIG_ENDIAN", type := .boolean, accessFlags := 26, slot := 1, constantValue := 0 }, { name := "LOG2_ARRAY_BOOLEAN_INDEX_SCALE", type := .int, accessFlags := 25, slot := 2, constantValue := 0 }, { name := "LOG2_ARRAY_BYTE_INDEX_SCALE", type := .int, accessFlags := 25, slot := 3, constantValue := 0 }, { name := "LOG2_ARRAY_CHAR_INDEX_SCALE", type := .int, accessFlags := 25, slot := 4, constantValue := 0 }, { name := "LOG2_ARRAY_SHORT_INDEX_SCALE", type := .int, accessFlags := 25, slot := 5, constantValue := 0 }, { name := "LOG2_ARRAY_INT_INDEX_SCALE", type := .int, accessFlags := 25, slot := 6, constantValue := 0 }, { name := "LOG2_ARRAY_LONG_INDEX_SCALE", type := .int, accessFlags := 25, slot := 7, constantValue := 0 }, { name := "LOG2_ARRAY_FLOAT_INDEX_SCALE", type := .int, accessFlags := 25, slot := 8, constantValue := 0 }, { name := "LOG2_ARRAY_DOUBLE_INDEX_SCALE", type := .int, accessFlags := 25, slot := 9, constantValue := 0 }, { name := "LOG2_BYTE_BIT_SIZE", type := .int, accessFlags := 26, slot := 10, constantValue := 0 }, { name := "T_BOOLEAN", type := .int, accessFlags := 25, slot := 11, constantValue := 0 }, { name := "T_CHAR", type := .int, accessFlags := 25, slot := 12, constantValue := 0 }, { name := "T_FLOAT", type := .int, accessFlags := 25, slot := 13, constantValue := 0 }, { name := "T_DOUBLE", type := .int, accessFlags := 25, slot := 14, constantValue := 0 }, { name := "T_BYTE", type := .int, accessFlags := 25, slot := 15, constantValue := 0 }, { name := "T_SHORT", type := .int, accessFlags := 25, slot := 16, constantValue := 0 }, { name := "T_INT", type := .int, accessFlags := 25, slot := 17, constantValue := 0 }, { name := "T_LONG", type := .int, accessFlags := 25, slot := 18, constantValue := 0 }, { name := "JLA", type := (.object "jdk/internal/access/JavaLangAccess"), accessFlags := 26, slot := 19, constantValue := 0 }, { name := "SOFT_MAX_ARRAY_LENGTH", type := .int, accessFlags := 25, slot := 20, constantValue := 0 }]
  methods := #[k12m0]
  instanceTypes := #[]
  staticTypes := #[(.object "jdk/internal/misc/Unsafe"), .boolean, .int, .int, .int, .int, .int, .int, .int, .int, .int, .int, .int, .int, .int, .int, .int, .int, .int, (.object "jdk/internal/access/JavaLangAccess"), .int]
  resolved := Array.replicate 378 none
  statics := none }

def pool13 : Array CpInfo := pool [(1, u "java/lang/Cloneable"), (0, .class_ 1), (0, u "java/lang/Object"), (0, .class_ 3)] 3

/-- java/lang/Cloneable -/
def k13 : Class := { plain "java/lang/Cloneable" (some 0) with
  accessFlags := 1537
  interfaces := #[]
  cf := some (fileOf pool13 2 #[] #[] 1537 4 #[] #[])
  fields := #[]
  methods := #[]
  instanceTypes := #[]
  staticTypes := #[]
  resolved := Array.replicate 8 none
  statics := none }

/-- the primitive byte -/
def k14 : Class := { plain "byte" none with kind := .primitive 'B', accessFlags := 0x411 }
/-- [B -/
def k15 : Class := { plain "[B" (some 0) with kind := .array 14 .byte, interfaces := #[13, 2], accessFlags := 1041 }

/-- the primitive char -/
def k16 : Class := { plain "char" none with kind := .primitive 'C', accessFlags := 0x411 }
/-- [C -/
def k17 : Class := { plain "[C" (some 0) with kind := .array 16 .char, interfaces := #[13, 2], accessFlags := 1041 }

/-- the primitive int -/
def k18 : Class := { plain "int" none with kind := .primitive 'I', accessFlags := 0x411 }
/-- [I -/
def k19 : Class := { plain "[I" (some 0) with kind := .array 18 .int, interfaces := #[13, 2], accessFlags := 1041 }

def heap : Heap := #[{ cls := 7, slots := #[.long 0, .int 1, .null, .int 0, .null, .int 0, .int 0], vm := .statics 7 },
  { cls := 11, slots := #[.null, .null, .null], vm := .statics 11 }]
def classes : Array Class := #[k0, k1, k2, k3, k4, k5, k6, k7, k8, k9, k10, k11, k12, k13, k14, k15, k16, k17, k18, k19]
def interned : List (Array UInt16 × Addr) := []
def slotsUsed : Nat := 10
def theMethod : MethodId := ⟨1, 3⟩
def args0 : Array Value := #[.long 5, .int 7]
def aboutOver (below : List Frame) : State where
  vm := { classes := classes, interned := interned.toArray }
  heap := heap
  slotsUsed := slotsUsed
  threads := #[{ frames := .invoking theMethod args0 :: below }]
def below0 : List Frame := [.native { method := ⟨0, 0⟩, args := #[] }]
def about1 : State := aboutOver below0
def p0 : Program := .bare "" "" ""
def e0 : Env := launch0.env 0 0 0
theorem w_frames : about1.frames = Frame.invoking theMethod args0 :: below0 := rfl
set_option maxRecDepth 65536 in
theorem w_args : argsFit about1.vm theMethod args0 = true := by decide +kernel
set_option maxRecDepth 65536 in
theorem w_heap : heapFits about1 = true := by decide +kernel
set_option maxRecDepth 65536 in
theorem w_runnable : about1.curStatus? = some .runnable := by decide +kernel
set_option maxRecDepth 65536 in
theorem w_alone : about1.alone = true := by decide +kernel
set_option maxRecDepth 65536 in
theorem w_named : about1.methodNamed? x = some theMethod := by decide +kernel
set_option maxRecDepth 65536 in
theorem w_hears : about1.hears theMethod below0 = true := by decide +kernel
set_option maxRecDepth 65536 in
theorem w_ripe : about1.ripe theMethod args0 below0 = true := by decide +kernel
theorem w_running : about1.status = .running := rfl
set_option maxRecDepth 65536 in
theorem w_room : about1.hasRoom e0.platform room_1 = true :=
  launch0.hasRoom_least _ room_1 (by decide +kernel) (by decide +kernel) (by decide +kernel) (by decide +kernel) (by decide +kernel) (by decide +kernel)
theorem allAtoms_all (ts : List Jvm.Cond) (a : Array Jvm.Value) (st : Jvm.State) : (allAtoms ts).before a st = ts.all (fun c => c.before a st) := by
  induction ts with
  | nil => rfl
  | cons c t ih =>
    show (Jvm.Cond.and c (allAtoms t)).before a st = _
    rw [Jvm.Cond.before_and, ih, List.all_cons]
def words1 : List Jvm.Cond := Jvm.Cond.code x code maxLocals ret :: tables_1
/-- a 'code' word, met by the world's own term for the bytes: nothing is compared byte by byte -/
theorem code_word {y : MethodName} {bytes : ByteArray} {mx : Nat} {rt : Option FieldType} {a : Array Value} {s : State} {m : MethodId} {meth : Method} {c : Code} (h1 : s.methodNamed? y = some m) (h2 : s.vm.method? m = some meth) (h3 : meth.code = some c) (h4 : c.code = bytes)
    (h5 : (c.maxLocals == mx && c.exceptionTable.isEmpty && decide (c.maxStack ≤ mostOperands) && decide (meth.sig.returnType = rt) && !meth.locks && decide (parseMethodDescriptor y.desc = some meth.sig)) = true) : (Jvm.Cond.code y bytes mx rt).before a s = true := by
  simp only [Bool.and_eq_true, beq_iff_eq, Bool.not_eq_true', decide_eq_true_eq] at h5
  obtain ⟨⟨⟨⟨⟨g1, g2⟩, g3⟩, g4⟩, g5⟩, g6⟩ := h5
  simp [Cond.before, Cond.holds, Cond.value, h1, h2, h3, h4, g1, g2, g3, g4, g5, g6]
def isCode : Jvm.Cond → Bool
  | .code _ _ _ _ => true
  | _ => false
theorem all_split {L : List Jvm.Cond} {P : Jvm.Cond → Bool} (h1 : L.all (fun c => isCode c || P c) = true) (h2 : ∀ c ∈ L.filter isCode, P c = true) : L.all P = true := by
  refine List.all_eq_true.mpr fun c hc => ?_
  have h := List.all_eq_true.mp h1 c hc
  rcases Bool.eq_false_or_eq_true (isCode c) with hi | hi
  · exact h2 c (List.mem_filter.mpr ⟨hc, hi⟩)
  · simpa [hi] using h
set_option maxRecDepth 65536 in
theorem w_c0 : (Jvm.Cond.code x code maxLocals ret).before args0 about1 = true := code_word (m := ⟨1, 3⟩) (meth := k1m3) (c := k1c3) (by decide +kernel) rfl rfl rfl (by decide +kernel)
set_option maxRecDepth 65536 in
theorem w_c1 : (Jvm.Cond.code ({ cls := "com/example/markmint/markmint/core/code/GtinCheckDigitPinLaw", name := "d", desc := "(JI)I" } : Jvm.MethodName) method_2_code (3 : Nat) (Option.some Jvm.ClassFile.FieldType.int)).before args0 about1 = true := code_word (m := ⟨1, 1⟩) (meth := k1m1) (c := k1c1) (by decide +kernel) rfl rfl rfl (by decide +kernel)
set_option maxRecDepth 65536 in
theorem w_c2 : (Jvm.Cond.code ({ cls := "com/example/markmint/markmint/core/code/GtinCheckDigitPinLaw", name := "ch", desc := "(I)C" } : Jvm.MethodName) method_3_code (1 : Nat) (Option.some Jvm.ClassFile.FieldType.char)).before args0 about1 = true := code_word (m := ⟨1, 2⟩) (meth := k1m2) (c := k1c2) (by decide +kernel) rfl rfl rfl (by decide +kernel)
set_option maxRecDepth 65536 in
theorem w_c3 : (Jvm.Cond.code ({ cls := "java/lang/String", name := "<init>", desc := "([C)V" } : Jvm.MethodName) jdk_42_method_3_code (2 : Nat) (Option.none : Option Jvm.ClassFile.FieldType)).before args0 about1 = true := code_word (m := ⟨7, 1⟩) (meth := k7m1) (c := k7c1) (by decide +kernel) rfl rfl rfl (by decide +kernel)
set_option maxRecDepth 65536 in
theorem w_c4 : (Jvm.Cond.code ({ cls := "java/lang/String", name := "<init>", desc := "([CIILjava/lang/Void;)V" } : Jvm.MethodName) jdk_42_method_149_code (6 : Nat) (Option.none : Option Jvm.ClassFile.FieldType)).before args0 about1 = true := code_word (m := ⟨7, 3⟩) (meth := k7m3) (c := k7c3) (by decide +kernel) rfl rfl rfl (by decide +kernel)
set_option maxRecDepth 65536 in
theorem w_c5 : (Jvm.Cond.code ({ cls := "java/lang/Object", name := "<init>", desc := "()V" } : Jvm.MethodName) object_method_1_code (1 : Nat) (Option.none : Option Jvm.ClassFile.FieldType)).before args0 about1 = true := code_word (m := ⟨0, 0⟩) (meth := k0m0) (c := k0c0) (by decide +kernel) rfl rfl rfl (by decide +kernel)
set_option maxRecDepth 65536 in
theorem w_c6 : (Jvm.Cond.code ({ cls := "java/lang/StringUTF16", name := "compress", desc := "([CII)[B" } : Jvm.MethodName) jdk_52_method_16_code (6 : Nat) (Option.some (Jvm.ClassFile.FieldType.array Jvm.ClassFile.FieldType.byte))).before args0 about1 = true := code_word (m := ⟨8, 2⟩) (meth := k8m2) (c := k8c2) (by decide +kernel) rfl rfl rfl (by decide +kernel)
set_option maxRecDepth 65536 in
theorem w_c7 : (Jvm.Cond.code ({ cls := "java/lang/StringUTF16", name := "compress", desc := "([CI[BII)I" } : Jvm.MethodName) jdk_52_method_21_code (7 : Nat) (Option.some Jvm.ClassFile.FieldType.int)).before args0 about1 = true := code_word (m := ⟨8, 3⟩) (meth := k8m3) (c := k8c3) (by decide +kernel) rfl rfl rfl (by decide +kernel)
set_option maxRecDepth 65536 in
theorem w_c8 : (Jvm.Cond.code ({ cls := "java/lang/StringUTF16", name := "coderFromArrayLen", desc := "([BI)B" } : Jvm.MethodName) jdk_52_method_15_code (2 : Nat) (Option.some Jvm.ClassFile.FieldType.byte)).before args0 about1 = true := code_word (m := ⟨8, 1⟩) (meth := k8m1) (c := k8c1) (by decide +kernel) rfl rfl rfl (by decide +kernel)
set_option maxRecDepth 65536 in
theorem w_c9 : (Jvm.Cond.code ({ cls := "com/example/markmint/markmint/core/code/Gtin", name := "checkDigit", desc := "(Ljava/lang/String;)I" } : Jvm.MethodName) prog_16_method_3_code (4 : Nat) (Option.some Jvm.ClassFile.FieldType.int)).before args0 about1 = true := code_word (m := ⟨9, 1⟩) (meth := k9m1) (c := k9c1) (by decide +kernel) rfl rfl rfl (by decide +kernel)
set_option maxRecDepth 65536 in
theorem w_c10 : (Jvm.Cond.code ({ cls := "java/lang/String", name := "charAt", desc := "(I)C" } : Jvm.MethodName) jdk_42_method_56_code (2 : Nat) (Option.some Jvm.ClassFile.FieldType.char)).before args0 about1 = true := code_word (m := ⟨7, 2⟩) (meth := k7m2) (c := k7c2) (by decide +kernel) rfl rfl rfl (by decide +kernel)
set_option maxRecDepth 65536 in
theorem w_c11 : (Jvm.Cond.code ({ cls := "java/lang/String", name := "isLatin1", desc := "()Z" } : Jvm.MethodName) jdk_42_method_154_code (1 : Nat) (Option.some Jvm.ClassFile.FieldType.boolean)).before args0 about1 = true := code_word (m := ⟨7, 4⟩) (meth := k7m4) (c := k7c4) (by decide +kernel) rfl rfl rfl (by decide +kernel)
set_option maxRecDepth 65536 in
theorem w_c12 : (Jvm.Cond.code ({ cls := "java/lang/StringLatin1", name := "charAt", desc := "([BI)C" } : Jvm.MethodName) jdk_43_method_2_code (2 : Nat) (Option.some Jvm.ClassFile.FieldType.char)).before args0 about1 = true := code_word (m := ⟨10, 1⟩) (meth := k10m1) (c := k10c1) (by decide +kernel) rfl rfl rfl (by decide +kernel)
set_option maxRecDepth 65536 in
theorem w_c13 : (Jvm.Cond.code ({ cls := "java/lang/String", name := "checkIndex", desc := "(II)V" } : Jvm.MethodName) jdk_42_method_155_code (2 : Nat) (Option.none : Option Jvm.ClassFile.FieldType)).before args0 about1 = true := code_word (m := ⟨7, 5⟩) (meth := k7m5) (c := k7c5) (by decide +kernel) rfl rfl rfl (by decide +kernel)
set_option maxRecDepth 65536 in
theorem w_c14 : (Jvm.Cond.code ({ cls := "jdk/internal/util/Preconditions", name := "checkIndex", desc := "(IILjava/util/function/BiFunction;)I" } : Jvm.MethodName) jdk_41_method_11_code (3 : Nat) (Option.some Jvm.ClassFile.FieldType.int)).before args0 about1 = true := code_word (m := ⟨11, 1⟩) (meth := k11m1) (c := k11c1) (by decide +kernel) rfl rfl rfl (by decide +kernel)
def codes1 : List Jvm.Cond := [Jvm.Cond.code x code maxLocals ret, Jvm.Cond.code ({ cls := "com/example/markmint/markmint/core/code/GtinCheckDigitPinLaw", name := "d", desc := "(JI)I" } : Jvm.MethodName) method_2_code (3 : Nat) (Option.some Jvm.ClassFile.FieldType.int), Jvm.Cond.code ({ cls := "com/example/markmint/markmint/core/code/GtinCheckDigitPinLaw", name := "ch", desc := "(I)C" } : Jvm.MethodName) method_3_code (1 : Nat) (Option.some Jvm.ClassFile.FieldType.char), Jvm.Cond.code ({ cls := "java/lang/String", name := "<init>", desc := "([C)V" } : Jvm.MethodName) jdk_42_method_3_code (2 : Nat) (Option.none : Option Jvm.ClassFile.FieldType), Jvm.Cond.code ({ cls := "java/lang/String", name := "<init>", desc := "([CIILjava/lang/Void;)V" } : Jvm.MethodName) jdk_42_method_149_code (6 : Nat) (Option.none : Option Jvm.ClassFile.FieldType), Jvm.Cond.code ({ cls := "java/lang/Object", name := "<init>", desc := "()V" } : Jvm.MethodName) object_method_1_code (1 : Nat) (Option.none : Option Jvm.ClassFile.FieldType), Jvm.Cond.code ({ cls := "java/lang/StringUTF16", name := "compress", desc := "([CII)[B" } : Jvm.MethodName) jdk_52_method_16_code (6 : Nat) (Option.some (Jvm.ClassFile.FieldType.array Jvm.ClassFile.FieldType.byte)), Jvm.Cond.code ({ cls := "java/lang/StringUTF16", name := "compress", desc := "([CI[BII)I" } : Jvm.MethodName) jdk_52_method_21_code (7 : Nat) (Option.some Jvm.ClassFile.FieldType.int), Jvm.Cond.code ({ cls := "java/lang/StringUTF16", name := "coderFromArrayLen", desc := "([BI)B" } : Jvm.MethodName) jdk_52_method_15_code (2 : Nat) (Option.some Jvm.ClassFile.FieldType.byte), Jvm.Cond.code ({ cls := "com/example/markmint/markmint/core/code/Gtin", name := "checkDigit", desc := "(Ljava/lang/String;)I" } : Jvm.MethodName) prog_16_method_3_code (4 : Nat) (Option.some Jvm.ClassFile.FieldType.int), Jvm.Cond.code ({ cls := "java/lang/String", name := "charAt", desc := "(I)C" } : Jvm.MethodName) jdk_42_method_56_code (2 : Nat) (Option.some Jvm.ClassFile.FieldType.char), Jvm.Cond.code ({ cls := "java/lang/String", name := "isLatin1", desc := "()Z" } : Jvm.MethodName) jdk_42_method_154_code (1 : Nat) (Option.some Jvm.ClassFile.FieldType.boolean), Jvm.Cond.code ({ cls := "java/lang/StringLatin1", name := "charAt", desc := "([BI)C" } : Jvm.MethodName) jdk_43_method_2_code (2 : Nat) (Option.some Jvm.ClassFile.FieldType.char), Jvm.Cond.code ({ cls := "java/lang/String", name := "checkIndex", desc := "(II)V" } : Jvm.MethodName) jdk_42_method_155_code (2 : Nat) (Option.none : Option Jvm.ClassFile.FieldType), Jvm.Cond.code ({ cls := "jdk/internal/util/Preconditions", name := "checkIndex", desc := "(IILjava/util/function/BiFunction;)I" } : Jvm.MethodName) jdk_41_method_11_code (3 : Nat) (Option.some Jvm.ClassFile.FieldType.int)]
set_option maxRecDepth 65536 in
theorem codes_eq : words1.filter isCode = codes1 := rfl
theorem w_codes : ∀ c ∈ words1.filter isCode, c.before args0 about1 = true := by
  rw [codes_eq]
  intro c hc
  simp only [codes1, List.mem_cons, List.not_mem_nil, or_false] at hc
  rcases hc with rfl | rfl | rfl | rfl | rfl | rfl | rfl | rfl | rfl | rfl | rfl | rfl | rfl | rfl | rfl
  · exact w_c0
  · exact w_c1
  · exact w_c2
  · exact w_c3
  · exact w_c4
  · exact w_c5
  · exact w_c6
  · exact w_c7
  · exact w_c8
  · exact w_c9
  · exact w_c10
  · exact w_c11
  · exact w_c12
  · exact w_c13
  · exact w_c14
set_option maxRecDepth 65536 in
theorem w_t1 : (words1.take 24).all (fun c => isCode c || c.before args0 about1) = true := by decide +kernel
set_option maxRecDepth 65536 in
theorem w_t2 : ((words1.drop 24).take 24).all (fun c => isCode c || c.before args0 about1) = true := by decide +kernel
set_option maxRecDepth 65536 in
theorem w_t3 : ((words1.drop 24).drop 24).all (fun c => isCode c || c.before args0 about1) = true := by decide +kernel
theorem w_tables : (allAtoms (Jvm.Cond.code x code maxLocals ret :: tables_1)).before args0 about1 = true := by
  rw [allAtoms_all]
  show words1.all (fun c => c.before args0 about1) = true
  refine all_split ?_ w_codes
  rw [← List.take_append_drop 24 words1, List.all_append, w_t1, ← List.take_append_drop 24 (words1.drop 24), List.all_append, w_t2, w_t3]
  rfl
set_option maxRecDepth 65536 in
theorem w_rest : rest_1_c.before args0 about1 = true := by decide +kernel
set_option maxRecDepth 65536 in
theorem w_case : (Jvm.Cond.and given_1 narrow_1).before args0 about1 = true := by decide +kernel
theorem w_applies : (headSpec (Jvm.Cond.code x code maxLocals ret :: tables_1) room_1).applies x e0.platform about1 = true :=
  (Spec.applies_iff w_frames).mpr ⟨w_running, w_runnable, w_alone, w_named, w_hears, w_ripe, w_room, w_tables⟩
theorem atStart : AtStart classFile x code maxLocals ret World_1 tables_1 room_1 Calls_1 rest_1 Pre_1 launch0 p0 e0 about1 theMethod args0 below0 :=
  ⟨lists_1, trivial, launch0.admits_env _ _ _, launch0.least_env, fairChoices_fair.cas, fairChoices_fair.clock, w_frames, w_args, w_heap, w_applies, trivial, w_rest, w_case⟩
end start1
theorem witness_1 : WitnessClaimed_1 := ⟨start1.p0, start1.e0, start1.about1, start1.theMethod, start1.args0, start1.below0, start1.atStart⟩
end Jvm.Pilot.@@N@@
