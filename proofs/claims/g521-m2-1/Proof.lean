import JvmDerived
import JvmDerived.Pilot.@@N@@Statement
import JvmDerived.Pilot.@@N@@Code
set_option linter.unusedVariables false
set_option linter.unusedSimpArgs false
namespace Jvm.Own
open Sem ClassFile Op Lib Jvm.Stand Jvm.Free Jvm.LawKit Jvm.RoadKit
/-- the run goes on from the frame g over T and comes to an end of which P holds -/
def Go (p : Program) (e : Env) (below : List Frame) (P : Outcome → State → Prop) (T : State) (g : JFrame) : Prop :=
  ∃ U o, Steps p.tables e below (T.setTop g) U ∧ U.status = .running ∧ Ended U below o ∧ P o U
/-- what a body's end says: it returned v; it wrote in new cells alone, kept the heap h0 but for ws and the start's heap whole; Q of what it returned and of the heap -/
def PostOf (Z s : State) (h0 : Heap) (ws : List Addr) (kc ks : Nat) (Q : Option Value → Heap → Prop) (o : Outcome) (U : State) : Prop :=
  ∃ v L, o = .returned v ∧ (Fr Z.heap.size L ∧ Keep h0 U.heap ws ∧ Ext Z.heap U.heap ∧ Q v U.heap) ∧ FrameEnd s o U L kc ks
/-- a body's contract for the arguments as at the heap h0 -/
def OMeets (l : Launch) (Z : State) (y : MethodName) (bytes : ByteArray) (nl : Nat) (ret : Option FieldType) (R : Room) (as : Array Value) (h0 : Heap) (ws : List Addr) (Q : Option Value → Heap → Prop) : Prop :=
  ∀ wd : List Jvm.Cond, MetFree l y (head1 (Jvm.Cond.code y bytes nl ret :: wd) R) (fun a U => a = as ∧ Z.Warmed39 U.vm ∧ U.heap = h0) (fun _ _ _ _ _ => True)
    (fun _ U o U' => PostOf Z U h0 ws R.cells R.slots Q o U')
/-- where the run of one body stands: what is fixed, the library's Stand, the heap, what was written, what is kept -/
def St (p : Program) (l : Launch) (e : Env) (R : Room) (s : State) (m : MethodId) (args : Array Value) (below : List Frame) (meth : Method) (c : Code) (Z : State) (own : String) (bytes : ByteArray) (nl : Nat) (ret : Option FieldType) (nm : String)
    (h0 : Heap) (ws : List Addr) (T : State) (h : Heap) (locs : List Loc) (cells slots : Nat) : Prop :=
  (p.tables.exec = Jvm.exec ∧ c.code = bytes ∧ c.maxLocals = nl ∧ Z.Warmed39 s.vm ∧ s.vm.findClass own = some m.cls ∧ meth.sig.returnType = ret ∧ meth.locks = false ∧ meth.name = nm) ∧
  Stand p l e R s m args below meth c T locs cells slots ∧ T.heap = h ∧ Fr Z.heap.size locs ∧ Keep h0 h ws ∧ Ext Z.heap h
section Steps
variable {p : Program} {l : Launch} {e : Env} {R : Room} {s : State} {m : MethodId} {args : Array Value} {below : List Frame} {meth : Method} {c : Code} {Z : State} {own : String} {bytes : ByteArray} {nl : Nat} {ret : Option FieldType} {nm : String}
  {h0 : Heap} {ws : List Addr} {T : State} {h : Heap} {locs : List Loc} {cells slots : Nat} {P : Outcome → State → Prop} {pc pc' : Nat} {Ls Ls' : Array Slot} {st : List Value} {a0 : Array Value}
theorem off0 {a b : Nat} {o : Int} (h : (a : Int) + o = (b : Int)) : 0 ≤ (a : Int) + o := by omega
theorem off1 {a b : Nat} {o : Int} (h : (a : Int) + o = (b : Int)) : ((a : Int) + o).toNat = b := by omega
theorem Go.of {T' : State} {g g' : JFrame} (k : Go p e below P T' g') (f : ∀ t, Steps p.tables e below (T'.setTop g') t → Steps p.tables e below (T.setTop g) t) : Go p e below P T g := by
  obtain ⟨U, o, h1, h2⟩ := k
  exact ⟨U, o, f _ h1, h2⟩
theorem Go.imp {g : JFrame} {P' : Outcome → State → Prop} (k : Go p e below P T g) (f : ∀ o U, P o U → P' o U) : Go p e below P' T g := by
  obtain ⟨U, o, h1, h2, h3, h4⟩ := k
  exact ⟨U, o, h1, h2, h3, f _ _ h4⟩
theorem St.ex (S : St p l e R s m args below meth c Z own bytes nl ret nm h0 ws T h locs cells slots) : p.tables.exec = Jvm.exec := S.1.1
theorem St.hd (S : St p l e R s m args below meth c Z own bytes nl ret nm h0 ws T h locs cells slots) {r : Except DecodeError (Instr × Nat)} (h2 : decode bytes pc = r) : decode c.code pc = r := S.1.2.1 ▸ h2
theorem St.hnl (S : St p l e R s m args below meth c Z own bytes nl ret nm h0 ws T h locs cells slots) : c.maxLocals = nl := S.1.2.2.1
theorem St.hZ (S : St p l e R s m args below meth c Z own bytes nl ret nm h0 ws T h locs cells slots) : Z.Warmed39 s.vm := S.1.2.2.2.1
theorem St.hown (S : St p l e R s m args below meth c Z own bytes nl ret nm h0 ws T h locs cells slots) : s.vm.findClass own = some m.cls := S.1.2.2.2.2.1
theorem St.hret (S : St p l e R s m args below meth c Z own bytes nl ret nm h0 ws T h locs cells slots) : meth.sig.returnType = ret := S.1.2.2.2.2.2.1
theorem St.locks (S : St p l e R s m args below meth c Z own bytes nl ret nm h0 ws T h locs cells slots) : meth.locks = false := S.1.2.2.2.2.2.2.1
theorem St.hnm (S : St p l e R s m args below meth c Z own bytes nl ret nm h0 ws T h locs cells slots) : meth.name = nm := S.1.2.2.2.2.2.2.2
theorem St.X (S : St p l e R s m args below meth c Z own bytes nl ret nm h0 ws T h locs cells slots) : Stand p l e R s m args below meth c T locs cells slots := S.2.1
theorem St.eT (S : St p l e R s m args below meth c Z own bytes nl ret nm h0 ws T h locs cells slots) : T.heap = h := S.2.2.1
theorem St.fr (S : St p l e R s m args below meth c Z own bytes nl ret nm h0 ws T h locs cells slots) : Fr Z.heap.size locs := S.2.2.2.1
theorem St.keep (S : St p l e R s m args below meth c Z own bytes nl ret nm h0 ws T h locs cells slots) : Keep h0 h ws := S.2.2.2.2.1
theorem St.ext (S : St p l e R s m args below meth c Z own bytes nl ret nm h0 ws T h locs cells slots) : Ext Z.heap h := S.2.2.2.2.2
theorem St.more (S : St p l e R s m args below meth c Z own bytes nl ret nm h0 ws T h locs cells slots) {cells' slots' : Nat} (hc : cells ≤ cells') (hs : slots ≤ slots') : St p l e R s m args below meth c Z own bytes nl ret nm h0 ws T h locs cells' slots' := ⟨S.1, S.X.more hc hs, S.2.2⟩
theorem St.next (S : St p l e R s m args below meth c Z own bytes nl ret nm h0 ws T h locs cells slots) {T' : State} {h' : Heap} {locs' : List Loc} {cells' slots' : Nat} (X : Stand p l e R s m args below meth c T' locs' cells' slots') (e1 : T'.heap = h') (N : Fr Z.heap.size locs') (K : Keep h0 h' ws) (E : Ext Z.heap h') : St p l e R s m args below meth c Z own bytes nl ret nm h0 ws T' h' locs' cells' slots' := ⟨S.1, X, e1, N, K, E⟩
theorem Go.iloadN (S : St p l e R s m args below meth c Z own bytes nl ret nm h0 ws T h locs cells slots) {k : Fin 4} {v : Int32} (hd : decode bytes pc = .ok (.iload_n k, 1)) (hl : Ls[k.val]? = some (.val (.int v))) (hp : pc + 1 = pc') (k : Go p e below P T (mkF m pc' Ls (.int v :: st))) : Go p e below P T (mkF m pc Ls st) := by
  subst hp
  exact k.of fun t q => XS.iloadN S.X.here S.ex rfl (S.hd hd) hl q
theorem Go.iload (S : St p l e R s m args below meth c Z own bytes nl ret nm h0 ws T h locs cells slots) {k : Nat} {v : Int32} (hd : decode bytes pc = .ok (.iload k, 2)) (hl : Ls[k]? = some (.val (.int v))) (hp : pc + 2 = pc') (k : Go p e below P T (mkF m pc' Ls (.int v :: st))) : Go p e below P T (mkF m pc Ls st) := by
  subst hp
  exact k.of fun t q => XS.iload S.X.here S.ex rfl (S.hd hd) hl q
theorem Go.istoreN (S : St p l e R s m args below meth c Z own bytes nl ret nm h0 ws T h locs cells slots) {k : Fin 4} {v : Int32} (hd : decode bytes pc = .ok (.istore_n k, 1)) (hl : storeLocals Ls k.val (.int v) = some Ls') (hp : pc + 1 = pc') (k : Go p e below P T (mkF m pc' Ls' st)) : Go p e below P T (mkF m pc Ls (.int v :: st)) := by
  subst hp
  exact k.of fun t q => XS.istoreN S.X.here S.ex rfl (S.hd hd) rfl hl q
theorem Go.istore (S : St p l e R s m args below meth c Z own bytes nl ret nm h0 ws T h locs cells slots) {k : Nat} {v : Int32} (hd : decode bytes pc = .ok (.istore k, 2)) (hl : storeLocals Ls k (.int v) = some Ls') (hp : pc + 2 = pc') (k : Go p e below P T (mkF m pc' Ls' st)) : Go p e below P T (mkF m pc Ls (.int v :: st)) := by
  subst hp
  exact k.of fun t q => XS.istore S.X.here S.ex rfl (S.hd hd) rfl hl q
theorem Go.lloadN (S : St p l e R s m args below meth c Z own bytes nl ret nm h0 ws T h locs cells slots) {k : Fin 4} {v : Int64} (hd : decode bytes pc = .ok (.lload_n k, 1)) (hl : Ls[k.val]? = some (.val (.long v))) (hp : pc + 1 = pc') (k : Go p e below P T (mkF m pc' Ls (.long v :: st))) : Go p e below P T (mkF m pc Ls st) := by
  subst hp
  exact k.of fun t q => XS.lloadN S.X.here S.ex rfl (S.hd hd) hl q
theorem Go.lload (S : St p l e R s m args below meth c Z own bytes nl ret nm h0 ws T h locs cells slots) {k : Nat} {v : Int64} (hd : decode bytes pc = .ok (.lload k, 2)) (hl : Ls[k]? = some (.val (.long v))) (hp : pc + 2 = pc') (k : Go p e below P T (mkF m pc' Ls (.long v :: st))) : Go p e below P T (mkF m pc Ls st) := by
  subst hp
  exact k.of fun t q => XS.lload S.X.here S.ex rfl (S.hd hd) hl q
theorem Go.lstoreN (S : St p l e R s m args below meth c Z own bytes nl ret nm h0 ws T h locs cells slots) {k : Fin 4} {v : Int64} (hd : decode bytes pc = .ok (.lstore_n k, 1)) (hl : storeLocals Ls k.val (.long v) = some Ls') (hp : pc + 1 = pc') (k : Go p e below P T (mkF m pc' Ls' st)) : Go p e below P T (mkF m pc Ls (.long v :: st)) := by
  subst hp
  exact k.of fun t q => XS.lstoreN S.X.here S.ex rfl (S.hd hd) rfl hl q
theorem Go.lstore (S : St p l e R s m args below meth c Z own bytes nl ret nm h0 ws T h locs cells slots) {k : Nat} {v : Int64} (hd : decode bytes pc = .ok (.lstore k, 2)) (hl : storeLocals Ls k (.long v) = some Ls') (hp : pc + 2 = pc') (k : Go p e below P T (mkF m pc' Ls' st)) : Go p e below P T (mkF m pc Ls (.long v :: st)) := by
  subst hp
  exact k.of fun t q => XS.lstore S.X.here S.ex rfl (S.hd hd) rfl hl q
theorem Go.aloadN (S : St p l e R s m args below meth c Z own bytes nl ret nm h0 ws T h locs cells slots) {k : Fin 4} {v : Value} (hd : decode bytes pc = .ok (.aload_n k, 1)) (hl : Ls[k.val]? = some (.val v)) (hr : v.isRef = true) (hp : pc + 1 = pc') (k : Go p e below P T (mkF m pc' Ls (v :: st))) : Go p e below P T (mkF m pc Ls st) := by
  subst hp
  exact k.of fun t q => XS.aloadN S.X.here S.ex rfl (S.hd hd) hl hr q
theorem Go.aload (S : St p l e R s m args below meth c Z own bytes nl ret nm h0 ws T h locs cells slots) {k : Nat} {v : Value} (hd : decode bytes pc = .ok (.aload k, 2)) (hl : Ls[k]? = some (.val v)) (hr : v.isRef = true) (hp : pc + 2 = pc') (k : Go p e below P T (mkF m pc' Ls (v :: st))) : Go p e below P T (mkF m pc Ls st) := by
  subst hp
  exact k.of fun t q => XS.aload S.X.here S.ex rfl (S.hd hd) hl hr q
theorem Go.astoreN (S : St p l e R s m args below meth c Z own bytes nl ret nm h0 ws T h locs cells slots) {k : Fin 4} {v : Value} (hd : decode bytes pc = .ok (.astore_n k, 1)) (hr : v.isRef = true) (hl : storeLocals Ls k.val v = some Ls') (hp : pc + 1 = pc') (k : Go p e below P T (mkF m pc' Ls' st)) : Go p e below P T (mkF m pc Ls (v :: st)) := by
  subst hp
  exact k.of fun t q => XS.astoreN S.X.here S.ex rfl (S.hd hd) rfl hr hl q
theorem Go.astore (S : St p l e R s m args below meth c Z own bytes nl ret nm h0 ws T h locs cells slots) {k : Nat} {v : Value} (hd : decode bytes pc = .ok (.astore k, 2)) (hr : v.isRef = true) (hl : storeLocals Ls k v = some Ls') (hp : pc + 2 = pc') (k : Go p e below P T (mkF m pc' Ls' st)) : Go p e below P T (mkF m pc Ls (v :: st)) := by
  subst hp
  exact k.of fun t q => XS.astore S.X.here S.ex rfl (S.hd hd) rfl hr hl q
theorem Go.iconst (S : St p l e R s m args below meth c Z own bytes nl ret nm h0 ws T h locs cells slots) {i : Int} {v : Int32} (hd : decode bytes pc = .ok (.iconst i, 1)) (hv : Int32.ofInt i = v) (hp : pc + 1 = pc') (k : Go p e below P T (mkF m pc' Ls (.int v :: st))) : Go p e below P T (mkF m pc Ls st) := by
  subst hp hv
  exact k.of fun t q => XS.iconst S.X.here S.ex rfl (S.hd hd) q
theorem Go.bipush (S : St p l e R s m args below meth c Z own bytes nl ret nm h0 ws T h locs cells slots) {i : Int} {v : Int32} (hd : decode bytes pc = .ok (.bipush i, 2)) (hv : (Int8.ofInt i).toInt32 = v) (hp : pc + 2 = pc') (k : Go p e below P T (mkF m pc' Ls (.int v :: st))) : Go p e below P T (mkF m pc Ls st) := by
  subst hp hv
  exact k.of fun t q => XS.bipush S.X.here S.ex rfl (S.hd hd) q
theorem Go.sipush (S : St p l e R s m args below meth c Z own bytes nl ret nm h0 ws T h locs cells slots) {i : Int} {v : Int32} (hd : decode bytes pc = .ok (.sipush i, 3)) (hv : (Int16.ofInt i).toInt32 = v) (hp : pc + 3 = pc') (k : Go p e below P T (mkF m pc' Ls (.int v :: st))) : Go p e below P T (mkF m pc Ls st) := by
  subst hp hv
  exact k.of fun t q => XS.sipush S.X.here S.ex rfl (S.hd hd) q
theorem Go.lconst (S : St p l e R s m args below meth c Z own bytes nl ret nm h0 ws T h locs cells slots) {i : Fin 2} {v : Int64} (hd : decode bytes pc = .ok (.lconst i, 1)) (hv : Int64.ofNat i = v) (hp : pc + 1 = pc') (k : Go p e below P T (mkF m pc' Ls (.long v :: st))) : Go p e below P T (mkF m pc Ls st) := by
  subst hp hv
  exact k.of fun t q => XS.lconst S.X.here S.ex rfl (S.hd hd) q
theorem Go.aconst_null (S : St p l e R s m args below meth c Z own bytes nl ret nm h0 ws T h locs cells slots)  (hd : decode bytes pc = .ok (.aconst_null, 1)) (hp : pc + 1 = pc') (k : Go p e below P T (mkF m pc' Ls (.null :: st))) : Go p e below P T (mkF m pc Ls st) := by
  subst hp
  exact k.of fun t q => XS.aconstNull S.X.here S.ex rfl (S.hd hd) q
theorem Go.iadd (S : St p l e R s m args below meth c Z own bytes nl ret nm h0 ws T h locs cells slots) {x y : Int32} (hd : decode bytes pc = .ok (.iadd, 1)) (hp : pc + 1 = pc') (k : Go p e below P T (mkF m pc' Ls (.int (x + y) :: st))) : Go p e below P T (mkF m pc Ls (.int y :: .int x :: st)) := by
  subst hp
  exact k.of fun t q => XS.iadd S.X.here S.ex rfl (S.hd hd) rfl q
theorem Go.ladd (S : St p l e R s m args below meth c Z own bytes nl ret nm h0 ws T h locs cells slots) {x y : Int64} (hd : decode bytes pc = .ok (.ladd, 1)) (hp : pc + 1 = pc') (k : Go p e below P T (mkF m pc' Ls (.long (x + y) :: st))) : Go p e below P T (mkF m pc Ls (.long y :: .long x :: st)) := by
  subst hp
  exact k.of fun t q => XS.ladd S.X.here S.ex rfl (S.hd hd) rfl q
theorem Go.isub (S : St p l e R s m args below meth c Z own bytes nl ret nm h0 ws T h locs cells slots) {x y : Int32} (hd : decode bytes pc = .ok (.isub, 1)) (hp : pc + 1 = pc') (k : Go p e below P T (mkF m pc' Ls (.int (x - y) :: st))) : Go p e below P T (mkF m pc Ls (.int y :: .int x :: st)) := by
  subst hp
  exact k.of fun t q => XS.isub S.X.here S.ex rfl (S.hd hd) rfl q
theorem Go.lsub (S : St p l e R s m args below meth c Z own bytes nl ret nm h0 ws T h locs cells slots) {x y : Int64} (hd : decode bytes pc = .ok (.lsub, 1)) (hp : pc + 1 = pc') (k : Go p e below P T (mkF m pc' Ls (.long (x - y) :: st))) : Go p e below P T (mkF m pc Ls (.long y :: .long x :: st)) := by
  subst hp
  exact k.of fun t q => XS.lsub S.X.here S.ex rfl (S.hd hd) rfl q
theorem Go.imul (S : St p l e R s m args below meth c Z own bytes nl ret nm h0 ws T h locs cells slots) {x y : Int32} (hd : decode bytes pc = .ok (.imul, 1)) (hp : pc + 1 = pc') (k : Go p e below P T (mkF m pc' Ls (.int (x * y) :: st))) : Go p e below P T (mkF m pc Ls (.int y :: .int x :: st)) := by
  subst hp
  exact k.of fun t q => XS.imul S.X.here S.ex rfl (S.hd hd) rfl q
theorem Go.lmul (S : St p l e R s m args below meth c Z own bytes nl ret nm h0 ws T h locs cells slots) {x y : Int64} (hd : decode bytes pc = .ok (.lmul, 1)) (hp : pc + 1 = pc') (k : Go p e below P T (mkF m pc' Ls (.long (x * y) :: st))) : Go p e below P T (mkF m pc Ls (.long y :: .long x :: st)) := by
  subst hp
  exact k.of fun t q => XS.lmul S.X.here S.ex rfl (S.hd hd) rfl q
theorem Go.iand (S : St p l e R s m args below meth c Z own bytes nl ret nm h0 ws T h locs cells slots) {x y : Int32} (hd : decode bytes pc = .ok (.iand, 1)) (hp : pc + 1 = pc') (k : Go p e below P T (mkF m pc' Ls (.int (x &&& y) :: st))) : Go p e below P T (mkF m pc Ls (.int y :: .int x :: st)) := by
  subst hp
  exact k.of fun t q => XS.iand S.X.here S.ex rfl (S.hd hd) rfl q
theorem Go.land (S : St p l e R s m args below meth c Z own bytes nl ret nm h0 ws T h locs cells slots) {x y : Int64} (hd : decode bytes pc = .ok (.land, 1)) (hp : pc + 1 = pc') (k : Go p e below P T (mkF m pc' Ls (.long (x &&& y) :: st))) : Go p e below P T (mkF m pc Ls (.long y :: .long x :: st)) := by
  subst hp
  exact k.of fun t q => XS.land S.X.here S.ex rfl (S.hd hd) rfl q
theorem Go.ior (S : St p l e R s m args below meth c Z own bytes nl ret nm h0 ws T h locs cells slots) {x y : Int32} (hd : decode bytes pc = .ok (.ior, 1)) (hp : pc + 1 = pc') (k : Go p e below P T (mkF m pc' Ls (.int (x ||| y) :: st))) : Go p e below P T (mkF m pc Ls (.int y :: .int x :: st)) := by
  subst hp
  exact k.of fun t q => XS.ior S.X.here S.ex rfl (S.hd hd) rfl q
theorem Go.lor (S : St p l e R s m args below meth c Z own bytes nl ret nm h0 ws T h locs cells slots) {x y : Int64} (hd : decode bytes pc = .ok (.lor, 1)) (hp : pc + 1 = pc') (k : Go p e below P T (mkF m pc' Ls (.long (x ||| y) :: st))) : Go p e below P T (mkF m pc Ls (.long y :: .long x :: st)) := by
  subst hp
  exact k.of fun t q => XS.lor S.X.here S.ex rfl (S.hd hd) rfl q
theorem Go.ixor (S : St p l e R s m args below meth c Z own bytes nl ret nm h0 ws T h locs cells slots) {x y : Int32} (hd : decode bytes pc = .ok (.ixor, 1)) (hp : pc + 1 = pc') (k : Go p e below P T (mkF m pc' Ls (.int (x ^^^ y) :: st))) : Go p e below P T (mkF m pc Ls (.int y :: .int x :: st)) := by
  subst hp
  exact k.of fun t q => XS.ixor S.X.here S.ex rfl (S.hd hd) rfl q
theorem Go.lxor (S : St p l e R s m args below meth c Z own bytes nl ret nm h0 ws T h locs cells slots) {x y : Int64} (hd : decode bytes pc = .ok (.lxor, 1)) (hp : pc + 1 = pc') (k : Go p e below P T (mkF m pc' Ls (.long (x ^^^ y) :: st))) : Go p e below P T (mkF m pc Ls (.long y :: .long x :: st)) := by
  subst hp
  exact k.of fun t q => XS.lxor S.X.here S.ex rfl (S.hd hd) rfl q
theorem Go.ishl (S : St p l e R s m args below meth c Z own bytes nl ret nm h0 ws T h locs cells slots) {x : Int32} {y : Int32} (hd : decode bytes pc = .ok (.ishl, 1)) (hp : pc + 1 = pc') (k : Go p e below P T (mkF m pc' Ls (.int (x <<< (y &&& 31)) :: st))) : Go p e below P T (mkF m pc Ls (.int y :: .int x :: st)) := by
  subst hp
  exact k.of fun t q => XS.ishl S.X.here S.ex rfl (S.hd hd) rfl q
theorem Go.ishr (S : St p l e R s m args below meth c Z own bytes nl ret nm h0 ws T h locs cells slots) {x : Int32} {y : Int32} (hd : decode bytes pc = .ok (.ishr, 1)) (hp : pc + 1 = pc') (k : Go p e below P T (mkF m pc' Ls (.int (x >>> (y &&& 31)) :: st))) : Go p e below P T (mkF m pc Ls (.int y :: .int x :: st)) := by
  subst hp
  exact k.of fun t q => XS.ishr S.X.here S.ex rfl (S.hd hd) rfl q
theorem Go.iushr (S : St p l e R s m args below meth c Z own bytes nl ret nm h0 ws T h locs cells slots) {x : Int32} {y : Int32} (hd : decode bytes pc = .ok (.iushr, 1)) (hp : pc + 1 = pc') (k : Go p e below P T (mkF m pc' Ls (.int ((x.toUInt32 >>> (y &&& 31).toUInt32).toInt32) :: st))) : Go p e below P T (mkF m pc Ls (.int y :: .int x :: st)) := by
  subst hp
  exact k.of fun t q => XS.iushr S.X.here S.ex rfl (S.hd hd) rfl q
theorem Go.lshl (S : St p l e R s m args below meth c Z own bytes nl ret nm h0 ws T h locs cells slots) {x : Int64} {y : Int32} (hd : decode bytes pc = .ok (.lshl, 1)) (hp : pc + 1 = pc') (k : Go p e below P T (mkF m pc' Ls (.long (x <<< (y &&& 0x3f).toInt64) :: st))) : Go p e below P T (mkF m pc Ls (.int y :: .long x :: st)) := by
  subst hp
  exact k.of fun t q => XS.lshl S.X.here S.ex rfl (S.hd hd) rfl q
theorem Go.lshr (S : St p l e R s m args below meth c Z own bytes nl ret nm h0 ws T h locs cells slots) {x : Int64} {y : Int32} (hd : decode bytes pc = .ok (.lshr, 1)) (hp : pc + 1 = pc') (k : Go p e below P T (mkF m pc' Ls (.long (x >>> (y &&& 0x3f).toInt64) :: st))) : Go p e below P T (mkF m pc Ls (.int y :: .long x :: st)) := by
  subst hp
  exact k.of fun t q => XS.lshr S.X.here S.ex rfl (S.hd hd) rfl q
theorem Go.lushr (S : St p l e R s m args below meth c Z own bytes nl ret nm h0 ws T h locs cells slots) {x : Int64} {y : Int32} (hd : decode bytes pc = .ok (.lushr, 1)) (hp : pc + 1 = pc') (k : Go p e below P T (mkF m pc' Ls (.long ((x.toUInt64 >>> (y &&& 0x3f).toInt64.toUInt64).toInt64) :: st))) : Go p e below P T (mkF m pc Ls (.int y :: .long x :: st)) := by
  subst hp
  exact k.of fun t q => XS.lushr S.X.here S.ex rfl (S.hd hd) rfl q
theorem Go.i2l (S : St p l e R s m args below meth c Z own bytes nl ret nm h0 ws T h locs cells slots) {x : Int32} (hd : decode bytes pc = .ok (.i2l, 1)) (hp : pc + 1 = pc') (k : Go p e below P T (mkF m pc' Ls (.long (x.toInt64) :: st))) : Go p e below P T (mkF m pc Ls (.int x :: st)) := by
  subst hp
  exact k.of fun t q => XS.i2l S.X.here S.ex rfl (S.hd hd) rfl q
theorem Go.l2i (S : St p l e R s m args below meth c Z own bytes nl ret nm h0 ws T h locs cells slots) {x : Int64} (hd : decode bytes pc = .ok (.l2i, 1)) (hp : pc + 1 = pc') (k : Go p e below P T (mkF m pc' Ls (.int (x.toInt32) :: st))) : Go p e below P T (mkF m pc Ls (.long x :: st)) := by
  subst hp
  exact k.of fun t q => XS.l2i S.X.here S.ex rfl (S.hd hd) rfl q
theorem Go.i2b (S : St p l e R s m args below meth c Z own bytes nl ret nm h0 ws T h locs cells slots) {x : Int32} (hd : decode bytes pc = .ok (.i2b, 1)) (hp : pc + 1 = pc') (k : Go p e below P T (mkF m pc' Ls (.int (x.toInt8.toInt32) :: st))) : Go p e below P T (mkF m pc Ls (.int x :: st)) := by
  subst hp
  exact k.of fun t q => XS.i2b S.X.here S.ex rfl (S.hd hd) rfl q
theorem Go.i2s (S : St p l e R s m args below meth c Z own bytes nl ret nm h0 ws T h locs cells slots) {x : Int32} (hd : decode bytes pc = .ok (.i2s, 1)) (hp : pc + 1 = pc') (k : Go p e below P T (mkF m pc' Ls (.int (x.toInt16.toInt32) :: st))) : Go p e below P T (mkF m pc Ls (.int x :: st)) := by
  subst hp
  exact k.of fun t q => XS.i2s S.X.here S.ex rfl (S.hd hd) rfl q
theorem Go.i2c (S : St p l e R s m args below meth c Z own bytes nl ret nm h0 ws T h locs cells slots) {x : Int32} (hd : decode bytes pc = .ok (.i2c, 1)) (hp : pc + 1 = pc') (k : Go p e below P T (mkF m pc' Ls (.int (x.toUInt32.toUInt16.toUInt32.toInt32) :: st))) : Go p e below P T (mkF m pc Ls (.int x :: st)) := by
  subst hp
  exact k.of fun t q => XS.i2c S.X.here S.ex rfl (S.hd hd) rfl q
theorem Go.ineg (S : St p l e R s m args below meth c Z own bytes nl ret nm h0 ws T h locs cells slots) {x : Int32} (hd : decode bytes pc = .ok (.ineg, 1)) (hp : pc + 1 = pc') (k : Go p e below P T (mkF m pc' Ls (.int (-x) :: st))) : Go p e below P T (mkF m pc Ls (.int x :: st)) := by
  subst hp
  exact k.of fun t q => XS.ineg S.X.here S.ex rfl (S.hd hd) rfl q
theorem Go.lneg (S : St p l e R s m args below meth c Z own bytes nl ret nm h0 ws T h locs cells slots) {x : Int64} (hd : decode bytes pc = .ok (.lneg, 1)) (hp : pc + 1 = pc') (k : Go p e below P T (mkF m pc' Ls (.long (-x) :: st))) : Go p e below P T (mkF m pc Ls (.long x :: st)) := by
  subst hp
  exact k.of fun t q => XS.lneg S.X.here S.ex rfl (S.hd hd) rfl q
theorem Go.idiv (S : St p l e R s m args below meth c Z own bytes nl ret nm h0 ws T h locs cells slots) {x y : Int32} (hd : decode bytes pc = .ok (.idiv, 1)) (hy : y ≠ 0) (hp : pc + 1 = pc') (k : Go p e below P T (mkF m pc' Ls (.int (x / y) :: st))) : Go p e below P T (mkF m pc Ls (.int y :: .int x :: st)) := by
  subst hp
  exact k.of fun t q => XS.idiv S.X.here S.ex rfl (S.hd hd) rfl hy q
theorem Go.ldiv (S : St p l e R s m args below meth c Z own bytes nl ret nm h0 ws T h locs cells slots) {x y : Int64} (hd : decode bytes pc = .ok (.ldiv, 1)) (hy : y ≠ 0) (hp : pc + 1 = pc') (k : Go p e below P T (mkF m pc' Ls (.long (x / y) :: st))) : Go p e below P T (mkF m pc Ls (.long y :: .long x :: st)) := by
  subst hp
  exact k.of fun t q => XS.ldiv S.X.here S.ex rfl (S.hd hd) rfl hy q
theorem Go.irem (S : St p l e R s m args below meth c Z own bytes nl ret nm h0 ws T h locs cells slots) {x y : Int32} (hd : decode bytes pc = .ok (.irem, 1)) (hy : y ≠ 0) (hp : pc + 1 = pc') (k : Go p e below P T (mkF m pc' Ls (.int (x % y) :: st))) : Go p e below P T (mkF m pc Ls (.int y :: .int x :: st)) := by
  subst hp
  exact k.of fun t q => Jvm.RoadKit.iremM S.X S.ex rfl (S.hd hd) rfl hy q
theorem Go.lrem (S : St p l e R s m args below meth c Z own bytes nl ret nm h0 ws T h locs cells slots) {x y : Int64} (hd : decode bytes pc = .ok (.lrem, 1)) (hy : y ≠ 0) (hp : pc + 1 = pc') (k : Go p e below P T (mkF m pc' Ls (.long (x % y) :: st))) : Go p e below P T (mkF m pc Ls (.long y :: .long x :: st)) := by
  subst hp
  rw [← lrem_mod] at k
  exact k.of fun t q => XS.lrem S.X.here S.ex rfl (S.hd hd) rfl hy q
theorem Go.iinc (S : St p l e R s m args below meth c Z own bytes nl ret nm h0 ws T h locs cells slots) {k : Nat} {cst : Int} {x : Int32} (hd : decode bytes pc = .ok (.iinc k cst, 3)) (hl : Ls[k]? = some (.val (.int x))) (hl' : storeLocals Ls k (.int (x + Int32.ofInt cst)) = some Ls') (hp : pc + 3 = pc') (k : Go p e below P T (mkF m pc' Ls' st)) : Go p e below P T (mkF m pc Ls st) := by
  subst hp
  exact k.of fun t q => XS.iinc S.X.here S.ex rfl (S.hd hd) hl hl' q
theorem Go.dup (S : St p l e R s m args below meth c Z own bytes nl ret nm h0 ws T h locs cells slots) {x : Value} (hd : decode bytes pc = .ok (.dup, 1)) (hc : x.category = 1) (hp : pc + 1 = pc') (k : Go p e below P T (mkF m pc' Ls (x :: x :: st))) : Go p e below P T (mkF m pc Ls (x :: st)) := by
  subst hp
  exact k.of fun t q => XS.dup S.X.here S.ex rfl (S.hd hd) rfl hc q
theorem Go.pop (S : St p l e R s m args below meth c Z own bytes nl ret nm h0 ws T h locs cells slots) {x : Value} (hd : decode bytes pc = .ok (.pop, 1)) (hc : x.category = 1) (hp : pc + 1 = pc') (k : Go p e below P T (mkF m pc' Ls st)) : Go p e below P T (mkF m pc Ls (x :: st)) := by
  subst hp
  exact k.of fun t q => XS.pop S.X.here S.ex rfl (S.hd hd) rfl hc q
theorem Go.dup_x1 (S : St p l e R s m args below meth c Z own bytes nl ret nm h0 ws T h locs cells slots) {x y : Value} (hd : decode bytes pc = .ok (.dup_x1, 1)) (hc : x.category = 1) (hc' : y.category = 1) (hp : pc + 1 = pc') (k : Go p e below P T (mkF m pc' Ls (x :: y :: x :: st))) : Go p e below P T (mkF m pc Ls (x :: y :: st)) := by
  subst hp
  exact k.of fun t q => XS.dupX1 S.X.here S.ex rfl (S.hd hd) rfl hc hc' q
theorem Go.goto (S : St p l e R s m args below meth c Z own bytes nl ret nm h0 ws T h locs cells slots) {o : Int} (hd : decode bytes pc = .ok (.goto o, 3)) (hp : (pc : Int) + o = (pc' : Int)) (k : Go p e below P T (mkF m pc' Ls st)) : Go p e below P T (mkF m pc Ls st) :=
  k.of fun t q => XS.goto S.X.here S.ex rfl (pc0 := pc) rfl (S.hd hd) (off0 hp) (off1 hp) q
theorem Go.if_eq (S : St p l e R s m args below meth c Z own bytes nl ret nm h0 ws T h locs cells slots) {x : Int32} {o : Int} {pt : Nat} (hd : decode bytes pc = .ok (.ifCond .eq o, 3)) (ht : (pc : Int) + o = (pt : Int)) (hf : pc + 3 = pc') (ky : x = 0 → Go p e below P T (mkF m pt Ls st)) (kn : ¬ x = 0 → Go p e below P T (mkF m pc' Ls st)) : Go p e below P T (mkF m pc Ls (.int x :: st)) := by
  subst hf
  by_cases q : x = 0
  · exact (ky q).of fun t q' => XS.ifYes S.X.here S.ex rfl (pc0 := pc) rfl (S.hd hd) rfl (Jvm.Free.XT.i0_eq_t q) (off0 ht) (off1 ht) q'
  · exact (kn q).of fun t q' => XS.ifNo S.X.here S.ex rfl (S.hd hd) rfl (Jvm.Free.XT.i0_eq_f q) q'
theorem Go.icmp_eq (S : St p l e R s m args below meth c Z own bytes nl ret nm h0 ws T h locs cells slots) {x y : Int32} {o : Int} {pt : Nat} (hd : decode bytes pc = .ok (.if_icmp .eq o, 3)) (ht : (pc : Int) + o = (pt : Int)) (hf : pc + 3 = pc') (ky : x = y → Go p e below P T (mkF m pt Ls st)) (kn : ¬ x = y → Go p e below P T (mkF m pc' Ls st)) : Go p e below P T (mkF m pc Ls (.int y :: .int x :: st)) := by
  subst hf
  by_cases q : x = y
  · exact (ky q).of fun t q' => XS.icmpYes S.X.here S.ex rfl (pc0 := pc) rfl (S.hd hd) rfl (Jvm.Free.XT.ii_eq_t q) (off0 ht) (off1 ht) q'
  · exact (kn q).of fun t q' => XS.icmpNo S.X.here S.ex rfl (S.hd hd) rfl (Jvm.Free.XT.ii_eq_f q) q'
theorem Go.lcmp_eq (S : St p l e R s m args below meth c Z own bytes nl ret nm h0 ws T h locs cells slots) {x y : Int64} {o : Int} {pt : Nat} {pc1 : Nat} (hd1 : decode bytes pc = .ok (.lcmp, 1)) (h1 : pc + 1 = pc1) (hd : decode bytes pc1 = .ok (.ifCond .eq o, 3)) (ht : (pc1 : Int) + o = (pt : Int)) (hf : pc1 + 3 = pc') (ky : x = y → Go p e below P T (mkF m pt Ls st)) (kn : ¬ x = y → Go p e below P T (mkF m pc' Ls st)) : Go p e below P T (mkF m pc Ls (.long y :: .long x :: st)) := by
  subst hf h1
  by_cases q : x = y
  · exact (ky q).of fun t q' => Jvm.Free.XT.lcmp S.X.here S.ex rfl (S.hd hd1) rfl (XS.ifYes S.X.here S.ex rfl (pc0 := pc + 1) rfl (S.hd hd) rfl (Jvm.Free.XT.ll_eq_t q) (off0 ht) (off1 ht) q')
  · exact (kn q).of fun t q' => Jvm.Free.XT.lcmp S.X.here S.ex rfl (S.hd hd1) rfl (XS.ifNo S.X.here S.ex rfl (S.hd hd) rfl (Jvm.Free.XT.ll_eq_f q) q')
theorem Go.if_ne (S : St p l e R s m args below meth c Z own bytes nl ret nm h0 ws T h locs cells slots) {x : Int32} {o : Int} {pt : Nat} (hd : decode bytes pc = .ok (.ifCond .ne o, 3)) (ht : (pc : Int) + o = (pt : Int)) (hf : pc + 3 = pc') (ky : ¬ x = 0 → Go p e below P T (mkF m pt Ls st)) (kn : x = 0 → Go p e below P T (mkF m pc' Ls st)) : Go p e below P T (mkF m pc Ls (.int x :: st)) := by
  subst hf
  by_cases q : x = 0
  · exact (kn q).of fun t q' => XS.ifNo S.X.here S.ex rfl (S.hd hd) rfl (Jvm.Free.XT.i0_ne_f q) q'
  · exact (ky q).of fun t q' => XS.ifYes S.X.here S.ex rfl (pc0 := pc) rfl (S.hd hd) rfl (Jvm.Free.XT.i0_ne_t q) (off0 ht) (off1 ht) q'
theorem Go.icmp_ne (S : St p l e R s m args below meth c Z own bytes nl ret nm h0 ws T h locs cells slots) {x y : Int32} {o : Int} {pt : Nat} (hd : decode bytes pc = .ok (.if_icmp .ne o, 3)) (ht : (pc : Int) + o = (pt : Int)) (hf : pc + 3 = pc') (ky : ¬ x = y → Go p e below P T (mkF m pt Ls st)) (kn : x = y → Go p e below P T (mkF m pc' Ls st)) : Go p e below P T (mkF m pc Ls (.int y :: .int x :: st)) := by
  subst hf
  by_cases q : x = y
  · exact (kn q).of fun t q' => XS.icmpNo S.X.here S.ex rfl (S.hd hd) rfl (Jvm.Free.XT.ii_ne_f q) q'
  · exact (ky q).of fun t q' => XS.icmpYes S.X.here S.ex rfl (pc0 := pc) rfl (S.hd hd) rfl (Jvm.Free.XT.ii_ne_t q) (off0 ht) (off1 ht) q'
theorem Go.lcmp_ne (S : St p l e R s m args below meth c Z own bytes nl ret nm h0 ws T h locs cells slots) {x y : Int64} {o : Int} {pt : Nat} {pc1 : Nat} (hd1 : decode bytes pc = .ok (.lcmp, 1)) (h1 : pc + 1 = pc1) (hd : decode bytes pc1 = .ok (.ifCond .ne o, 3)) (ht : (pc1 : Int) + o = (pt : Int)) (hf : pc1 + 3 = pc') (ky : ¬ x = y → Go p e below P T (mkF m pt Ls st)) (kn : x = y → Go p e below P T (mkF m pc' Ls st)) : Go p e below P T (mkF m pc Ls (.long y :: .long x :: st)) := by
  subst hf h1
  by_cases q : x = y
  · exact (kn q).of fun t q' => Jvm.Free.XT.lcmp S.X.here S.ex rfl (S.hd hd1) rfl (XS.ifNo S.X.here S.ex rfl (S.hd hd) rfl (Jvm.Free.XT.ll_ne_f q) q')
  · exact (ky q).of fun t q' => Jvm.Free.XT.lcmp S.X.here S.ex rfl (S.hd hd1) rfl (XS.ifYes S.X.here S.ex rfl (pc0 := pc + 1) rfl (S.hd hd) rfl (Jvm.Free.XT.ll_ne_t q) (off0 ht) (off1 ht) q')
theorem Go.if_lt (S : St p l e R s m args below meth c Z own bytes nl ret nm h0 ws T h locs cells slots) {x : Int32} {o : Int} {pt : Nat} (hd : decode bytes pc = .ok (.ifCond .lt o, 3)) (ht : (pc : Int) + o = (pt : Int)) (hf : pc + 3 = pc') (ky : x < 0 → Go p e below P T (mkF m pt Ls st)) (kn : ¬ x < 0 → Go p e below P T (mkF m pc' Ls st)) : Go p e below P T (mkF m pc Ls (.int x :: st)) := by
  subst hf
  by_cases q : x < 0
  · exact (ky q).of fun t q' => XS.ifYes S.X.here S.ex rfl (pc0 := pc) rfl (S.hd hd) rfl (Jvm.Free.XT.i0_lt_t q) (off0 ht) (off1 ht) q'
  · exact (kn q).of fun t q' => XS.ifNo S.X.here S.ex rfl (S.hd hd) rfl (Jvm.Free.XT.i0_lt_f q) q'
theorem Go.icmp_lt (S : St p l e R s m args below meth c Z own bytes nl ret nm h0 ws T h locs cells slots) {x y : Int32} {o : Int} {pt : Nat} (hd : decode bytes pc = .ok (.if_icmp .lt o, 3)) (ht : (pc : Int) + o = (pt : Int)) (hf : pc + 3 = pc') (ky : x < y → Go p e below P T (mkF m pt Ls st)) (kn : ¬ x < y → Go p e below P T (mkF m pc' Ls st)) : Go p e below P T (mkF m pc Ls (.int y :: .int x :: st)) := by
  subst hf
  by_cases q : x < y
  · exact (ky q).of fun t q' => XS.icmpYes S.X.here S.ex rfl (pc0 := pc) rfl (S.hd hd) rfl (Jvm.Free.XT.ii_lt_t q) (off0 ht) (off1 ht) q'
  · exact (kn q).of fun t q' => XS.icmpNo S.X.here S.ex rfl (S.hd hd) rfl (Jvm.Free.XT.ii_lt_f q) q'
theorem Go.lcmp_lt (S : St p l e R s m args below meth c Z own bytes nl ret nm h0 ws T h locs cells slots) {x y : Int64} {o : Int} {pt : Nat} {pc1 : Nat} (hd1 : decode bytes pc = .ok (.lcmp, 1)) (h1 : pc + 1 = pc1) (hd : decode bytes pc1 = .ok (.ifCond .lt o, 3)) (ht : (pc1 : Int) + o = (pt : Int)) (hf : pc1 + 3 = pc') (ky : x < y → Go p e below P T (mkF m pt Ls st)) (kn : ¬ x < y → Go p e below P T (mkF m pc' Ls st)) : Go p e below P T (mkF m pc Ls (.long y :: .long x :: st)) := by
  subst hf h1
  by_cases q : x < y
  · exact (ky q).of fun t q' => Jvm.Free.XT.lcmp S.X.here S.ex rfl (S.hd hd1) rfl (XS.ifYes S.X.here S.ex rfl (pc0 := pc + 1) rfl (S.hd hd) rfl (Jvm.Free.XT.ll_lt_t q) (off0 ht) (off1 ht) q')
  · exact (kn q).of fun t q' => Jvm.Free.XT.lcmp S.X.here S.ex rfl (S.hd hd1) rfl (XS.ifNo S.X.here S.ex rfl (S.hd hd) rfl (Jvm.Free.XT.ll_lt_f q) q')
theorem Go.if_ge (S : St p l e R s m args below meth c Z own bytes nl ret nm h0 ws T h locs cells slots) {x : Int32} {o : Int} {pt : Nat} (hd : decode bytes pc = .ok (.ifCond .ge o, 3)) (ht : (pc : Int) + o = (pt : Int)) (hf : pc + 3 = pc') (ky : ¬ x < 0 → Go p e below P T (mkF m pt Ls st)) (kn : x < 0 → Go p e below P T (mkF m pc' Ls st)) : Go p e below P T (mkF m pc Ls (.int x :: st)) := by
  subst hf
  by_cases q : x < 0
  · exact (kn q).of fun t q' => XS.ifNo S.X.here S.ex rfl (S.hd hd) rfl (Jvm.Free.XT.i0_ge_f q) q'
  · exact (ky q).of fun t q' => XS.ifYes S.X.here S.ex rfl (pc0 := pc) rfl (S.hd hd) rfl (Jvm.Free.XT.i0_ge_t q) (off0 ht) (off1 ht) q'
theorem Go.icmp_ge (S : St p l e R s m args below meth c Z own bytes nl ret nm h0 ws T h locs cells slots) {x y : Int32} {o : Int} {pt : Nat} (hd : decode bytes pc = .ok (.if_icmp .ge o, 3)) (ht : (pc : Int) + o = (pt : Int)) (hf : pc + 3 = pc') (ky : ¬ x < y → Go p e below P T (mkF m pt Ls st)) (kn : x < y → Go p e below P T (mkF m pc' Ls st)) : Go p e below P T (mkF m pc Ls (.int y :: .int x :: st)) := by
  subst hf
  by_cases q : x < y
  · exact (kn q).of fun t q' => XS.icmpNo S.X.here S.ex rfl (S.hd hd) rfl (Jvm.Free.XT.ii_ge_f q) q'
  · exact (ky q).of fun t q' => XS.icmpYes S.X.here S.ex rfl (pc0 := pc) rfl (S.hd hd) rfl (Jvm.Free.XT.ii_ge_t q) (off0 ht) (off1 ht) q'
theorem Go.lcmp_ge (S : St p l e R s m args below meth c Z own bytes nl ret nm h0 ws T h locs cells slots) {x y : Int64} {o : Int} {pt : Nat} {pc1 : Nat} (hd1 : decode bytes pc = .ok (.lcmp, 1)) (h1 : pc + 1 = pc1) (hd : decode bytes pc1 = .ok (.ifCond .ge o, 3)) (ht : (pc1 : Int) + o = (pt : Int)) (hf : pc1 + 3 = pc') (ky : ¬ x < y → Go p e below P T (mkF m pt Ls st)) (kn : x < y → Go p e below P T (mkF m pc' Ls st)) : Go p e below P T (mkF m pc Ls (.long y :: .long x :: st)) := by
  subst hf h1
  by_cases q : x < y
  · exact (kn q).of fun t q' => Jvm.Free.XT.lcmp S.X.here S.ex rfl (S.hd hd1) rfl (XS.ifNo S.X.here S.ex rfl (S.hd hd) rfl (Jvm.Free.XT.ll_ge_f q) q')
  · exact (ky q).of fun t q' => Jvm.Free.XT.lcmp S.X.here S.ex rfl (S.hd hd1) rfl (XS.ifYes S.X.here S.ex rfl (pc0 := pc + 1) rfl (S.hd hd) rfl (Jvm.Free.XT.ll_ge_t q) (off0 ht) (off1 ht) q')
theorem Go.if_gt (S : St p l e R s m args below meth c Z own bytes nl ret nm h0 ws T h locs cells slots) {x : Int32} {o : Int} {pt : Nat} (hd : decode bytes pc = .ok (.ifCond .gt o, 3)) (ht : (pc : Int) + o = (pt : Int)) (hf : pc + 3 = pc') (ky : 0 < x → Go p e below P T (mkF m pt Ls st)) (kn : ¬ 0 < x → Go p e below P T (mkF m pc' Ls st)) : Go p e below P T (mkF m pc Ls (.int x :: st)) := by
  subst hf
  by_cases q : 0 < x
  · exact (ky q).of fun t q' => XS.ifYes S.X.here S.ex rfl (pc0 := pc) rfl (S.hd hd) rfl (Jvm.Free.XT.i0_gt_t q) (off0 ht) (off1 ht) q'
  · exact (kn q).of fun t q' => XS.ifNo S.X.here S.ex rfl (S.hd hd) rfl (Jvm.Free.XT.i0_gt_f q) q'
theorem Go.icmp_gt (S : St p l e R s m args below meth c Z own bytes nl ret nm h0 ws T h locs cells slots) {x y : Int32} {o : Int} {pt : Nat} (hd : decode bytes pc = .ok (.if_icmp .gt o, 3)) (ht : (pc : Int) + o = (pt : Int)) (hf : pc + 3 = pc') (ky : y < x → Go p e below P T (mkF m pt Ls st)) (kn : ¬ y < x → Go p e below P T (mkF m pc' Ls st)) : Go p e below P T (mkF m pc Ls (.int y :: .int x :: st)) := by
  subst hf
  by_cases q : y < x
  · exact (ky q).of fun t q' => XS.icmpYes S.X.here S.ex rfl (pc0 := pc) rfl (S.hd hd) rfl (Jvm.Free.XT.ii_gt_t q) (off0 ht) (off1 ht) q'
  · exact (kn q).of fun t q' => XS.icmpNo S.X.here S.ex rfl (S.hd hd) rfl (Jvm.Free.XT.ii_gt_f q) q'
theorem Go.lcmp_gt (S : St p l e R s m args below meth c Z own bytes nl ret nm h0 ws T h locs cells slots) {x y : Int64} {o : Int} {pt : Nat} {pc1 : Nat} (hd1 : decode bytes pc = .ok (.lcmp, 1)) (h1 : pc + 1 = pc1) (hd : decode bytes pc1 = .ok (.ifCond .gt o, 3)) (ht : (pc1 : Int) + o = (pt : Int)) (hf : pc1 + 3 = pc') (ky : y < x → Go p e below P T (mkF m pt Ls st)) (kn : ¬ y < x → Go p e below P T (mkF m pc' Ls st)) : Go p e below P T (mkF m pc Ls (.long y :: .long x :: st)) := by
  subst hf h1
  by_cases q : y < x
  · exact (ky q).of fun t q' => Jvm.Free.XT.lcmp S.X.here S.ex rfl (S.hd hd1) rfl (XS.ifYes S.X.here S.ex rfl (pc0 := pc + 1) rfl (S.hd hd) rfl (Jvm.Free.XT.ll_gt_t q) (off0 ht) (off1 ht) q')
  · exact (kn q).of fun t q' => Jvm.Free.XT.lcmp S.X.here S.ex rfl (S.hd hd1) rfl (XS.ifNo S.X.here S.ex rfl (S.hd hd) rfl (Jvm.Free.XT.ll_gt_f q) q')
theorem Go.if_le (S : St p l e R s m args below meth c Z own bytes nl ret nm h0 ws T h locs cells slots) {x : Int32} {o : Int} {pt : Nat} (hd : decode bytes pc = .ok (.ifCond .le o, 3)) (ht : (pc : Int) + o = (pt : Int)) (hf : pc + 3 = pc') (ky : ¬ 0 < x → Go p e below P T (mkF m pt Ls st)) (kn : 0 < x → Go p e below P T (mkF m pc' Ls st)) : Go p e below P T (mkF m pc Ls (.int x :: st)) := by
  subst hf
  by_cases q : 0 < x
  · exact (kn q).of fun t q' => XS.ifNo S.X.here S.ex rfl (S.hd hd) rfl (Jvm.Free.XT.i0_le_f q) q'
  · exact (ky q).of fun t q' => XS.ifYes S.X.here S.ex rfl (pc0 := pc) rfl (S.hd hd) rfl (Jvm.Free.XT.i0_le_t q) (off0 ht) (off1 ht) q'
theorem Go.icmp_le (S : St p l e R s m args below meth c Z own bytes nl ret nm h0 ws T h locs cells slots) {x y : Int32} {o : Int} {pt : Nat} (hd : decode bytes pc = .ok (.if_icmp .le o, 3)) (ht : (pc : Int) + o = (pt : Int)) (hf : pc + 3 = pc') (ky : ¬ y < x → Go p e below P T (mkF m pt Ls st)) (kn : y < x → Go p e below P T (mkF m pc' Ls st)) : Go p e below P T (mkF m pc Ls (.int y :: .int x :: st)) := by
  subst hf
  by_cases q : y < x
  · exact (kn q).of fun t q' => XS.icmpNo S.X.here S.ex rfl (S.hd hd) rfl (Jvm.Free.XT.ii_le_f q) q'
  · exact (ky q).of fun t q' => XS.icmpYes S.X.here S.ex rfl (pc0 := pc) rfl (S.hd hd) rfl (Jvm.Free.XT.ii_le_t q) (off0 ht) (off1 ht) q'
theorem Go.lcmp_le (S : St p l e R s m args below meth c Z own bytes nl ret nm h0 ws T h locs cells slots) {x y : Int64} {o : Int} {pt : Nat} {pc1 : Nat} (hd1 : decode bytes pc = .ok (.lcmp, 1)) (h1 : pc + 1 = pc1) (hd : decode bytes pc1 = .ok (.ifCond .le o, 3)) (ht : (pc1 : Int) + o = (pt : Int)) (hf : pc1 + 3 = pc') (ky : ¬ y < x → Go p e below P T (mkF m pt Ls st)) (kn : y < x → Go p e below P T (mkF m pc' Ls st)) : Go p e below P T (mkF m pc Ls (.long y :: .long x :: st)) := by
  subst hf h1
  by_cases q : y < x
  · exact (kn q).of fun t q' => Jvm.Free.XT.lcmp S.X.here S.ex rfl (S.hd hd1) rfl (XS.ifNo S.X.here S.ex rfl (S.hd hd) rfl (Jvm.Free.XT.ll_le_f q) q')
  · exact (ky q).of fun t q' => Jvm.Free.XT.lcmp S.X.here S.ex rfl (S.hd hd1) rfl (XS.ifYes S.X.here S.ex rfl (pc0 := pc + 1) rfl (S.hd hd) rfl (Jvm.Free.XT.ll_le_t q) (off0 ht) (off1 ht) q')
theorem Go.acmp_eq (S : St p l e R s m args below meth c Z own bytes nl ret nm h0 ws T h locs cells slots) {x y : Value} {o : Int} {pt : Nat} (hd : decode bytes pc = .ok (.if_acmp .eq o, 3)) (ht : (pc : Int) + o = (pt : Int)) (hf : pc + 3 = pc') (rx : x.isRef = true) (ry : y.isRef = true) (ky : x = y → Go p e below P T (mkF m pt Ls st)) (kn : ¬ x = y → Go p e below P T (mkF m pc' Ls st)) : Go p e below P T (mkF m pc Ls (y :: x :: st)) := by
  subst hf
  by_cases q : x = y
  · exact (ky q).of fun t q' => Jvm.RoadKit.acmp (g := mkF m pc Ls (y :: x :: st)) S.X S.ex rfl rx ry (pc0 := pc) (same := true) rfl (S.hd hd) rfl (decide_eq_true q) (off0 ht) ((off1 ht).symm.trans (if_pos rfl).symm) q'
  · exact (kn q).of fun t q' => Jvm.RoadKit.acmp (g := mkF m pc Ls (y :: x :: st)) S.X S.ex rfl rx ry (pc0 := pc) (same := false) rfl (S.hd hd) rfl (decide_eq_false q) (off0 ht) ((if_neg (fun z => nomatch z)).symm) q'
theorem Go.acmp_ne (S : St p l e R s m args below meth c Z own bytes nl ret nm h0 ws T h locs cells slots) {x y : Value} {o : Int} {pt : Nat} (hd : decode bytes pc = .ok (.if_acmp .ne o, 3)) (ht : (pc : Int) + o = (pt : Int)) (hf : pc + 3 = pc') (rx : x.isRef = true) (ry : y.isRef = true) (ky : ¬ x = y → Go p e below P T (mkF m pt Ls st)) (kn : x = y → Go p e below P T (mkF m pc' Ls st)) : Go p e below P T (mkF m pc Ls (y :: x :: st)) := by
  subst hf
  by_cases q : x = y
  · exact (kn q).of fun t q' => Jvm.RoadKit.acmp (g := mkF m pc Ls (y :: x :: st)) S.X S.ex rfl rx ry (pc0 := pc) (same := true) rfl (S.hd hd) rfl (decide_eq_true q) (off0 ht) ((if_neg (fun z => nomatch z)).symm) q'
  · exact (ky q).of fun t q' => Jvm.RoadKit.acmp (g := mkF m pc Ls (y :: x :: st)) S.X S.ex rfl rx ry (pc0 := pc) (same := false) rfl (S.hd hd) rfl (decide_eq_false q) (off0 ht) ((off1 ht).symm.trans (if_pos rfl).symm) q'
theorem Go.ifnullY (S : St p l e R s m args below meth c Z own bytes nl ret nm h0 ws T h locs cells slots) {o : Int} {pt : Nat} (hd : decode bytes pc = .ok (.ifnull o, 3)) (ht : (pc : Int) + o = (pt : Int)) (k : Go p e below P T (mkF m pt Ls st)) : Go p e below P T (mkF m pc Ls (.null :: st)) :=
  k.of fun t q => XS.ifnullYes S.X.here S.ex rfl (pc0 := pc) rfl (S.hd hd) rfl (off0 ht) (off1 ht) q
theorem Go.ifnullN (S : St p l e R s m args below meth c Z own bytes nl ret nm h0 ws T h locs cells slots) {o : Int} {b : Addr} (hd : decode bytes pc = .ok (.ifnull o, 3)) (hf : pc + 3 = pc') (k : Go p e below P T (mkF m pc' Ls st)) : Go p e below P T (mkF m pc Ls (.ref b :: st)) := by
  subst hf
  exact k.of fun t q => XS.ifnullNo S.X.here S.ex rfl (S.hd hd) rfl q
theorem Go.ifnonnullY (S : St p l e R s m args below meth c Z own bytes nl ret nm h0 ws T h locs cells slots) {o : Int} {pt : Nat} {b : Addr} (hd : decode bytes pc = .ok (.ifnonnull o, 3)) (ht : (pc : Int) + o = (pt : Int)) (k : Go p e below P T (mkF m pt Ls st)) : Go p e below P T (mkF m pc Ls (.ref b :: st)) :=
  k.of fun t q => XS.ifnonnullYes S.X.here S.ex rfl (pc0 := pc) rfl (S.hd hd) rfl (off0 ht) (off1 ht) q
theorem Go.ifnonnullN (S : St p l e R s m args below meth c Z own bytes nl ret nm h0 ws T h locs cells slots) {o : Int} (hd : decode bytes pc = .ok (.ifnonnull o, 3)) (hf : pc + 3 = pc') (k : Go p e below P T (mkF m pc' Ls st)) : Go p e below P T (mkF m pc Ls (.null :: st)) := by
  subst hf
  exact k.of fun t q => XS.ifnonnullNo S.X.here S.ex rfl (S.hd hd) rfl q
theorem Go.ldc (S : St p l e R s m args below meth c Z own bytes nl ret nm h0 ws T h locs cells slots) {index : Nat} {v : Int32} (w : (Jvm.Cond.constant own index v).before a0 Z = true) (hd : decode bytes pc = .ok (.ldc index, 2)) (hp : pc + 2 = pc') (k : Go p e below P T (mkF m pc' Ls (.int v :: st))) : Go p e below P T (mkF m pc Ls st) := by
  subst hp
  exact k.of fun t q => S.X.ldcInt S.ex S.hown (mvT S.hZ w) (g := mkF m pc Ls st) rfl (S.hd hd) _ q
theorem Go.ldc2 (S : St p l e R s m args below meth c Z own bytes nl ret nm h0 ws T h locs cells slots) {index : Nat} {v : Int64} (w : (Jvm.Cond.constantLong own index v).before a0 Z = true) (hd : decode bytes pc = .ok (.ldc2_w index, 3)) (hp : pc + 3 = pc') (k : Go p e below P T (mkF m pc' Ls (.long v :: st))) : Go p e below P T (mkF m pc Ls st) := by
  subst hp
  exact k.of fun t q => S.X.ldc2Long S.ex S.hown (mvT S.hZ w) (g := mkF m pc Ls st) rfl (S.hd hd) _ q
theorem Go.leaves (S : St p l e R s m args below meth c Z own bytes nl ret nm h0 ws T h locs cells slots) {kc ks : Nat} {Q : Option Value → Heap → Prop} {g : JFrame} {v : Option Value} (hv : ret = none → v = none) (hc : cells ≤ kc) (hs : slots ≤ ks)
    (step : ∀ fs : List Frame, (∀ (f : JFrame) (acts : List Action), f.method = m → f.locked = none → f.entered = [] → (doReturn e (T.setTop f) acts v).1 = T.setFrames fs) → Steps p.tables e below (T.setTop g) (T.setFrames fs)) (q : Q v h) : Go p e below (PostOf Z s h0 ws kc ks Q) T g := by
  obtain ⟨fs, hr, hrun, hended, hW, hsame⟩ := S.X.leave (v := v) (fun q => hv (S.hret ▸ q)) S.locks
  refine ⟨_, _, step fs hr, hrun, hended, v, locs, rfl, ⟨S.fr, ?_, ?_, ?_⟩, ⟨_, rfl⟩, hW, hsame.mono hc hs⟩
  · show Keep h0 T.heap ws
    rw [S.eT]; exact S.keep
  · show Ext Z.heap T.heap
    rw [S.eT]; exact S.ext
  · show Q v T.heap
    rw [S.eT]; exact q
theorem St.leaves0 (S : St p l e R s m args below meth c Z own bytes nl ret nm h0 ws T h locs cells slots) {kc ks : Nat} {Q : Option Value → Heap → Prop} {g : JFrame} {w : Value} {t : FieldType} (hret : ret = some t) (hc : cells ≤ kc) (hs : slots ≤ ks) (q : Q (some w) h)
    (step : ∀ fs : List Frame, (∀ (f : JFrame) (acts : List Action), f.method = m → f.locked = none → f.entered = [] → (doReturn e (T.setTop f) acts (some w)).1 = T.setFrames fs) → Steps p.tables e below (T.setTop g) (T.setFrames fs)) : Go p e below (PostOf Z s h0 ws kc ks Q) T g :=
  Go.leaves S (fun q => by rw [hret] at q; cases q) hc hs step q
theorem narrow_ref {t : FieldType} {w : Value} (ht : t.isReference = true) (hw : w.isRef = true) : narrow t w = w := by
  rcases ref_cases hw with rfl | ⟨a, rfl⟩ <;> cases t <;> rfl
theorem Go.ireturn (S : St p l e R s m args below meth c Z own bytes nl ret nm h0 ws T h locs cells slots) {kc ks : Nat} {Q : Option Value → Heap → Prop} {z : Int32} (hret : ret = some .int) (hd : decode bytes pc = .ok (.ireturn, 1)) (hc : cells ≤ kc) (hs : slots ≤ ks) (q : Q (some (.int z)) h) : Go p e below (PostOf Z s h0 ws kc ks Q) T (mkF m pc Ls (.int z :: st)) :=
  S.leaves0 hret hc hs q fun fs hr => retOut S.X S.ex (t := .int) (i := .ireturn) (S.hret.trans hret) rfl (Or.inl ⟨rfl, Or.inl rfl, z, rfl⟩) (S.hd hd) hr
theorem Go.lreturn (S : St p l e R s m args below meth c Z own bytes nl ret nm h0 ws T h locs cells slots) {kc ks : Nat} {Q : Option Value → Heap → Prop} {z : Int64} (hret : ret = some .long) (hd : decode bytes pc = .ok (.lreturn, 1)) (hc : cells ≤ kc) (hs : slots ≤ ks) (q : Q (some (.long z)) h) : Go p e below (PostOf Z s h0 ws kc ks Q) T (mkF m pc Ls (.long z :: st)) :=
  S.leaves0 hret hc hs q fun fs hr => retOut S.X S.ex (t := .long) (i := .lreturn) (S.hret.trans hret) rfl (Or.inr (Or.inl ⟨rfl, rfl, z, rfl⟩)) (S.hd hd) hr
theorem Go.areturn (S : St p l e R s m args below meth c Z own bytes nl ret nm h0 ws T h locs cells slots) {kc ks : Nat} {Q : Option Value → Heap → Prop} {w : Value} {t : FieldType} (hret : ret = some t) (ht : t.isReference = true) (hw : w.isRef = true) (hd : decode bytes pc = .ok (.areturn, 1)) (hc : cells ≤ kc) (hs : slots ≤ ks) (q : Q (some w) h) : Go p e below (PostOf Z s h0 ws kc ks Q) T (mkF m pc Ls (w :: st)) :=
  S.leaves0 hret hc hs q fun fs hr => retOut S.X S.ex (i := .areturn) (S.hret.trans hret) (narrow_ref ht hw) (Or.inr (Or.inr (Or.inr (Or.inr ⟨rfl, ht, hw⟩)))) (S.hd hd) hr
theorem Go.zreturn (S : St p l e R s m args below meth c Z own bytes nl ret nm h0 ws T h locs cells slots) {kc ks : Nat} {Q : Option Value → Heap → Prop} {z z' : Int32} {t : FieldType} (hret : ret = some t) (ht : t = .boolean ∨ t = .byte ∨ t = .char ∨ t = .short) (hd : decode bytes pc = .ok (.ireturn, 1)) (hz : nar t z = z') (hc : cells ≤ kc) (hs : slots ≤ ks) (q : Q (some (.int z')) h) : Go p e below (PostOf Z s h0 ws kc ks Q) T (mkF m pc Ls (.int z :: st)) := by
  subst hz
  exact S.leaves0 hret hc hs q fun fs hr => retN S.X S.ex (S.hret.trans hret) ht (S.hd hd) hr
theorem Go.vreturn (S : St p l e R s m args below meth c Z own bytes nl ret nm h0 ws T h locs cells slots) {kc ks : Nat} {Q : Option Value → Heap → Prop} (hret : ret = none) (hd : decode bytes pc = .ok (.return_, 1)) (hc : cells ≤ kc) (hs : slots ≤ ks) (q : Q none h) : Go p e below (PostOf Z s h0 ws kc ks Q) T (mkF m pc Ls []) :=
  Go.leaves S (fun _ => rfl) hc hs (fun fs hr => S.X.returnOut S.ex (S.hret.trans hret) (S.hd hd) hr) q
theorem Go.getfield (S : St p l e R s m args below meth c Z own bytes nl ret nm h0 ws T h locs cells slots) {R0 O n d host : String} {index : Nat} {a : Addr} {v : Value} (w : ((Jvm.Cond.fieldLink own index R0 n d).before a0 Z = true ∨ (Jvm.Cond.fieldLinkNest own index R0 n d host).before a0 Z = true)) (via : Via Z R0 O n d) (F : Fld Z h a O n d v) (hd : decode bytes pc = .ok (.getfield index, 3)) (hp : pc + 3 = pc')
    (k : ∀ T', St p l e R s m args below meth c Z own bytes nl ret nm h0 ws T' h locs cells slots → Go p e below P T' (mkF m pc' Ls (v :: st))) : Go p e below P T (mkF m pc Ls (.ref a :: st)) := by
  subst hp
  obtain ⟨T', X', e', f⟩ := getF S.X S.ex S.hZ S.hown w via S.eT F (g := mkF m pc Ls (.ref a :: st)) rfl rfl (S.hd hd)
  exact (k T' (S.next X' e' S.fr S.keep S.ext)).of f
theorem Go.getstatic (S : St p l e R s m args below meth c Z own bytes nl ret nm h0 ws T h locs cells slots) {R0 O n d host : String} {index : Nat} {v : Value} (w : ((Jvm.Cond.fieldLink own index R0 n d).before a0 Z = true ∨ (Jvm.Cond.fieldLinkNest own index R0 n d host).before a0 Z = true)) (via : Via Z R0 O n d) (F : Sta Z Z.heap O n d v) (hd : decode bytes pc = .ok (.getstatic index, 3)) (hp : pc + 3 = pc')
    (k : ∀ T', St p l e R s m args below meth c Z own bytes nl ret nm h0 ws T' h locs cells slots → Go p e below P T' (mkF m pc' Ls (v :: st))) : Go p e below P T (mkF m pc Ls st) := by
  subst hp
  obtain ⟨T', X', e', f⟩ := getS2 S.X S.ex S.hZ S.hown w via S.eT (F.ext S.ext) (g := mkF m pc Ls st) rfl (S.hd hd)
  exact (k T' (S.next X' e' S.fr S.keep S.ext)).of f
theorem St.wrote (S : St p l e R s m args below meth c Z own bytes nl ret nm h0 ws T h locs cells slots) {T' : State} {h' : Heap} {a : Addr} {sl : Nat} {v : Value} (X : Stand p l e R s m args below meth c T' (locs ++ [⟨a, sl⟩]) cells slots) (e1 : T'.heap = h') (W : Wr h h' a sl v) (hz : Z.heap.size ≤ a) (hws : a ∈ ws ∨ h0.size ≤ a) : St p l e R s m args below meth c Z own bytes nl ret nm h0 ws T' h' (locs ++ [⟨a, sl⟩]) cells slots :=
  S.next X e1 (Fr.snoc X S.fr hz) (S.keep.wr W hws) (Old.wr (n0 := Z.heap.size) ⟨rfl, S.ext⟩ W hz).2
theorem Go.putfield (S : St p l e R s m args below meth c Z own bytes nl ret nm h0 ws T h locs cells slots) {R0 O n d host C : String} {index kk : Nat} {ty : FieldType} {a : Addr} {v old : Value} (w : ((Jvm.Cond.fieldLink own index R0 n d).before a0 Z = true ∨ (Jvm.Cond.fieldLinkNest own index R0 n d host).before a0 Z = true)) (via : Via Z R0 O n d) (F : Fld Z h a O n d old) (E : Exa Z h a C)
    (L : (Jvm.Cond.lays C O n d).before a0 Z = true ∨ ((Jvm.Cond.laysFinal C O n d).before a0 Z = true ∧ own = O ∧ nm = "<init>")) (wi : (Jvm.Cond.instantiable C kk).before a0 Z = true) (hty : parseFieldDescriptor d = some ty) (hn : narrow ty v = v) (hf : fits ty v = true)
    (hz : Z.heap.size ≤ a) (hws : a ∈ ws ∨ h0.size ≤ a) (hd : decode bytes pc = .ok (.putfield index, 3)) (hp : pc + 3 = pc')
    (k : ∀ T' h' locs', St p l e R s m args below meth c Z own bytes nl ret nm h0 ws T' h' locs' cells slots → Wr h h' a (Jvm.RoadKit.slotOf Z O n d) v → Go p e below P T' (mkF m pc' Ls st)) : Go p e below P T (mkF m pc Ls (v :: .ref a :: st)) := by
  subst hp
  obtain ⟨T', h', X', e', W, f⟩ := putF S.X S.ex S.hZ S.hown w via S.eT F E (L.imp id fun q => ⟨q.1, q.2.1, S.hnm.trans q.2.2⟩) wi hty hn hf (g := mkF m pc Ls (v :: .ref a :: st)) rfl rfl (S.hd hd)
  exact (k T' h' _ (S.wrote X' e' W hz hws) W).of f
theorem Go.putfieldN (S : St p l e R s m args below meth c Z own bytes nl ret nm h0 ws T h locs cells slots) {R0 O n d C : String} {index kk : Nat} {ty : FieldType} {a : Addr} {v v' old : Value} (w : (Jvm.Cond.fieldLink own index R0 n d).before a0 Z = true) (via : Via Z R0 O n d) (F : Fld Z h a O n d old) (E : Exa Z h a C)
    (L : (Jvm.Cond.lays C O n d).before a0 Z = true ∨ ((Jvm.Cond.laysFinal C O n d).before a0 Z = true ∧ own = O ∧ nm = "<init>")) (wi : (Jvm.Cond.instantiable C kk).before a0 Z = true) (hty : parseFieldDescriptor d = some ty) (hn : narrow ty v = v') (hf : fits ty v' = true)
    (hz : Z.heap.size ≤ a) (hws : a ∈ ws ∨ h0.size ≤ a) (hd : decode bytes pc = .ok (.putfield index, 3)) (hp : pc + 3 = pc')
    (k : ∀ T' h' locs', St p l e R s m args below meth c Z own bytes nl ret nm h0 ws T' h' locs' cells slots → Wr h h' a (Jvm.RoadKit.slotOf Z O n d) v' → Go p e below P T' (mkF m pc' Ls st)) : Go p e below P T (mkF m pc Ls (v :: .ref a :: st)) := by
  subst hp
  obtain ⟨T', h', X', e', W, f⟩ := putFN S.X S.ex S.hZ S.hown w via S.eT F E (L.imp id fun q => ⟨q.1, q.2.1, S.hnm.trans q.2.2⟩) wi hty hn hf (g := mkF m pc Ls (v :: .ref a :: st)) rfl rfl (S.hd hd)
  exact (k T' h' _ (S.wrote X' e' W hz hws) W).of f
theorem St.made (S : St p l e R s m args below meth c Z own bytes nl ret nm h0 ws T h locs cells slots) {T' : State} {h' : Heap} {cells' slots' : Nat} (X : Stand p l e R s m args below meth c T' locs cells' slots') (e1 : T'.heap = h') (E : Ext h h') : St p l e R s m args below meth c Z own bytes nl ret nm h0 ws T' h' locs cells' slots' :=
  S.next X e1 S.fr (S.keep.ext E) (Old.ext (n0 := Z.heap.size) ⟨rfl, S.ext⟩ E).2
theorem Go.new (S : St p l e R s m args below meth c Z own bytes nl ret nm h0 ws T h locs cells slots) {C : String} {index n : Nat} (w : (Jvm.Cond.classLink own index C).before a0 Z = true) (wi : (Jvm.Cond.instantiable C n).before a0 Z = true) (wz : (Jvm.Cond.initialized C).before a0 Z = true) (hd : decode bytes pc = .ok (.new index, 3)) (hc : cells + 1 ≤ R.cells) (hl : slots + n ≤ R.slots) (hp : pc + 3 = pc')
    (k : ∀ T' h' a, St p l e R s m args below meth c Z own bytes nl ret nm h0 ws T' h' locs (cells + 1) (slots + n) → Ext h h' → h.size = a → Z.heap.size ≤ a → h0.size ≤ a → Exa Z h' a C → (∀ {O nm d : String} {ty : FieldType}, Laid Z a0 C O nm d → parseFieldDescriptor d = some ty → Fld Z h' a O nm d (defaultValue ty)) → Go p e below P T' (mkF m pc' Ls (.ref a :: st))) : Go p e below P T (mkF m pc Ls st) := by
  subst hp
  obtain ⟨T', h', X', e', E, A, D, -, f⟩ := newO S.X S.ex S.hZ S.hown w wi wz S.eT (g := mkF m pc Ls st) rfl (S.hd hd) hc hl
  exact (k T' h' h.size (S.made X' e' E) E rfl S.ext.1 S.keep.1 A D).of f
theorem Go.newarray (S : St p l e R s m args below meth c Z own bytes nl ret nm h0 ws T h locs cells slots) {aty : ArrayType} {n : Int32} {cap : Nat} {ty : FieldType} {dv : Value} (hty : newarray.typeOf aty = ty) (hdv : defaultValue ty = dv) (w : (Jvm.Cond.arrayClass ty).before a0 Z = true) (hd : decode bytes pc = .ok (.newarray aty, 2)) (hn : ¬ n < 0) (hcap : n.toNatClampNeg ≤ cap) (hb : cap * 8 ≤ 536870912) (hc : cells + 1 ≤ R.cells) (hl : slots + cap ≤ R.slots) (hp : pc + 2 = pc')
    (k : ∀ T' h' a cA, St p l e R s m args below meth c Z own bytes nl ret nm h0 ws T' h' locs (cells + 1) (slots + cap) → Ext h h' → h.size = a → Z.heap.size ≤ a → h0.size ≤ a → Arv Z h' a cA ty n (List.replicate cap dv) dv → Go p e below P T' (mkF m pc' Ls (.ref a :: st))) : Go p e below P T (mkF m pc Ls (.int n :: st)) := by
  subst hp hty hdv
  obtain ⟨T', h', cA, X', e', E, A, f⟩ := newP S.X S.ex S.hZ w S.eT (g := mkF m pc Ls (.int n :: st)) rfl (S.hd hd) rfl hn hcap hb hc hl
  exact (k T' h' h.size cA (S.made X' e' E) E rfl S.ext.1 S.keep.1 ((Arv.new A hn).pad (pad_rep [] _ cap))).of f
theorem Go.anewarray (S : St p l e R s m args below meth c Z own bytes nl ret nm h0 ws T h locs cells slots) {C : String} {index : Nat} {n : Int32} {cap : Nat} (w1 : (Jvm.Cond.classLink own index C).before a0 Z = true) (w2 : (Jvm.Cond.arrayOver (.object C)).before a0 Z = true) (hd : decode bytes pc = .ok (.anewarray index, 3)) (hn : ¬ n < 0) (hcap : n.toNatClampNeg ≤ cap) (hb : cap * 8 ≤ 536870912) (hc : cells + 1 ≤ R.cells) (hl : slots + cap ≤ R.slots) (hp : pc + 3 = pc')
    (k : ∀ T' h' a cA, St p l e R s m args below meth c Z own bytes nl ret nm h0 ws T' h' locs (cells + 1) (slots + cap) → Ext h h' → h.size = a → Z.heap.size ≤ a → h0.size ≤ a → Arv Z h' a cA (.object C) n (List.replicate cap .null) .null → Ovr Z cA C → Go p e below P T' (mkF m pc' Ls (.ref a :: st))) : Go p e below P T (mkF m pc Ls (.int n :: st)) := by
  subst hp
  obtain ⟨T', h', cA, X', e', E, A, O, f⟩ := newR S.X S.ex S.hZ S.hown w1 w2 S.eT (g := mkF m pc Ls (.int n :: st)) rfl (S.hd hd) rfl hn hcap hb hc hl
  exact (k T' h' h.size cA (S.made X' e' E) E rfl S.ext.1 S.keep.1 ((Arv.new A hn).pad (pad_rep [] _ cap)) O).of f
theorem Go.iastore (S : St p l e R s m args below meth c Z own bytes nl ret nm h0 ws T h locs cells slots) {a : Addr} {kA : ClassId} {n j : Int32} {x : Int32} {vs : List Value} {dv : Value} {i : Nat} (V : Arv Z h a kA .int n vs dv) (hj : ¬ j < 0 ∧ j < n) (hi : j.toNatClampNeg = i) (hl : i < vs.length) (hz : Z.heap.size ≤ a) (hws : a ∈ ws ∨ h0.size ≤ a) (hd : decode bytes pc = .ok (.iastore, 1)) (hp : pc + 1 = pc')
    (k : ∀ T' h' locs', St p l e R s m args below meth c Z own bytes nl ret nm h0 ws T' h' locs' cells slots → Wr h h' a j.toNatClampNeg (.int x) → Arv Z h' a kA .int n (vs.set i (.int x)) dv → Go p e below P T' (mkF m pc' Ls st)) : Go p e below P T (mkF m pc Ls (.int x :: .int j :: .ref a :: st)) := by
  subst hp
  obtain ⟨cl, A, q1, q2, q3, H, F⟩ := V
  obtain ⟨T', h', X', e', W, f⟩ := stI S.X S.ex S.hZ S.eT A (j := j) (x := x) (inb_of q2 hj) (g := mkF m pc Ls (.int x :: .int j :: .ref a :: st)) rfl rfl (S.hd hd)
  exact (k T' h' _ (S.wrote X' e' W hz hws) W (Arv.set A q1 q2 q3 H F rfl W i hi hl)).of f
theorem Go.castore (S : St p l e R s m args below meth c Z own bytes nl ret nm h0 ws T h locs cells slots) {a : Addr} {kA : ClassId} {n j : Int32} {x : Int32} {vs : List Value} {dv : Value} {i : Nat} (V : Arv Z h a kA .char n vs dv) (hj : ¬ j < 0 ∧ j < n) (hi : j.toNatClampNeg = i) (hl : i < vs.length) (hz : Z.heap.size ≤ a) (hws : a ∈ ws ∨ h0.size ≤ a) (hd : decode bytes pc = .ok (.castore, 1)) (hp : pc + 1 = pc')
    (k : ∀ T' h' locs', St p l e R s m args below meth c Z own bytes nl ret nm h0 ws T' h' locs' cells slots → Wr h h' a j.toNatClampNeg (.int (nar .char x)) → Arv Z h' a kA .char n (vs.set i (.int (nar .char x))) dv → Go p e below P T' (mkF m pc' Ls st)) : Go p e below P T (mkF m pc Ls (.int x :: .int j :: .ref a :: st)) := by
  subst hp
  obtain ⟨cl, A, q1, q2, q3, H, F⟩ := V
  obtain ⟨T', h', X', e', W, f⟩ := stC S.X S.ex S.hZ S.eT A (j := j) (x := x) (inb_of q2 hj) (g := mkF m pc Ls (.int x :: .int j :: .ref a :: st)) rfl rfl (S.hd hd)
  exact (k T' h' _ (S.wrote X' e' W hz hws) W (Arv.set A q1 q2 q3 H F (fits_nar_char _) W i hi hl)).of f
theorem Go.bastore (S : St p l e R s m args below meth c Z own bytes nl ret nm h0 ws T h locs cells slots) {a : Addr} {kA : ClassId} {n j : Int32} {x : Int32} {vs : List Value} {dv : Value} {i : Nat} (V : Arv Z h a kA .byte n vs dv) (hj : ¬ j < 0 ∧ j < n) (hi : j.toNatClampNeg = i) (hl : i < vs.length) (hz : Z.heap.size ≤ a) (hws : a ∈ ws ∨ h0.size ≤ a) (hd : decode bytes pc = .ok (.bastore, 1)) (hp : pc + 1 = pc')
    (k : ∀ T' h' locs', St p l e R s m args below meth c Z own bytes nl ret nm h0 ws T' h' locs' cells slots → Wr h h' a j.toNatClampNeg (.int (nar .byte x)) → Arv Z h' a kA .byte n (vs.set i (.int (nar .byte x))) dv → Go p e below P T' (mkF m pc' Ls st)) : Go p e below P T (mkF m pc Ls (.int x :: .int j :: .ref a :: st)) := by
  subst hp
  obtain ⟨cl, A, q1, q2, q3, H, F⟩ := V
  obtain ⟨T', h', X', e', W, f⟩ := stB S.X S.ex S.hZ S.eT A (j := j) (x := x) (inb_of q2 hj) (g := mkF m pc Ls (.int x :: .int j :: .ref a :: st)) rfl rfl (S.hd hd)
  exact (k T' h' _ (S.wrote X' e' W hz hws) W (Arv.set A q1 q2 q3 H F (fits_nar_byte _) W i hi hl)).of f
theorem Go.lastore (S : St p l e R s m args below meth c Z own bytes nl ret nm h0 ws T h locs cells slots) {a : Addr} {kA : ClassId} {n j : Int32} {x : Int64} {vs : List Value} {dv : Value} {i : Nat} (V : Arv Z h a kA .long n vs dv) (hj : ¬ j < 0 ∧ j < n) (hi : j.toNatClampNeg = i) (hl : i < vs.length) (hz : Z.heap.size ≤ a) (hws : a ∈ ws ∨ h0.size ≤ a) (hd : decode bytes pc = .ok (.lastore, 1)) (hp : pc + 1 = pc')
    (k : ∀ T' h' locs', St p l e R s m args below meth c Z own bytes nl ret nm h0 ws T' h' locs' cells slots → Wr h h' a j.toNatClampNeg (.long x) → Arv Z h' a kA .long n (vs.set i (.long x)) dv → Go p e below P T' (mkF m pc' Ls st)) : Go p e below P T (mkF m pc Ls (.long x :: .int j :: .ref a :: st)) := by
  subst hp
  obtain ⟨cl, A, q1, q2, q3, H, F⟩ := V
  obtain ⟨T', h', X', e', W, f⟩ := stJ S.X S.ex S.hZ S.eT A (j := j) (x := x) (inb_of q2 hj) (g := mkF m pc Ls (.long x :: .int j :: .ref a :: st)) rfl rfl (S.hd hd)
  exact (k T' h' _ (S.wrote X' e' W hz hws) W (Arv.set A q1 q2 q3 H F rfl W i hi hl)).of f
theorem Go.aastore (S : St p l e R s m args below meth c Z own bytes nl ret nm h0 ws T h locs cells slots) {a : Addr} {kA : ClassId} {ty : FieldType} {n j : Int32} {v : Value} {vs : List Value} {dv : Value} {i : Nat} (V : Arv Z h a kA ty n vs dv) (hty : ty.isReference = true) (hj : ¬ j < 0 ∧ j < n) (hi : j.toNatClampNeg = i) (hl : i < vs.length) (hfit : fits ty v = true) (F : Sto Z h a v) (hz : Z.heap.size ≤ a) (hws : a ∈ ws ∨ h0.size ≤ a) (hd : decode bytes pc = .ok (.aastore, 1)) (hp : pc + 1 = pc')
    (k : ∀ T' h' locs', St p l e R s m args below meth c Z own bytes nl ret nm h0 ws T' h' locs' cells slots → Wr h h' a j.toNatClampNeg v → Arv Z h' a kA ty n (vs.set i v) dv → Go p e below P T' (mkF m pc' Ls st)) : Go p e below P T (mkF m pc Ls (v :: .int j :: .ref a :: st)) := by
  subst hp
  obtain ⟨cl, A, q1, q2, q3, H, F'⟩ := V
  obtain ⟨T', h', X', e', W, f⟩ := stR S.X S.ex S.hZ S.eT A (j := j) (v := v) (inb_of q2 hj) hty F (g := mkF m pc Ls (v :: .int j :: .ref a :: st)) rfl rfl (S.hd hd)
  exact (k T' h' _ (S.wrote X' e' W hz hws) W (Arv.set A q1 q2 q3 H F' hfit W i hi hl)).of f
theorem Go.iaload (S : St p l e R s m args below meth c Z own bytes nl ret nm h0 ws T h locs cells slots) {a : Addr} {kA : ClassId} {n j : Int32} {v : Value} {vs : List Value} {dv : Value} (V : Arv Z h a kA .int n vs dv) (hj : ¬ j < 0 ∧ j < n) (hv : vs.getD j.toNatClampNeg dv = v) (hd : decode bytes pc = .ok (.iaload, 1)) (hp : pc + 1 = pc') (k : Go p e below P T (mkF m pc' Ls (v :: st))) : Go p e below P T (mkF m pc Ls (.int j :: .ref a :: st)) := by
  subst hp
  obtain ⟨cl, A, q1, q2, q3, H, F⟩ := V
  exact k.of fun t q => S.X.iaload S.ex (j := j) (v := v) (by rw [S.eT]; exact A.1) (State.isArrayOf_alike S.hZ.alike A.2.1) A.2.2 (inb_of q2 hj) (H.at (inb_of q2 hj) hv) (g := mkF m pc Ls (.int j :: .ref a :: st)) rfl rfl (S.hd hd) _ q
theorem Go.laload (S : St p l e R s m args below meth c Z own bytes nl ret nm h0 ws T h locs cells slots) {a : Addr} {kA : ClassId} {n j : Int32} {v : Value} {vs : List Value} {dv : Value} (V : Arv Z h a kA .long n vs dv) (hj : ¬ j < 0 ∧ j < n) (hv : vs.getD j.toNatClampNeg dv = v) (hd : decode bytes pc = .ok (.laload, 1)) (hp : pc + 1 = pc') (k : Go p e below P T (mkF m pc' Ls (v :: st))) : Go p e below P T (mkF m pc Ls (.int j :: .ref a :: st)) := by
  subst hp
  obtain ⟨cl, A, q1, q2, q3, H, F⟩ := V
  exact k.of fun t q => S.X.laload S.ex (j := j) (v := v) (by rw [S.eT]; exact A.1) (State.isArrayOf_alike S.hZ.alike A.2.1) A.2.2 (inb_of q2 hj) (H.at (inb_of q2 hj) hv) (g := mkF m pc Ls (.int j :: .ref a :: st)) rfl rfl (S.hd hd) _ q
theorem Go.caload (S : St p l e R s m args below meth c Z own bytes nl ret nm h0 ws T h locs cells slots) {a : Addr} {kA : ClassId} {n j : Int32} {v : Value} {vs : List Value} {dv : Value} (V : Arv Z h a kA .char n vs dv) (hj : ¬ j < 0 ∧ j < n) (hv : vs.getD j.toNatClampNeg dv = v) (hd : decode bytes pc = .ok (.caload, 1)) (hp : pc + 1 = pc') (k : Go p e below P T (mkF m pc' Ls (v :: st))) : Go p e below P T (mkF m pc Ls (.int j :: .ref a :: st)) := by
  subst hp
  obtain ⟨cl, A, q1, q2, q3, H, F⟩ := V
  exact k.of fun t q => S.X.caload S.ex (j := j) (v := v) (by rw [S.eT]; exact A.1) (State.isArrayOf_alike S.hZ.alike A.2.1) A.2.2 (inb_of q2 hj) (H.at (inb_of q2 hj) hv) (g := mkF m pc Ls (.int j :: .ref a :: st)) rfl rfl (S.hd hd) _ q
theorem Go.baload (S : St p l e R s m args below meth c Z own bytes nl ret nm h0 ws T h locs cells slots) {a : Addr} {kA : ClassId} {n j : Int32} {v : Value} {vs : List Value} {dv : Value} (V : Arv Z h a kA .byte n vs dv) (hj : ¬ j < 0 ∧ j < n) (hv : vs.getD j.toNatClampNeg dv = v) (hd : decode bytes pc = .ok (.baload, 1)) (hp : pc + 1 = pc') (k : Go p e below P T (mkF m pc' Ls (v :: st))) : Go p e below P T (mkF m pc Ls (.int j :: .ref a :: st)) := by
  subst hp
  obtain ⟨cl, A, q1, q2, q3, H, F⟩ := V
  exact k.of fun t q => S.X.baloadBytes S.ex (j := j) (v := v) (by rw [S.eT]; exact A.1) (State.isArrayOf_alike S.hZ.alike A.2.1) A.2.2 (inb_of q2 hj) (H.at (inb_of q2 hj) hv) (g := mkF m pc Ls (.int j :: .ref a :: st)) rfl rfl (S.hd hd) _ q
theorem Go.aaload (S : St p l e R s m args below meth c Z own bytes nl ret nm h0 ws T h locs cells slots) {a : Addr} {kA : ClassId} {ty : FieldType} {n j : Int32} {v : Value} {vs : List Value} {dv : Value} (V : Arv Z h a kA ty n vs dv) (hty : ty.isReference = true) (hj : ¬ j < 0 ∧ j < n) (hv : vs.getD j.toNatClampNeg dv = v) (hd : decode bytes pc = .ok (.aaload, 1)) (hp : pc + 1 = pc') (k : Go p e below P T (mkF m pc' Ls (v :: st))) : Go p e below P T (mkF m pc Ls (.int j :: .ref a :: st)) := by
  subst hp
  obtain ⟨cl, A, q1, q2, q3, H, F⟩ := V
  exact k.of fun t q => S.X.aaload S.ex (j := j) (v := v) (by rw [S.eT]; exact A.1) (State.isArrayOf_alike S.hZ.alike A.2.1) hty A.2.2 (inb_of q2 hj) (H.at (inb_of q2 hj) hv) (g := mkF m pc Ls (.int j :: .ref a :: st)) rfl rfl (S.hd hd) _ q
theorem Go.arraylength (S : St p l e R s m args below meth c Z own bytes nl ret nm h0 ws T h locs cells slots) {a : Addr} {kA : ClassId} {ty : FieldType} {n : Int32} {vs : List Value} {dv : Value} (V : Arv Z h a kA ty n vs dv) (hd : decode bytes pc = .ok (.arraylength, 1)) (hp : pc + 1 = pc') (k : Go p e below P T (mkF m pc' Ls (.int n :: st))) : Go p e below P T (mkF m pc Ls (.ref a :: st)) := by
  subst hp
  obtain ⟨cl, A, q1, q2, q3, H, F⟩ := V
  exact k.of fun t q => S.X.arraylength S.ex (by rw [S.eT]; exact A.1) (State.isArrayOf_alike S.hZ.alike A.2.1) (g := mkF m pc Ls (.ref a :: st)) rfl rfl (S.hd hd) _ (by rw [len_of q2 q3]; exact q)
theorem Go.initObject (S : St p l e R s m args below meth c Z own bytes nl ret nm h0 ws T h locs cells slots) {idx : Nat} {a : Addr} {W : Nat} (w1 : (Jvm.Cond.methodLink own idx Lib.objectInit).before a0 Z = true) (w2 : (Jvm.Cond.instanceMethod Lib.objectInit).before a0 Z = true) (w3 : (Jvm.Cond.code Lib.objectInit ⟨#[0xb1]⟩ 1 none).before a0 Z = true) (hd : decode bytes pc = .ok (.invokespecial idx, 3)) (hsz : Ls.size = nl) (hf : 1 ≤ R.frames) (hW : (st.map fun v => v.category).sum = W) (hl : W + 12 ≤ R.locals) (hp : pc + 3 = pc')
    (k : ∀ T', St p l e R s m args below meth c Z own bytes nl ret nm h0 ws T' h locs cells slots → Go p e below P T' (mkF m pc' Ls st)) : Go p e below P T (mkF m pc Ls (.ref a :: st)) := by
  subst hp
  obtain ⟨T', X', e', f⟩ := initO S.X S.ex S.hZ S.hown w1 w2 w3 S.eT (g := mkF m pc Ls (.ref a :: st)) rfl (hsz.trans S.hnl.symm) rfl (S.hd hd) hf (W := W) (by show 2 * 0 + _ ≤ _; rw [hW]; omega) hl
  exact (k T' (S.next X' e' S.fr S.keep S.ext)).of f
theorem Go.checkcast (S : St p l e R s m args below meth c Z own bytes nl ret nm h0 ws T h locs cells slots) {C : String} {index : Nat} {a : Addr} (w : (Jvm.Cond.classLink own index C).before a0 Z = true) (F : Ins Z h a C true) (hd : decode bytes pc = .ok (.checkcast index, 3)) (hp : pc + 3 = pc')
    (k : ∀ T', St p l e R s m args below meth c Z own bytes nl ret nm h0 ws T' h locs cells slots → Go p e below P T' (mkF m pc' Ls (.ref a :: st))) : Go p e below P T (mkF m pc Ls (.ref a :: st)) := by
  subst hp
  obtain ⟨T', X', e', f⟩ := castY S.X S.ex S.hZ S.hown w S.eT F (g := mkF m pc Ls (.ref a :: st)) rfl rfl (S.hd hd)
  exact (k T' (S.next X' e' S.fr S.keep S.ext)).of f
theorem Go.instanceofY (S : St p l e R s m args below meth c Z own bytes nl ret nm h0 ws T h locs cells slots) {C : String} {index : Nat} {a : Addr} (w : (Jvm.Cond.classLink own index C).before a0 Z = true) (F : Ins Z h a C true) (hd : decode bytes pc = .ok (.instanceof index, 3)) (hp : pc + 3 = pc')
    (k : ∀ T', St p l e R s m args below meth c Z own bytes nl ret nm h0 ws T' h locs cells slots → Go p e below P T' (mkF m pc' Ls (.int 1 :: st))) : Go p e below P T (mkF m pc Ls (.ref a :: st)) := by
  subst hp
  obtain ⟨T', X', e', f⟩ := instY S.X S.ex S.hZ S.hown w S.eT F (g := mkF m pc Ls (.ref a :: st)) rfl rfl (S.hd hd)
  exact (k T' (S.next X' e' S.fr S.keep S.ext)).of f
theorem Go.invokestatic (S : St p l e R s m args below meth c Z own bytes nl ret nm h0 ws T h locs cells slots) {y : MethodName} {bytes' : ByteArray} {nl' : Nat} {ret' : Option FieldType} {rm : Room} {as' : Array Value} {ws' : List Addr} {Q' : Option Value → Heap → Prop} {index W : Nat} {ps : List FieldType} {r : Option FieldType} {argsL : List Value} (M : OMeets l Z y bytes' nl' ret' rm as' h ws' Q') (w1 : (Jvm.Cond.methodLink own index y).before a0 Z = true) (w2 : (Jvm.Cond.static y).before a0 Z = true) (w3 : (Jvm.Cond.initialized y.cls).before a0 Z = true) (w4 : (Jvm.Cond.code y bytes' nl' ret').before a0 Z = true) (hy : y.cls ≠ "java/lang/invoke/MethodHandle" ∧ y.cls ≠ "java/lang/invoke/VarHandle") (hd : decode bytes pc = .ok (.invokestatic index, 3)) (hsz : Ls.size = nl) (hlen : parseMethodDescriptor y.desc = some ⟨ps, r⟩) (hn : argsL.length = ps.length) (has : argsL.toArray = as') {stk : List Value} (hstk : stk = argsL.reverse ++ st) (hf : rm.frames + 1 ≤ R.frames) (hW : (st.map fun v => v.category).sum = W) (hl : W + (nl' + 11) + rm.locals ≤ R.locals) (hc : cells + rm.cells ≤ R.cells) (hs : slots + rm.slots ≤ R.slots) (hws : ∀ x ∈ ws', x ∈ ws ∨ h0.size ≤ x) (hp : pc + 3 = pc')
    (k : ∀ v T' h' locs', St p l e R s m args below meth c Z own bytes nl ret nm h0 ws T' h' locs' (cells + rm.cells) (slots + rm.slots) → Keep h h' ws' → Q' v h' → Go p e below P T' (mkF m pc' Ls (v.toList ++ st))) : Go p e below P T (mkF m pc Ls stk) := by
  subst hp hstk
  obtain ⟨v, _, ⟨T', L', k', n'⟩, -, X', ⟨L, hQ, l1, l2, l3⟩, f⟩ := Jvm.LawKit.callS S.X S.ex S.hown (mvT S.hZ w1) (mvT S.hZ w2) (mvT S.hZ w3) (mvT S.hZ w4) hy (backOf (Q := fun v U L => Fr Z.heap.size L ∧ Keep h U ws' ∧ Ext Z.heap U ∧ Q' v U) (W := W) (M []) S.hZ w4 w3 hf hl) (g := mkF m pc Ls (argsL.reverse ++ st)) rfl (hsz.trans S.hnl.symm) (argsL := argsL) (rest := st) (lenOf hlen hn) rfl (by show 2 * 0 + _ ≤ _; rw [hW]; omega) (S.hd hd) (fun _ _ => ⟨has, S.eT, hc, hs⟩)
  dsimp only [Pt.U, Pt.locs, Pt.cells, Pt.slots] at X' l1 l2 l3 hQ f
  subst l1 l2 l3
  obtain ⟨N, K', E', q⟩ := hQ
  exact (k v T' T'.heap _ (S.next X' rfl (S.fr.app N) (S.keep.trans K' hws) E') K' q).of f
theorem Go.invokespecial (S : St p l e R s m args below meth c Z own bytes nl ret nm h0 ws T h locs cells slots) {y : MethodName} {bytes' : ByteArray} {nl' : Nat} {ret' : Option FieldType} {rm : Room} {as' : Array Value} {ws' : List Addr} {Q' : Option Value → Heap → Prop} {index W : Nat} {ps : List FieldType} {r : Option FieldType} {argsL : List Value} {a : Addr} (M : OMeets l Z y bytes' nl' ret' rm as' h ws' Q') (hi : y.name = "<init>") (hr0 : ret' = none) (w1 : (Jvm.Cond.methodLink own index y).before a0 Z = true) (w2 : (Jvm.Cond.instanceMethod y).before a0 Z = true) (w3 : (Jvm.Cond.initialized y.cls).before a0 Z = true) (w4 : (Jvm.Cond.code y bytes' nl' ret').before a0 Z = true) (hy : y.cls ≠ "java/lang/invoke/MethodHandle" ∧ y.cls ≠ "java/lang/invoke/VarHandle") (hd : decode bytes pc = .ok (.invokespecial index, 3)) (hsz : Ls.size = nl) (hlen : parseMethodDescriptor y.desc = some ⟨ps, r⟩) (hn : argsL.length = ps.length) (has : (.ref a :: argsL).toArray = as') {stk : List Value} (hstk : stk = argsL.reverse ++ .ref a :: st) (hf : rm.frames + 1 ≤ R.frames) (hW : (st.map fun v => v.category).sum = W) (hl : W + (nl' + 11) + rm.locals ≤ R.locals) (hc : cells + rm.cells ≤ R.cells) (hs : slots + rm.slots ≤ R.slots) (hws : ∀ x ∈ ws', x ∈ ws ∨ h0.size ≤ x) (hp : pc + 3 = pc')
    (k : ∀ v T' h' locs', St p l e R s m args below meth c Z own bytes nl ret nm h0 ws T' h' locs' (cells + rm.cells) (slots + rm.slots) → Keep h h' ws' → Q' v h' → Go p e below P T' (mkF m pc' Ls (v.toList ++ st))) : Go p e below P T (mkF m pc Ls stk) := by
  subst hp hstk hr0
  obtain ⟨v, _, ⟨T', L', k', n'⟩, -, X', ⟨L, hQ, l1, l2, l3⟩, f⟩ := S.X.specialBack S.ex hi S.hown (mvT S.hZ w1) (mvT S.hZ w2) (mvT S.hZ w4) hy (backOf (Q := fun v U L => Fr Z.heap.size L ∧ Keep h U ws' ∧ Ext Z.heap U ∧ Q' v U) (W := W) (M []) S.hZ w4 w3 hf hl) (g := mkF m pc Ls (argsL.reverse ++ .ref a :: st)) rfl (hsz.trans S.hnl.symm) (Steps.refl _) (a := a) (argsL := argsL) (rest := st) (lenOf hlen hn) rfl (by show 2 * 0 + _ ≤ _; rw [hW]; omega) (S.hd hd) (fun _ _ => ⟨has, S.eT, hc, hs⟩)
  dsimp only [Pt.U, Pt.locs, Pt.cells, Pt.slots] at X' l1 l2 l3 hQ f
  subst l1 l2 l3
  obtain ⟨N, K', E', q⟩ := hQ
  exact (k v T' T'.heap _ (S.next X' rfl (S.fr.app N) (S.keep.trans K' hws) E') K' q).of fun t q => f.trans q
theorem Go.invokevirtual (S : St p l e R s m args below meth c Z own bytes nl ret nm h0 ws T h locs cells slots) {y : MethodName} {bytes' : ByteArray} {nl' : Nat} {ret' : Option FieldType} {rm : Room} {as' : Array Value} {ws' : List Addr} {Q' : Option Value → Heap → Prop} {index W : Nat} {ps : List FieldType} {r : Option FieldType} {argsL : List Value} {a : Addr} {x : MethodName} {C : String} (M : OMeets l Z y bytes' nl' ret' rm as' h ws' Q') (w1 : (Jvm.Cond.methodLink own index x).before a0 Z = true) (w2 : (Jvm.Cond.declares x).before a0 Z = true) (hnf : NotFace s x) (w5 : (Jvm.Cond.selects C x y).before a0 Z = true) (w6 : (Jvm.Cond.instanceMethod y).before a0 Z = true) (w3 : (Jvm.Cond.initialized y.cls).before a0 Z = true) (w4 : (Jvm.Cond.code y bytes' nl' ret').before a0 Z = true) (hy : x.cls ≠ "java/lang/invoke/MethodHandle" ∧ x.cls ≠ "java/lang/invoke/VarHandle") (E : Exa Z h a C) (hd : decode bytes pc = .ok (.invokevirtual index, 3)) (hsz : Ls.size = nl) (hlen : parseMethodDescriptor x.desc = some ⟨ps, r⟩) (hn : argsL.length = ps.length) (has : (.ref a :: argsL).toArray = as') {stk : List Value} (hstk : stk = argsL.reverse ++ .ref a :: st) (hf : rm.frames + 1 ≤ R.frames) (hW : (st.map fun v => v.category).sum = W) (hl : W + (nl' + 11) + rm.locals ≤ R.locals) (hc : cells + rm.cells ≤ R.cells) (hs : slots + rm.slots ≤ R.slots) (hws : ∀ x ∈ ws', x ∈ ws ∨ h0.size ≤ x) (hp : pc + 3 = pc')
    (k : ∀ v T' h' locs', St p l e R s m args below meth c Z own bytes nl ret nm h0 ws T' h' locs' (cells + rm.cells) (slots + rm.slots) → Keep h h' ws' → Q' v h' → Go p e below P T' (mkF m pc' Ls (v.toList ++ st))) : Go p e below P T (mkF m pc Ls stk) := by
  subst hp hstk
  obtain ⟨cq, kq, q1, q2, q3⟩ := isOf S.hZ S.eT E
  obtain ⟨v, _, ⟨T', L', k', n'⟩, -, X', ⟨L, hQ, l1, l2, l3⟩, f⟩ := S.X.virtualBack S.ex S.hown (mvT S.hZ w1) (mvT S.hZ w2) hnf (mvT S.hZ w5) (mvT S.hZ w6) hy (backOf (Q := fun v U L => Fr Z.heap.size L ∧ Keep h U ws' ∧ Ext Z.heap U ∧ Q' v U) (W := W) (M []) S.hZ w4 w3 hf hl) q1 q3 (g := mkF m pc Ls (argsL.reverse ++ .ref a :: st)) rfl (hsz.trans S.hnl.symm) (Steps.refl _) (argsL := argsL) (rest := st) (lenOf hlen hn) rfl (by show 2 * 0 + _ ≤ _; rw [hW]; omega) (S.hd hd) (fun _ _ => ⟨has, S.eT, hc, hs⟩)
  dsimp only [Pt.U, Pt.locs, Pt.cells, Pt.slots] at X' l1 l2 l3 hQ f
  subst l1 l2 l3
  obtain ⟨N, K', E', q⟩ := hQ
  exact (k v T' T'.heap _ (S.next X' rfl (S.fr.app N) (S.keep.trans K' hws) E') K' q).of fun t q => f.trans q
theorem St.nf (S : St p l e R s m args below meth c Z own bytes nl ret nm h0 ws T h locs cells slots) {C : String} {x : MethodName} (w : (Jvm.Cond.selects C x x).before a0 Z = true) : NotFace s x := notFace_of_selects (args := #[]) (mvT S.hZ w)
theorem Go.invokevirtualUp (S : St p l e R s m args below meth c Z own bytes nl ret nm h0 ws T h locs cells slots) {y : MethodName} {bytes' : ByteArray} {nl' : Nat} {ret' : Option FieldType} {rm : Room} {as' : Array Value} {ws' : List Addr} {Q' : Option Value → Heap → Prop} {index W : Nat} {ps : List FieldType} {r : Option FieldType} {argsL : List Value} {a : Addr} {x : MethodName} {C owner : String} (M : OMeets l Z y bytes' nl' ret' rm as' h ws' Q') (w1 : (Jvm.Cond.methodLink own index x).before a0 Z = true) (w2 : (Jvm.Cond.declares ⟨owner, x.name, x.desc⟩).before a0 Z = true) (w7 : (Jvm.Cond.sameMethod x.cls owner x.name x.desc).before a0 Z = true) (w5 : (Jvm.Cond.selects C x y).before a0 Z = true) (w6 : (Jvm.Cond.instanceMethod y).before a0 Z = true) (w3 : (Jvm.Cond.initialized y.cls).before a0 Z = true) (w4 : (Jvm.Cond.code y bytes' nl' ret').before a0 Z = true) (hy : owner ≠ "java/lang/invoke/MethodHandle" ∧ owner ≠ "java/lang/invoke/VarHandle") (E : Exa Z h a C) (hd : decode bytes pc = .ok (.invokevirtual index, 3)) (hsz : Ls.size = nl) (hlen : parseMethodDescriptor x.desc = some ⟨ps, r⟩) (hn : argsL.length = ps.length) (has : (.ref a :: argsL).toArray = as') {stk : List Value} (hstk : stk = argsL.reverse ++ .ref a :: st) (hf : rm.frames + 1 ≤ R.frames) (hW : (st.map fun v => v.category).sum = W) (hl : W + (nl' + 11) + rm.locals ≤ R.locals) (hc : cells + rm.cells ≤ R.cells) (hs : slots + rm.slots ≤ R.slots) (hws : ∀ x ∈ ws', x ∈ ws ∨ h0.size ≤ x) (hp : pc + 3 = pc')
    (k : ∀ v T' h' locs', St p l e R s m args below meth c Z own bytes nl ret nm h0 ws T' h' locs' (cells + rm.cells) (slots + rm.slots) → Keep h h' ws' → Q' v h' → Go p e below P T' (mkF m pc' Ls (v.toList ++ st))) : Go p e below P T (mkF m pc Ls stk) := by
  subst hp hstk
  obtain ⟨cq, kq, q1, q2, q3⟩ := isOf S.hZ S.eT E
  obtain ⟨v, _, ⟨T', L', k', n'⟩, -, X', ⟨L, hQ, l1, l2, l3⟩, f⟩ := S.X.virtualBackUp S.ex S.hown (mvT S.hZ w1) (mvT S.hZ w7) (mvT S.hZ w2) hy (mvT S.hZ w5) (mvT S.hZ w6) (backOf (Q := fun v U L => Fr Z.heap.size L ∧ Keep h U ws' ∧ Ext Z.heap U ∧ Q' v U) (W := W) (M []) S.hZ w4 w3 hf hl) q1 q3 (g := mkF m pc Ls (argsL.reverse ++ .ref a :: st)) rfl (hsz.trans S.hnl.symm) (Steps.refl _) (argsL := argsL) (rest := st) (lenOf hlen hn) rfl (by show 2 * 0 + _ ≤ _; rw [hW]; omega) (S.hd hd) (fun _ _ => ⟨has, S.eT, hc, hs⟩)
  dsimp only [Pt.U, Pt.locs, Pt.cells, Pt.slots] at X' l1 l2 l3 hQ f
  subst l1 l2 l3
  obtain ⟨N, K', E', q⟩ := hQ
  exact (k v T' T'.heap _ (S.next X' rfl (S.fr.app N) (S.keep.trans K' hws) E') K' q).of fun t q => f.trans q
theorem Go.tableswitch (S : St p l e R s m args below meth c Z own bytes nl ret nm h0 ws T h locs cells slots) {dflt low high : Int} {offs : Array Int} {len : Nat} {o : Int} {i : Int32} (hd : decode bytes pc = .ok (.tableswitch dflt low high offs, len)) (hin : ¬ (i.toInt < low ∨ i.toInt > high)) (hoff : offs[(i.toInt - low).toNat]? = some o) (hp : (pc : Int) + o = (pc' : Int)) (k : Go p e below P T (mkF m pc' Ls st)) : Go p e below P T (mkF m pc Ls (.int i :: st)) :=
  k.of fun t q => XS.tswIn S.X.here S.ex rfl (pc0 := pc) rfl (S.hd hd) rfl hin hoff (off0 hp) (off1 hp) q
theorem Go.instanceofN (S : St p l e R s m args below meth c Z own bytes nl ret nm h0 ws T h locs cells slots) {C K : String} {index : Nat} {a : Addr} (w : (Jvm.Cond.classLink own index K).before a0 Z = true) (E : Exa Z h a C) (F : ∃ c t, Z.vm.findClass C = some c ∧ Z.vm.findClass K = some t ∧ Z.vm.assignable c t = false) (hd : decode bytes pc = .ok (.instanceof index, 3)) (hp : pc + 3 = pc')
    (k : ∀ T', St p l e R s m args below meth c Z own bytes nl ret nm h0 ws T' h locs cells slots → Go p e below P T' (mkF m pc' Ls (.int 0 :: st))) : Go p e below P T (mkF m pc Ls (.ref a :: st)) := by
  subst hp
  obtain ⟨T', X', e', f⟩ := instNo S.X S.ex S.hZ S.hown w S.eT E F (g := mkF m pc Ls (.ref a :: st)) rfl rfl (S.hd hd)
  exact (k T' (S.next X' e' S.fr S.keep S.ext)).of f
theorem Go.instanceofNull (S : St p l e R s m args below meth c Z own bytes nl ret nm h0 ws T h locs cells slots) {index : Nat} (hd : decode bytes pc = .ok (.instanceof index, 3)) (hp : pc + 3 = pc') (k : Go p e below P T (mkF m pc' Ls (.int 0 :: st))) : Go p e below P T (mkF m pc Ls (.null :: st)) := by
  subst hp
  exact k.of fun t q => S.X.instanceofNull S.ex (g := mkF m pc Ls (.null :: st)) rfl rfl (S.hd hd) _ q
theorem Go.checkcastNull (S : St p l e R s m args below meth c Z own bytes nl ret nm h0 ws T h locs cells slots) {index : Nat} (hd : decode bytes pc = .ok (.checkcast index, 3)) (hp : pc + 3 = pc') (k : Go p e below P T (mkF m pc' Ls (.null :: st))) : Go p e below P T (mkF m pc Ls (.null :: st)) := by
  subst hp
  exact k.of fun t q => S.X.checkcastNull S.ex (g := mkF m pc Ls (.null :: st)) rfl rfl (S.hd hd) _ q
theorem Go.aaloadA (S : St p l e R s m args below meth c Z own bytes nl ret nm h0 ws T h locs cells slots) {a : Addr} {cl : Cell} {ty : FieldType} {j : Int32} {v : Value} (A : Arr Z h a cl ty) (hty : ty.isReference = true) (hj : ¬ (j < 0 ∨ cl.slots.size ≤ j.toNatClampNeg)) (hv : cl.slots[j.toNatClampNeg]? = some v) (hd : decode bytes pc = .ok (.aaload, 1)) (hp : pc + 1 = pc') (k : Go p e below P T (mkF m pc' Ls (v :: st))) : Go p e below P T (mkF m pc Ls (.int j :: .ref a :: st)) := by
  subst hp
  exact k.of fun t q => S.X.aaload S.ex (j := j) (v := v) (by rw [S.eT]; exact A.1) (State.isArrayOf_alike S.hZ.alike A.2.1) hty A.2.2 hj hv (g := mkF m pc Ls (.int j :: .ref a :: st)) rfl rfl (S.hd hd) _ q
theorem Go.clone (S : St p l e R s m args below meth c Z own bytes nl ret nm h0 ws T h locs cells slots) {ad : String} {index : Nat} {a : Addr} {kA : ClassId} {ty : FieldType} {n : Int32} {vs : List Value} {dv : Value} {W cap : Nat} (w1 : (Jvm.Cond.methodLink own index ⟨ad, "clone", "()Ljava/lang/Object;"⟩).before a0 Z = true) (w2 : (Jvm.Cond.sameMethod ad "java/lang/Object" "clone" "()Ljava/lang/Object;").before a0 Z = true) (w3 : (Jvm.Cond.native ⟨"java/lang/Object", "clone", "()Ljava/lang/Object;"⟩).before a0 Z = true) (w4 : (Jvm.Cond.instanceMethod ⟨"java/lang/Object", "clone", "()Ljava/lang/Object;"⟩).before a0 Z = true) (w5 : (Jvm.Cond.selects ad ⟨ad, "clone", "()Ljava/lang/Object;"⟩ ⟨"java/lang/Object", "clone", "()Ljava/lang/Object;"⟩).before a0 Z = true) (w6 : (Jvm.Cond.castable ad "java/lang/Cloneable").before a0 Z = true)
    (V : Arv Z Z.heap a kA ty n vs dv) (hfit : Fit Z) (E : Exa Z Z.heap a ad) (hd : decode bytes pc = .ok (.invokevirtual index, 3)) (hsz : Ls.size = nl) (hf : 1 ≤ R.frames) (hW : (st.map fun v => v.category).sum = W) (hl : W + 14 ≤ R.locals) (hcap : n.toNatClampNeg ≤ cap) (hc : cells + 1 ≤ R.cells) (hsl : slots + cap ≤ R.slots) (hp : pc + 3 = pc')
    (k : ∀ T' h' b, St p l e R s m args below meth c Z own bytes nl ret nm h0 ws T' h' locs (cells + 1) (slots + cap) → Ext h h' → h.size = b → Arv Z h' b kA ty n vs dv → Exa Z h' b ad → Go p e below P T' (mkF m pc' Ls (.ref b :: st))) : Go p e below P T (mkF m pc Ls (.ref a :: st)) := by
  subst hp
  obtain ⟨cl, A, q1, q2, q3, H, F⟩ := V
  obtain ⟨T', h', X', e', E', A', EA, f⟩ := cloneA S.X S.ex S.hZ S.hown w1 w2 w3 w4 w5 w6 S.eT (A.ext S.ext) (E.ext S.ext) (FitC.start hfit A) (g := mkF m pc Ls (.ref a :: st)) rfl (hsz.trans S.hnl.symm) rfl (S.hd hd) hf (W := W) (by show 2 * 0 + _ ≤ _; rw [hW]; omega) hl (cap := cap) (by rw [q2]; exact hcap) hc hsl
  exact (k T' h' h.size (S.made X' e' E') E' rfl ⟨_, A', q1, q2, q3, H, F⟩ EA).of f
theorem Go.invokeinterface (S : St p l e R s m args below meth c Z own bytes nl ret nm h0 ws T h locs cells slots) {y : MethodName} {bytes' : ByteArray} {nl' : Nat} {ret' : Option FieldType} {rm : Room} {as' : Array Value} {ws' : List Addr} {Q' : Option Value → Heap → Prop} {index W : Nat} {ps : List FieldType} {r : Option FieldType} {argsL : List Value} {count : Nat} {a : Addr} {x : MethodName} {C : String} (M : OMeets l Z y bytes' nl' ret' rm as' h ws' Q') (w1 : (Jvm.Cond.methodLink own index x).before a0 Z = true) (w2 : (Jvm.Cond.declares x).before a0 Z = true) (w7 : (Jvm.Cond.interfaceMethod x.cls x.cls x.name x.desc).before a0 Z = true) (h7 : ((Jvm.Cond.interfaceMethod x.cls x.cls x.name x.desc).onTables && (Jvm.Cond.interfaceMethod x.cls x.cls x.name x.desc).keepsFace) = true) (w5 : (Jvm.Cond.selects C x y).before a0 Z = true) (w6 : (Jvm.Cond.instanceMethod y).before a0 Z = true) (w8 : (Jvm.Cond.publicMethod y).before a0 Z = true) (w9 : (Jvm.Cond.unhidden C x.name x.desc).before a0 Z = true) (w10 : (Jvm.Cond.castable C x.cls).before a0 Z = true) (w3 : (Jvm.Cond.initialized y.cls).before a0 Z = true) (w4 : (Jvm.Cond.code y bytes' nl' ret').before a0 Z = true) (hy : x.cls ≠ "java/lang/invoke/MethodHandle" ∧ x.cls ≠ "java/lang/invoke/VarHandle") (E : Exa Z h a C) (hd : decode bytes pc = .ok (.invokeinterface index count, 5)) (hsz : Ls.size = nl) (hlen : parseMethodDescriptor x.desc = some ⟨ps, r⟩) (hn : argsL.length = ps.length) (has : (.ref a :: argsL).toArray = as') {stk : List Value} (hstk : stk = argsL.reverse ++ .ref a :: st) (hf : rm.frames + 1 ≤ R.frames) (hW : (st.map fun v => v.category).sum = W) (hl : W + (nl' + 11) + rm.locals ≤ R.locals) (hc : cells + rm.cells ≤ R.cells) (hs : slots + rm.slots ≤ R.slots) (hws : ∀ x ∈ ws', x ∈ ws ∨ h0.size ≤ x) (hp : pc + 5 = pc')
    (k : ∀ v T' h' locs', St p l e R s m args below meth c Z own bytes nl ret nm h0 ws T' h' locs' (cells + rm.cells) (slots + rm.slots) → Keep h h' ws' → Q' v h' → Go p e below P T' (mkF m pc' Ls (v.toList ++ st))) : Go p e below P T (mkF m pc Ls stk) := by
  subst hp hstk
  obtain ⟨cq, kq, q1, q2, q3⟩ := isOf S.hZ S.eT E
  obtain ⟨v, _, ⟨T', L', k', n'⟩, -, X', ⟨L, hQ, l1, l2, l3⟩, f⟩ := S.X.interfaceBack S.ex S.hown (mvT S.hZ w1) (mvT S.hZ w2) (mvT S.hZ w7 h7) (mvT S.hZ w5) (mvT S.hZ w6) (mvT S.hZ w8) (mvT S.hZ w9) (mvT S.hZ w10) hy (backOf (Q := fun v U L => Fr Z.heap.size L ∧ Keep h U ws' ∧ Ext Z.heap U ∧ Q' v U) (W := W) (M []) S.hZ w4 w3 hf hl) q1 q2 q3 (g := mkF m pc Ls (argsL.reverse ++ .ref a :: st)) rfl (hsz.trans S.hnl.symm) (Steps.refl _) (argsL := argsL) (rest := st) (lenOf hlen hn) rfl (by show 2 * 0 + _ ≤ _; rw [hW]; omega) (S.hd hd) (fun _ _ => ⟨has, S.eT, hc, hs⟩)
  dsimp only [Pt.U, Pt.locs, Pt.cells, Pt.slots] at X' l1 l2 l3 hQ f
  subst l1 l2 l3
  obtain ⟨N, K', E', q⟩ := hQ
  exact (k v T' T'.heap _ (S.next X' rfl (S.fr.app N) (S.keep.trans K' hws) E') K' q).of fun t q => f.trans q
theorem OMeets.body {y : MethodName} {Q : Option Value → Heap → Prop} {as : Array Value} (hpl : plainFor y = true) (hE : Ext Z.heap h0) (Ls : Array Slot) (hef : ∀ m : MethodId, entryFrame m as nl = mkF m 0 Ls [])
    (H : ∀ p e s m below meth c T, St p l e R s m as below meth c Z y.cls bytes nl ret y.name h0 ws T h0 [] 0 0 → Go p e below (PostOf Z s h0 ws R.cells R.slots Q) T (mkF m 0 Ls [])) : OMeets l Z y bytes nl ret R as h0 ws Q := by
  intro wd
  refine MetFree.of_bodySF hpl hisR ?_
  intro p e s m args below meth c s₁ Bd hml hP _
  obtain ⟨rfl, hZ, hh⟩ := hP
  have X0 : Stand p l e R s m args below meth c s₁ [] 0 0 := Stand.of_body Bd
  have e0 : s₁.heap = h0 := by rw [← hh, Bd.state]; rfl
  have hg := H p e s m below meth c s₁ ⟨⟨Bd.exec, Bd.bytes, hml, hZ, findClass_of_methodNamed Bd.named, Bd.returns, Bd.notSynchronized, (name_of_methodNamed Bd.named Bd.method).1⟩, X0, e0, Fr.nil _, Keep.refl _ _, hE⟩
  rw [hef]
  exact hg
end Steps
end Jvm.Own
namespace Jvm.Pilot.@@N@@
open Jvm Jvm.ClassFile Sem Op Lib Jvm.Free Jvm.Stand Jvm.LawKit Jvm.RoadKit Jvm.Own Bundle Jvm.Pilot.@@N@@.Jvm.D
abbrev HW (Z : State) (a0 : Array Value) : Prop := ∀ d ∈ tables_1, d.before a0 Z = true
theorem wd0 {Z : State} {a0 : Array Value} (hw : HW Z a0) : Jvm.Cond.before (Jvm.Cond.constant "com/example/tributary/tributary/target/AccessPointCoversSubfieldPinLaw" (7 : Nat) (2147483647 : Int32)) a0 Z = true := hw _ (List.mem_of_getElem? (i := 0) rfl)
theorem wd1 {Z : State} {a0 : Array Value} (hw : HW Z a0) : Jvm.Cond.before (Jvm.Cond.methodLink "com/example/tributary/tributary/target/AccessPointCoversSubfieldPinLaw" (8 : Nat) ({ cls := "java/lang/String", name := "valueOf", desc := "(C)Ljava/lang/String;" } : Jvm.MethodName)) a0 Z = true := hw _ (List.mem_of_getElem? (i := 1) rfl)
theorem wd2 {Z : State} {a0 : Array Value} (hw : HW Z a0) : Jvm.Cond.before (Jvm.Cond.static ({ cls := "java/lang/String", name := "valueOf", desc := "(C)Ljava/lang/String;" } : Jvm.MethodName)) a0 Z = true := hw _ (List.mem_of_getElem? (i := 2) rfl)
theorem wd3 {Z : State} {a0 : Array Value} (hw : HW Z a0) : Jvm.Cond.before (Jvm.Cond.initialized "java/lang/String") a0 Z = true := hw _ (List.mem_of_getElem? (i := 3) rfl)
theorem wd4 {Z : State} {a0 : Array Value} (hw : HW Z a0) : Jvm.Cond.before (Jvm.Cond.code ({ cls := "java/lang/String", name := "valueOf", desc := "(C)Ljava/lang/String;" } : Jvm.MethodName) jdk_42_method_139_code (1 : Nat) (Option.some (Jvm.ClassFile.FieldType.object "java/lang/String"))) a0 Z = true := hw _ (List.mem_of_getElem? (i := 4) rfl)
theorem wd5 {Z : State} {a0 : Array Value} (hw : HW Z a0) : Jvm.Cond.before (Jvm.Cond.fieldLink "java/lang/String" (38 : Nat) "java/lang/String" "COMPACT_STRINGS" "Z") a0 Z = true := hw _ (List.mem_of_getElem? (i := 5) rfl)
theorem wd6 {Z : State} {a0 : Array Value} (hw : HW Z a0) : Jvm.Cond.before (Jvm.Cond.methodLink "java/lang/String" (1015 : Nat) ({ cls := "java/lang/StringLatin1", name := "canEncode", desc := "(C)Z" } : Jvm.MethodName)) a0 Z = true := hw _ (List.mem_of_getElem? (i := 6) rfl)
theorem wd7 {Z : State} {a0 : Array Value} (hw : HW Z a0) : Jvm.Cond.before (Jvm.Cond.static ({ cls := "java/lang/StringLatin1", name := "canEncode", desc := "(C)Z" } : Jvm.MethodName)) a0 Z = true := hw _ (List.mem_of_getElem? (i := 7) rfl)
theorem wd8 {Z : State} {a0 : Array Value} (hw : HW Z a0) : Jvm.Cond.before (Jvm.Cond.initialized "java/lang/StringLatin1") a0 Z = true := hw _ (List.mem_of_getElem? (i := 8) rfl)
theorem wd9 {Z : State} {a0 : Array Value} (hw : HW Z a0) : Jvm.Cond.before (Jvm.Cond.code ({ cls := "java/lang/StringLatin1", name := "canEncode", desc := "(C)Z" } : Jvm.MethodName) jdk_43_method_3_code (1 : Nat) (Option.some Jvm.ClassFile.FieldType.boolean)) a0 Z = true := hw _ (List.mem_of_getElem? (i := 9) rfl)
theorem wd10 {Z : State} {a0 : Array Value} (hw : HW Z a0) : Jvm.Cond.before (Jvm.Cond.classLink "java/lang/String" (10 : Nat) "java/lang/String") a0 Z = true := hw _ (List.mem_of_getElem? (i := 10) rfl)
theorem wd11 {Z : State} {a0 : Array Value} (hw : HW Z a0) : Jvm.Cond.before (Jvm.Cond.instantiable "java/lang/String" (4 : Nat)) a0 Z = true := hw _ (List.mem_of_getElem? (i := 11) rfl)
theorem wd12 {Z : State} {a0 : Array Value} (hw : HW Z a0) : Jvm.Cond.before (Jvm.Cond.methodLink "java/lang/String" (1018 : Nat) ({ cls := "java/lang/StringLatin1", name := "toBytes", desc := "(C)[B" } : Jvm.MethodName)) a0 Z = true := hw _ (List.mem_of_getElem? (i := 12) rfl)
theorem wd13 {Z : State} {a0 : Array Value} (hw : HW Z a0) : Jvm.Cond.before (Jvm.Cond.static ({ cls := "java/lang/StringLatin1", name := "toBytes", desc := "(C)[B" } : Jvm.MethodName)) a0 Z = true := hw _ (List.mem_of_getElem? (i := 13) rfl)
theorem wd14 {Z : State} {a0 : Array Value} (hw : HW Z a0) : Jvm.Cond.before (Jvm.Cond.code ({ cls := "java/lang/StringLatin1", name := "toBytes", desc := "(C)[B" } : Jvm.MethodName) jdk_43_method_46_code (1 : Nat) (Option.some (Jvm.ClassFile.FieldType.array Jvm.ClassFile.FieldType.byte))) a0 Z = true := hw _ (List.mem_of_getElem? (i := 14) rfl)
theorem wd15 {Z : State} {a0 : Array Value} (hw : HW Z a0) : Jvm.Cond.before (Jvm.Cond.arrayClass Jvm.ClassFile.FieldType.byte) a0 Z = true := hw _ (List.mem_of_getElem? (i := 15) rfl)
theorem wd16 {Z : State} {a0 : Array Value} (hw : HW Z a0) : Jvm.Cond.before (Jvm.Cond.methodLink "java/lang/String" (209 : Nat) ({ cls := "java/lang/String", name := "<init>", desc := "([BB)V" } : Jvm.MethodName)) a0 Z = true := hw _ (List.mem_of_getElem? (i := 16) rfl)
theorem wd17 {Z : State} {a0 : Array Value} (hw : HW Z a0) : Jvm.Cond.before (Jvm.Cond.instanceMethod ({ cls := "java/lang/String", name := "<init>", desc := "([BB)V" } : Jvm.MethodName)) a0 Z = true := hw _ (List.mem_of_getElem? (i := 17) rfl)
theorem wd19 {Z : State} {a0 : Array Value} (hw : HW Z a0) : Jvm.Cond.before (Jvm.Cond.code ({ cls := "java/lang/String", name := "<init>", desc := "([BB)V" } : Jvm.MethodName) jdk_42_method_151_code (3 : Nat) (Option.none : Option Jvm.ClassFile.FieldType)) a0 Z = true := hw _ (List.mem_of_getElem? (i := 19) rfl)
theorem wd20 {Z : State} {a0 : Array Value} (hw : HW Z a0) : Jvm.Cond.before (Jvm.Cond.methodLink "java/lang/String" (1 : Nat) ({ cls := "java/lang/Object", name := "<init>", desc := "()V" } : Jvm.MethodName)) a0 Z = true := hw _ (List.mem_of_getElem? (i := 20) rfl)
theorem wd21 {Z : State} {a0 : Array Value} (hw : HW Z a0) : Jvm.Cond.before (Jvm.Cond.instanceMethod ({ cls := "java/lang/Object", name := "<init>", desc := "()V" } : Jvm.MethodName)) a0 Z = true := hw _ (List.mem_of_getElem? (i := 21) rfl)
theorem wd22 {Z : State} {a0 : Array Value} (hw : HW Z a0) : Jvm.Cond.before (Jvm.Cond.code ({ cls := "java/lang/Object", name := "<init>", desc := "()V" } : Jvm.MethodName) object_method_1_code (1 : Nat) (Option.none : Option Jvm.ClassFile.FieldType)) a0 Z = true := hw _ (List.mem_of_getElem? (i := 22) rfl)
theorem wd23 {Z : State} {a0 : Array Value} (hw : HW Z a0) : Jvm.Cond.before (Jvm.Cond.fieldLink "java/lang/String" (9 : Nat) "java/lang/String" "value" "[B") a0 Z = true := hw _ (List.mem_of_getElem? (i := 23) rfl)
theorem wd24 {Z : State} {a0 : Array Value} (hw : HW Z a0) : Jvm.Cond.before (Jvm.Cond.laysFinal "java/lang/String" "java/lang/String" "value" "[B") a0 Z = true := hw _ (List.mem_of_getElem? (i := 24) rfl)
theorem wd25 {Z : State} {a0 : Array Value} (hw : HW Z a0) : Jvm.Cond.before (Jvm.Cond.fieldLink "java/lang/String" (15 : Nat) "java/lang/String" "coder" "B") a0 Z = true := hw _ (List.mem_of_getElem? (i := 25) rfl)
theorem wd26 {Z : State} {a0 : Array Value} (hw : HW Z a0) : Jvm.Cond.before (Jvm.Cond.laysFinal "java/lang/String" "java/lang/String" "coder" "B") a0 Z = true := hw _ (List.mem_of_getElem? (i := 26) rfl)
theorem wd27 {Z : State} {a0 : Array Value} (hw : HW Z a0) : Jvm.Cond.before (Jvm.Cond.fieldLink "com/example/tributary/tributary/target/AccessPointCoversSubfieldPinLaw" (14 : Nat) "com/example/tributary/tributary/target/AccessPoint" "TITLE" "Lcom/example/tributary/tributary/target/AccessPoint;") a0 Z = true := hw _ (List.mem_of_getElem? (i := 27) rfl)
theorem wd28 {Z : State} {a0 : Array Value} (hw : HW Z a0) : Jvm.Cond.before (Jvm.Cond.initialized "com/example/tributary/tributary/target/AccessPoint") a0 Z = true := hw _ (List.mem_of_getElem? (i := 28) rfl)
theorem wd29 {Z : State} {a0 : Array Value} (hw : HW Z a0) : Jvm.Cond.before (Jvm.Cond.laysStatic "com/example/tributary/tributary/target/AccessPoint" "TITLE" "Lcom/example/tributary/tributary/target/AccessPoint;") a0 Z = true := hw _ (List.mem_of_getElem? (i := 29) rfl)
theorem wd30 {Z : State} {a0 : Array Value} (hw : HW Z a0) : Jvm.Cond.before (Jvm.Cond.methodLink "com/example/tributary/tributary/target/AccessPointCoversSubfieldPinLaw" (32 : Nat) ({ cls := "com/example/tributary/tributary/target/AccessPoint", name := "coversSubfield", desc := "(Ljava/lang/String;)Z" } : Jvm.MethodName)) a0 Z = true := hw _ (List.mem_of_getElem? (i := 30) rfl)
theorem wd31 {Z : State} {a0 : Array Value} (hw : HW Z a0) : Jvm.Cond.before (Jvm.Cond.declares ({ cls := "com/example/tributary/tributary/target/AccessPoint", name := "coversSubfield", desc := "(Ljava/lang/String;)Z" } : Jvm.MethodName)) a0 Z = true := hw _ (List.mem_of_getElem? (i := 31) rfl)
theorem wd32 {Z : State} {a0 : Array Value} (hw : HW Z a0) : Jvm.Cond.before (Jvm.Cond.instanceMethod ({ cls := "com/example/tributary/tributary/target/AccessPoint", name := "coversSubfield", desc := "(Ljava/lang/String;)Z" } : Jvm.MethodName)) a0 Z = true := hw _ (List.mem_of_getElem? (i := 32) rfl)
theorem wd33 {Z : State} {a0 : Array Value} (hw : HW Z a0) : Jvm.Cond.before (Jvm.Cond.selects "com/example/tributary/tributary/target/AccessPoint" ({ cls := "com/example/tributary/tributary/target/AccessPoint", name := "coversSubfield", desc := "(Ljava/lang/String;)Z" } : Jvm.MethodName) ({ cls := "com/example/tributary/tributary/target/AccessPoint", name := "coversSubfield", desc := "(Ljava/lang/String;)Z" } : Jvm.MethodName)) a0 Z = true := hw _ (List.mem_of_getElem? (i := 33) rfl)
theorem wd34 {Z : State} {a0 : Array Value} (hw : HW Z a0) : Jvm.Cond.before (Jvm.Cond.code ({ cls := "com/example/tributary/tributary/target/AccessPoint", name := "coversSubfield", desc := "(Ljava/lang/String;)Z" } : Jvm.MethodName) prog_47_method_6_code (2 : Nat) (Option.some Jvm.ClassFile.FieldType.boolean)) a0 Z = true := hw _ (List.mem_of_getElem? (i := 34) rfl)
theorem wd35 {Z : State} {a0 : Array Value} (hw : HW Z a0) : Jvm.Cond.before (Jvm.Cond.fieldLink "com/example/tributary/tributary/target/AccessPoint" (16 : Nat) "com/example/tributary/tributary/target/AccessPoint" "ANY" "Lcom/example/tributary/tributary/target/AccessPoint;") a0 Z = true := hw _ (List.mem_of_getElem? (i := 35) rfl)
theorem wd36 {Z : State} {a0 : Array Value} (hw : HW Z a0) : Jvm.Cond.before (Jvm.Cond.laysStatic "com/example/tributary/tributary/target/AccessPoint" "ANY" "Lcom/example/tributary/tributary/target/AccessPoint;") a0 Z = true := hw _ (List.mem_of_getElem? (i := 36) rfl)
theorem wd37 {Z : State} {a0 : Array Value} (hw : HW Z a0) : Jvm.Cond.before (Jvm.Cond.fieldLink "com/example/tributary/tributary/target/AccessPoint" (46 : Nat) "com/example/tributary/tributary/target/AccessPoint" "m_sSubfieldCodes" "Ljava/lang/String;") a0 Z = true := hw _ (List.mem_of_getElem? (i := 37) rfl)
theorem wd39 {Z : State} {a0 : Array Value} (hw : HW Z a0) : Jvm.Cond.before (Jvm.Cond.methodLink "com/example/tributary/tributary/target/AccessPoint" (96 : Nat) ({ cls := "java/lang/String", name := "contains", desc := "(Ljava/lang/CharSequence;)Z" } : Jvm.MethodName)) a0 Z = true := hw _ (List.mem_of_getElem? (i := 39) rfl)
theorem wd40 {Z : State} {a0 : Array Value} (hw : HW Z a0) : Jvm.Cond.before (Jvm.Cond.declares ({ cls := "java/lang/String", name := "contains", desc := "(Ljava/lang/CharSequence;)Z" } : Jvm.MethodName)) a0 Z = true := hw _ (List.mem_of_getElem? (i := 40) rfl)
theorem wd41 {Z : State} {a0 : Array Value} (hw : HW Z a0) : Jvm.Cond.before (Jvm.Cond.instanceMethod ({ cls := "java/lang/String", name := "contains", desc := "(Ljava/lang/CharSequence;)Z" } : Jvm.MethodName)) a0 Z = true := hw _ (List.mem_of_getElem? (i := 41) rfl)
theorem wd42 {Z : State} {a0 : Array Value} (hw : HW Z a0) : Jvm.Cond.before (Jvm.Cond.selects "java/lang/String" ({ cls := "java/lang/String", name := "contains", desc := "(Ljava/lang/CharSequence;)Z" } : Jvm.MethodName) ({ cls := "java/lang/String", name := "contains", desc := "(Ljava/lang/CharSequence;)Z" } : Jvm.MethodName)) a0 Z = true := hw _ (List.mem_of_getElem? (i := 42) rfl)
theorem wd43 {Z : State} {a0 : Array Value} (hw : HW Z a0) : Jvm.Cond.before (Jvm.Cond.code ({ cls := "java/lang/String", name := "contains", desc := "(Ljava/lang/CharSequence;)Z" } : Jvm.MethodName) jdk_42_method_97_code (2 : Nat) (Option.some Jvm.ClassFile.FieldType.boolean)) a0 Z = true := hw _ (List.mem_of_getElem? (i := 43) rfl)
theorem wd44 {Z : State} {a0 : Array Value} (hw : HW Z a0) : Jvm.Cond.before (Jvm.Cond.methodLink "java/lang/String" (710 : Nat) ({ cls := "java/lang/CharSequence", name := "toString", desc := "()Ljava/lang/String;" } : Jvm.MethodName)) a0 Z = true := hw _ (List.mem_of_getElem? (i := 44) rfl)
theorem wd45 {Z : State} {a0 : Array Value} (hw : HW Z a0) : Jvm.Cond.before (Jvm.Cond.declares ({ cls := "java/lang/CharSequence", name := "toString", desc := "()Ljava/lang/String;" } : Jvm.MethodName)) a0 Z = true := hw _ (List.mem_of_getElem? (i := 45) rfl)
theorem wd46 {Z : State} {a0 : Array Value} (hw : HW Z a0) : Jvm.Cond.before (Jvm.Cond.interfaceMethod "java/lang/CharSequence" "java/lang/CharSequence" "toString" "()Ljava/lang/String;") a0 Z = true := hw _ (List.mem_of_getElem? (i := 46) rfl)
theorem wd47 {Z : State} {a0 : Array Value} (hw : HW Z a0) : Jvm.Cond.before (Jvm.Cond.selects "java/lang/String" ({ cls := "java/lang/CharSequence", name := "toString", desc := "()Ljava/lang/String;" } : Jvm.MethodName) ({ cls := "java/lang/String", name := "toString", desc := "()Ljava/lang/String;" } : Jvm.MethodName)) a0 Z = true := hw _ (List.mem_of_getElem? (i := 47) rfl)
theorem wd48 {Z : State} {a0 : Array Value} (hw : HW Z a0) : Jvm.Cond.before (Jvm.Cond.instanceMethod ({ cls := "java/lang/String", name := "toString", desc := "()Ljava/lang/String;" } : Jvm.MethodName)) a0 Z = true := hw _ (List.mem_of_getElem? (i := 48) rfl)
theorem wd49 {Z : State} {a0 : Array Value} (hw : HW Z a0) : Jvm.Cond.before (Jvm.Cond.publicMethod ({ cls := "java/lang/String", name := "toString", desc := "()Ljava/lang/String;" } : Jvm.MethodName)) a0 Z = true := hw _ (List.mem_of_getElem? (i := 49) rfl)
theorem wd50 {Z : State} {a0 : Array Value} (hw : HW Z a0) : Jvm.Cond.before (Jvm.Cond.unhidden "java/lang/String" "toString" "()Ljava/lang/String;") a0 Z = true := hw _ (List.mem_of_getElem? (i := 50) rfl)
theorem wd51 {Z : State} {a0 : Array Value} (hw : HW Z a0) : Jvm.Cond.before (Jvm.Cond.castable "java/lang/String" "java/lang/CharSequence") a0 Z = true := hw _ (List.mem_of_getElem? (i := 51) rfl)
theorem wd52 {Z : State} {a0 : Array Value} (hw : HW Z a0) : Jvm.Cond.before (Jvm.Cond.code ({ cls := "java/lang/String", name := "toString", desc := "()Ljava/lang/String;" } : Jvm.MethodName) jdk_42_method_126_code (1 : Nat) (Option.some (Jvm.ClassFile.FieldType.object "java/lang/String"))) a0 Z = true := hw _ (List.mem_of_getElem? (i := 52) rfl)
theorem wd53 {Z : State} {a0 : Array Value} (hw : HW Z a0) : Jvm.Cond.before (Jvm.Cond.methodLink "java/lang/String" (711 : Nat) ({ cls := "java/lang/String", name := "indexOf", desc := "(Ljava/lang/String;)I" } : Jvm.MethodName)) a0 Z = true := hw _ (List.mem_of_getElem? (i := 53) rfl)
theorem wd54 {Z : State} {a0 : Array Value} (hw : HW Z a0) : Jvm.Cond.before (Jvm.Cond.declares ({ cls := "java/lang/String", name := "indexOf", desc := "(Ljava/lang/String;)I" } : Jvm.MethodName)) a0 Z = true := hw _ (List.mem_of_getElem? (i := 54) rfl)
theorem wd55 {Z : State} {a0 : Array Value} (hw : HW Z a0) : Jvm.Cond.before (Jvm.Cond.instanceMethod ({ cls := "java/lang/String", name := "indexOf", desc := "(Ljava/lang/String;)I" } : Jvm.MethodName)) a0 Z = true := hw _ (List.mem_of_getElem? (i := 55) rfl)
theorem wd56 {Z : State} {a0 : Array Value} (hw : HW Z a0) : Jvm.Cond.before (Jvm.Cond.selects "java/lang/String" ({ cls := "java/lang/String", name := "indexOf", desc := "(Ljava/lang/String;)I" } : Jvm.MethodName) ({ cls := "java/lang/String", name := "indexOf", desc := "(Ljava/lang/String;)I" } : Jvm.MethodName)) a0 Z = true := hw _ (List.mem_of_getElem? (i := 56) rfl)
theorem wd57 {Z : State} {a0 : Array Value} (hw : HW Z a0) : Jvm.Cond.before (Jvm.Cond.code ({ cls := "java/lang/String", name := "indexOf", desc := "(Ljava/lang/String;)I" } : Jvm.MethodName) jdk_42_method_84_code (3 : Nat) (Option.some Jvm.ClassFile.FieldType.int)) a0 Z = true := hw _ (List.mem_of_getElem? (i := 57) rfl)
theorem wd58 {Z : State} {a0 : Array Value} (hw : HW Z a0) : Jvm.Cond.before (Jvm.Cond.methodLink "java/lang/String" (335 : Nat) ({ cls := "java/lang/String", name := "coder", desc := "()B" } : Jvm.MethodName)) a0 Z = true := hw _ (List.mem_of_getElem? (i := 58) rfl)
theorem wd59 {Z : State} {a0 : Array Value} (hw : HW Z a0) : Jvm.Cond.before (Jvm.Cond.declares ({ cls := "java/lang/String", name := "coder", desc := "()B" } : Jvm.MethodName)) a0 Z = true := hw _ (List.mem_of_getElem? (i := 59) rfl)
theorem wd60 {Z : State} {a0 : Array Value} (hw : HW Z a0) : Jvm.Cond.before (Jvm.Cond.instanceMethod ({ cls := "java/lang/String", name := "coder", desc := "()B" } : Jvm.MethodName)) a0 Z = true := hw _ (List.mem_of_getElem? (i := 60) rfl)
theorem wd61 {Z : State} {a0 : Array Value} (hw : HW Z a0) : Jvm.Cond.before (Jvm.Cond.selects "java/lang/String" ({ cls := "java/lang/String", name := "coder", desc := "()B" } : Jvm.MethodName) ({ cls := "java/lang/String", name := "coder", desc := "()B" } : Jvm.MethodName)) a0 Z = true := hw _ (List.mem_of_getElem? (i := 61) rfl)
theorem wd62 {Z : State} {a0 : Array Value} (hw : HW Z a0) : Jvm.Cond.before (Jvm.Cond.code ({ cls := "java/lang/String", name := "coder", desc := "()B" } : Jvm.MethodName) jdk_42_method_152_code (1 : Nat) (Option.some Jvm.ClassFile.FieldType.byte)) a0 Z = true := hw _ (List.mem_of_getElem? (i := 62) rfl)
theorem wd63 {Z : State} {a0 : Array Value} (hw : HW Z a0) : Jvm.Cond.before (Jvm.Cond.methodLink "java/lang/String" (492 : Nat) ({ cls := "java/lang/String", name := "isLatin1", desc := "()Z" } : Jvm.MethodName)) a0 Z = true := hw _ (List.mem_of_getElem? (i := 63) rfl)
theorem wd64 {Z : State} {a0 : Array Value} (hw : HW Z a0) : Jvm.Cond.before (Jvm.Cond.declares ({ cls := "java/lang/String", name := "isLatin1", desc := "()Z" } : Jvm.MethodName)) a0 Z = true := hw _ (List.mem_of_getElem? (i := 64) rfl)
theorem wd65 {Z : State} {a0 : Array Value} (hw : HW Z a0) : Jvm.Cond.before (Jvm.Cond.instanceMethod ({ cls := "java/lang/String", name := "isLatin1", desc := "()Z" } : Jvm.MethodName)) a0 Z = true := hw _ (List.mem_of_getElem? (i := 65) rfl)
theorem wd66 {Z : State} {a0 : Array Value} (hw : HW Z a0) : Jvm.Cond.before (Jvm.Cond.selects "java/lang/String" ({ cls := "java/lang/String", name := "isLatin1", desc := "()Z" } : Jvm.MethodName) ({ cls := "java/lang/String", name := "isLatin1", desc := "()Z" } : Jvm.MethodName)) a0 Z = true := hw _ (List.mem_of_getElem? (i := 66) rfl)
theorem wd67 {Z : State} {a0 : Array Value} (hw : HW Z a0) : Jvm.Cond.before (Jvm.Cond.code ({ cls := "java/lang/String", name := "isLatin1", desc := "()Z" } : Jvm.MethodName) jdk_42_method_154_code (1 : Nat) (Option.some Jvm.ClassFile.FieldType.boolean)) a0 Z = true := hw _ (List.mem_of_getElem? (i := 67) rfl)
theorem wd68 {Z : State} {a0 : Array Value} (hw : HW Z a0) : Jvm.Cond.before (Jvm.Cond.methodLink "java/lang/String" (647 : Nat) ({ cls := "java/lang/StringLatin1", name := "indexOf", desc := "([B[B)I" } : Jvm.MethodName)) a0 Z = true := hw _ (List.mem_of_getElem? (i := 68) rfl)
theorem wd69 {Z : State} {a0 : Array Value} (hw : HW Z a0) : Jvm.Cond.before (Jvm.Cond.static ({ cls := "java/lang/StringLatin1", name := "indexOf", desc := "([B[B)I" } : Jvm.MethodName)) a0 Z = true := hw _ (List.mem_of_getElem? (i := 69) rfl)
theorem wd70 {Z : State} {a0 : Array Value} (hw : HW Z a0) : Jvm.Cond.before (Jvm.Cond.code ({ cls := "java/lang/StringLatin1", name := "indexOf", desc := "([B[B)I" } : Jvm.MethodName) jdk_43_method_24_code (2 : Nat) (Option.some Jvm.ClassFile.FieldType.int)) a0 Z = true := hw _ (List.mem_of_getElem? (i := 70) rfl)
theorem wd71 {Z : State} {a0 : Array Value} (hw : HW Z a0) : Jvm.Cond.before (Jvm.Cond.methodLink "java/lang/StringLatin1" (99 : Nat) ({ cls := "java/lang/StringLatin1", name := "indexOf", desc := "([BI[BII)I" } : Jvm.MethodName)) a0 Z = true := hw _ (List.mem_of_getElem? (i := 71) rfl)
theorem wd72 {Z : State} {a0 : Array Value} (hw : HW Z a0) : Jvm.Cond.before (Jvm.Cond.static ({ cls := "java/lang/StringLatin1", name := "indexOf", desc := "([BI[BII)I" } : Jvm.MethodName)) a0 Z = true := hw _ (List.mem_of_getElem? (i := 72) rfl)
theorem wd73 {Z : State} {a0 : Array Value} (hw : HW Z a0) : Jvm.Cond.before (Jvm.Cond.code ({ cls := "java/lang/StringLatin1", name := "indexOf", desc := "([BI[BII)I" } : Jvm.MethodName) jdk_43_method_25_code (11 : Nat) (Option.some Jvm.ClassFile.FieldType.int)) a0 Z = true := hw _ (List.mem_of_getElem? (i := 73) rfl)
theorem wd74 {Z : State} {a0 : Array Value} (hw : HW Z a0) : Jvm.Cond.before (Jvm.Cond.fieldLink "com/example/tributary/tributary/target/AccessPointCoversSubfieldPinLaw" (29 : Nat) "com/example/tributary/tributary/target/AccessPoint" "ANY" "Lcom/example/tributary/tributary/target/AccessPoint;") a0 Z = true := hw _ (List.mem_of_getElem? (i := 74) rfl)
theorem wd75 {Z : State} {a0 : Array Value} (hw : HW Z a0) : Jvm.Cond.before (Jvm.Cond.fieldLink "com/example/tributary/tributary/target/AccessPointCoversSubfieldPinLaw" (26 : Nat) "com/example/tributary/tributary/target/AccessPoint" "ISBN" "Lcom/example/tributary/tributary/target/AccessPoint;") a0 Z = true := hw _ (List.mem_of_getElem? (i := 75) rfl)
theorem wd76 {Z : State} {a0 : Array Value} (hw : HW Z a0) : Jvm.Cond.before (Jvm.Cond.laysStatic "com/example/tributary/tributary/target/AccessPoint" "ISBN" "Lcom/example/tributary/tributary/target/AccessPoint;") a0 Z = true := hw _ (List.mem_of_getElem? (i := 76) rfl)
theorem wd77 {Z : State} {a0 : Array Value} (hw : HW Z a0) : Jvm.Cond.before (Jvm.Cond.fieldLink "com/example/tributary/tributary/target/AccessPointCoversSubfieldPinLaw" (20 : Nat) "com/example/tributary/tributary/target/AccessPoint" "AUTHOR" "Lcom/example/tributary/tributary/target/AccessPoint;") a0 Z = true := hw _ (List.mem_of_getElem? (i := 77) rfl)
theorem wd78 {Z : State} {a0 : Array Value} (hw : HW Z a0) : Jvm.Cond.before (Jvm.Cond.laysStatic "com/example/tributary/tributary/target/AccessPoint" "AUTHOR" "Lcom/example/tributary/tributary/target/AccessPoint;") a0 Z = true := hw _ (List.mem_of_getElem? (i := 78) rfl)
theorem wd79 {Z : State} {a0 : Array Value} (hw : HW Z a0) : Jvm.Cond.before (Jvm.Cond.fieldLink "com/example/tributary/tributary/target/AccessPointCoversSubfieldPinLaw" (23 : Nat) "com/example/tributary/tributary/target/AccessPoint" "SUBJECT" "Lcom/example/tributary/tributary/target/AccessPoint;") a0 Z = true := hw _ (List.mem_of_getElem? (i := 79) rfl)
theorem wd80 {Z : State} {a0 : Array Value} (hw : HW Z a0) : Jvm.Cond.before (Jvm.Cond.laysStatic "com/example/tributary/tributary/target/AccessPoint" "SUBJECT" "Lcom/example/tributary/tributary/target/AccessPoint;") a0 Z = true := hw _ (List.mem_of_getElem? (i := 80) rfl)
theorem pn0 : plainName "java/lang/StringLatin1" = true := by first | (simp [plainName, overriddenIn]; done) | decide +kernel
theorem pn1 : plainName "java/lang/String" = true := by first | (simp [plainName, overriddenIn]; done) | decide +kernel
theorem pn2 : plainName "com/example/tributary/tributary/target/AccessPoint" = true := by first | (simp [plainName, overriddenIn]; done) | decide +kernel
theorem pn3 : plainName "com/example/tributary/tributary/target/AccessPointCoversSubfieldPinLaw" = true := by first | (simp [plainName, overriddenIn]; done) | decide +kernel
theorem pd0 : parseMethodDescriptor "(C)Z" = some ⟨[.char], some .boolean⟩ := by decide +kernel
theorem pd1 : parseMethodDescriptor "(C)[B" = some ⟨[.char], some (.array .byte)⟩ := by decide +kernel
theorem pd2 : parseMethodDescriptor "([BB)V" = some ⟨[(.array .byte), .byte], none⟩ := by decide +kernel
theorem pd3 : parseMethodDescriptor "([BI[BII)I" = some ⟨[(.array .byte), .int, (.array .byte), .int, .int], some .int⟩ := by decide +kernel
theorem pd4 : parseMethodDescriptor "()B" = some ⟨[], some .byte⟩ := by decide +kernel
theorem pd5 : parseMethodDescriptor "()Z" = some ⟨[], some .boolean⟩ := by decide +kernel
theorem pd6 : parseMethodDescriptor "([B[B)I" = some ⟨[(.array .byte), (.array .byte)], some .int⟩ := by decide +kernel
theorem pd7 : parseMethodDescriptor "()Ljava/lang/String;" = some ⟨[], some (.object "java/lang/String")⟩ := by decide +kernel
theorem pd8 : parseMethodDescriptor "(Ljava/lang/String;)I" = some ⟨[(.object "java/lang/String")], some .int⟩ := by decide +kernel
theorem pd9 : parseMethodDescriptor "(Ljava/lang/CharSequence;)Z" = some ⟨[(.object "java/lang/CharSequence")], some .boolean⟩ := by decide +kernel
theorem pd10 : parseMethodDescriptor "(C)Ljava/lang/String;" = some ⟨[.char], some (.object "java/lang/String")⟩ := by decide +kernel
theorem pd11 : parseMethodDescriptor "(Ljava/lang/String;)Z" = some ⟨[(.object "java/lang/String")], some .boolean⟩ := by decide +kernel
theorem d_jdk_42_method_126_code_0 : decode jdk_42_method_126_code 0 = .ok (.aload_n 0, 1) := by decide +kernel
theorem d_jdk_42_method_126_code_1 : decode jdk_42_method_126_code 1 = .ok (.areturn, 1) := by decide +kernel
theorem d_jdk_42_method_139_code_0 : decode jdk_42_method_139_code 0 = .ok (.getstatic 38, 3) := by decide +kernel
theorem d_jdk_42_method_139_code_3 : decode jdk_42_method_139_code 3 = .ok (.ifCond .eq 23, 3) := by decide +kernel
theorem d_jdk_42_method_139_code_6 : decode jdk_42_method_139_code 6 = .ok (.iload_n 0, 1) := by decide +kernel
theorem d_jdk_42_method_139_code_7 : decode jdk_42_method_139_code 7 = .ok (.invokestatic 1015, 3) := by decide +kernel
theorem d_jdk_42_method_139_code_10 : decode jdk_42_method_139_code 10 = .ok (.ifCond .eq 16, 3) := by decide +kernel
theorem d_jdk_42_method_139_code_13 : decode jdk_42_method_139_code 13 = .ok (.new 10, 3) := by decide +kernel
theorem d_jdk_42_method_139_code_16 : decode jdk_42_method_139_code 16 = .ok (.dup, 1) := by decide +kernel
theorem d_jdk_42_method_139_code_17 : decode jdk_42_method_139_code 17 = .ok (.iload_n 0, 1) := by decide +kernel
theorem d_jdk_42_method_139_code_18 : decode jdk_42_method_139_code 18 = .ok (.invokestatic 1018, 3) := by decide +kernel
theorem d_jdk_42_method_139_code_21 : decode jdk_42_method_139_code 21 = .ok (.iconst 0, 1) := by decide +kernel
theorem d_jdk_42_method_139_code_22 : decode jdk_42_method_139_code 22 = .ok (.invokespecial 209, 3) := by decide +kernel
theorem d_jdk_42_method_139_code_25 : decode jdk_42_method_139_code 25 = .ok (.areturn, 1) := by decide +kernel
theorem d_jdk_42_method_151_code_0 : decode jdk_42_method_151_code 0 = .ok (.aload_n 0, 1) := by decide +kernel
theorem d_jdk_42_method_151_code_1 : decode jdk_42_method_151_code 1 = .ok (.invokespecial 1, 3) := by decide +kernel
theorem d_jdk_42_method_151_code_4 : decode jdk_42_method_151_code 4 = .ok (.aload_n 0, 1) := by decide +kernel
theorem d_jdk_42_method_151_code_5 : decode jdk_42_method_151_code 5 = .ok (.aload_n 1, 1) := by decide +kernel
theorem d_jdk_42_method_151_code_6 : decode jdk_42_method_151_code 6 = .ok (.putfield 9, 3) := by decide +kernel
theorem d_jdk_42_method_151_code_9 : decode jdk_42_method_151_code 9 = .ok (.aload_n 0, 1) := by decide +kernel
theorem d_jdk_42_method_151_code_10 : decode jdk_42_method_151_code 10 = .ok (.iload_n 2, 1) := by decide +kernel
theorem d_jdk_42_method_151_code_11 : decode jdk_42_method_151_code 11 = .ok (.putfield 15, 3) := by decide +kernel
theorem d_jdk_42_method_151_code_14 : decode jdk_42_method_151_code 14 = .ok (.return_, 1) := by decide +kernel
theorem d_jdk_42_method_152_code_0 : decode jdk_42_method_152_code 0 = .ok (.getstatic 38, 3) := by decide +kernel
theorem d_jdk_42_method_152_code_3 : decode jdk_42_method_152_code 3 = .ok (.ifCond .eq 10, 3) := by decide +kernel
theorem d_jdk_42_method_152_code_6 : decode jdk_42_method_152_code 6 = .ok (.aload_n 0, 1) := by decide +kernel
theorem d_jdk_42_method_152_code_7 : decode jdk_42_method_152_code 7 = .ok (.getfield 15, 3) := by decide +kernel
theorem d_jdk_42_method_152_code_10 : decode jdk_42_method_152_code 10 = .ok (.goto 4, 3) := by decide +kernel
theorem d_jdk_42_method_152_code_14 : decode jdk_42_method_152_code 14 = .ok (.ireturn, 1) := by decide +kernel
theorem d_jdk_42_method_154_code_0 : decode jdk_42_method_154_code 0 = .ok (.getstatic 38, 3) := by decide +kernel
theorem d_jdk_42_method_154_code_3 : decode jdk_42_method_154_code 3 = .ok (.ifCond .eq 14, 3) := by decide +kernel
theorem d_jdk_42_method_154_code_6 : decode jdk_42_method_154_code 6 = .ok (.aload_n 0, 1) := by decide +kernel
theorem d_jdk_42_method_154_code_7 : decode jdk_42_method_154_code 7 = .ok (.getfield 15, 3) := by decide +kernel
theorem d_jdk_42_method_154_code_10 : decode jdk_42_method_154_code 10 = .ok (.ifCond .ne 7, 3) := by decide +kernel
theorem d_jdk_42_method_154_code_13 : decode jdk_42_method_154_code 13 = .ok (.iconst 1, 1) := by decide +kernel
theorem d_jdk_42_method_154_code_14 : decode jdk_42_method_154_code 14 = .ok (.goto 4, 3) := by decide +kernel
theorem d_jdk_42_method_154_code_18 : decode jdk_42_method_154_code 18 = .ok (.ireturn, 1) := by decide +kernel
theorem d_jdk_42_method_84_code_0 : decode jdk_42_method_84_code 0 = .ok (.aload_n 0, 1) := by decide +kernel
theorem d_jdk_42_method_84_code_1 : decode jdk_42_method_84_code 1 = .ok (.invokevirtual 335, 3) := by decide +kernel
theorem d_jdk_42_method_84_code_4 : decode jdk_42_method_84_code 4 = .ok (.istore_n 2, 1) := by decide +kernel
theorem d_jdk_42_method_84_code_5 : decode jdk_42_method_84_code 5 = .ok (.iload_n 2, 1) := by decide +kernel
theorem d_jdk_42_method_84_code_6 : decode jdk_42_method_84_code 6 = .ok (.aload_n 1, 1) := by decide +kernel
theorem d_jdk_42_method_84_code_7 : decode jdk_42_method_84_code 7 = .ok (.invokevirtual 335, 3) := by decide +kernel
theorem d_jdk_42_method_84_code_10 : decode jdk_42_method_84_code 10 = .ok (.if_icmp .ne 36, 3) := by decide +kernel
theorem d_jdk_42_method_84_code_13 : decode jdk_42_method_84_code 13 = .ok (.aload_n 0, 1) := by decide +kernel
theorem d_jdk_42_method_84_code_14 : decode jdk_42_method_84_code 14 = .ok (.invokevirtual 492, 3) := by decide +kernel
theorem d_jdk_42_method_84_code_17 : decode jdk_42_method_84_code 17 = .ok (.ifCond .eq 17, 3) := by decide +kernel
theorem d_jdk_42_method_84_code_20 : decode jdk_42_method_84_code 20 = .ok (.aload_n 0, 1) := by decide +kernel
theorem d_jdk_42_method_84_code_21 : decode jdk_42_method_84_code 21 = .ok (.getfield 9, 3) := by decide +kernel
theorem d_jdk_42_method_84_code_24 : decode jdk_42_method_84_code 24 = .ok (.aload_n 1, 1) := by decide +kernel
theorem d_jdk_42_method_84_code_25 : decode jdk_42_method_84_code 25 = .ok (.getfield 9, 3) := by decide +kernel
theorem d_jdk_42_method_84_code_28 : decode jdk_42_method_84_code 28 = .ok (.invokestatic 647, 3) := by decide +kernel
theorem d_jdk_42_method_84_code_31 : decode jdk_42_method_84_code 31 = .ok (.goto 14, 3) := by decide +kernel
theorem d_jdk_42_method_84_code_45 : decode jdk_42_method_84_code 45 = .ok (.ireturn, 1) := by decide +kernel
theorem d_jdk_42_method_97_code_0 : decode jdk_42_method_97_code 0 = .ok (.aload_n 0, 1) := by decide +kernel
theorem d_jdk_42_method_97_code_1 : decode jdk_42_method_97_code 1 = .ok (.aload_n 1, 1) := by decide +kernel
theorem d_jdk_42_method_97_code_2 : decode jdk_42_method_97_code 2 = .ok (.invokeinterface 710 1, 5) := by decide +kernel
theorem d_jdk_42_method_97_code_7 : decode jdk_42_method_97_code 7 = .ok (.invokevirtual 711, 3) := by decide +kernel
theorem d_jdk_42_method_97_code_10 : decode jdk_42_method_97_code 10 = .ok (.ifCond .lt 7, 3) := by decide +kernel
theorem d_jdk_42_method_97_code_13 : decode jdk_42_method_97_code 13 = .ok (.iconst 1, 1) := by decide +kernel
theorem d_jdk_42_method_97_code_14 : decode jdk_42_method_97_code 14 = .ok (.goto 4, 3) := by decide +kernel
theorem d_jdk_42_method_97_code_17 : decode jdk_42_method_97_code 17 = .ok (.iconst 0, 1) := by decide +kernel
theorem d_jdk_42_method_97_code_18 : decode jdk_42_method_97_code 18 = .ok (.ireturn, 1) := by decide +kernel
theorem d_jdk_43_method_24_code_0 : decode jdk_43_method_24_code 0 = .ok (.aload_n 1, 1) := by decide +kernel
theorem d_jdk_43_method_24_code_1 : decode jdk_43_method_24_code 1 = .ok (.arraylength, 1) := by decide +kernel
theorem d_jdk_43_method_24_code_2 : decode jdk_43_method_24_code 2 = .ok (.ifCond .ne 5, 3) := by decide +kernel
theorem d_jdk_43_method_24_code_7 : decode jdk_43_method_24_code 7 = .ok (.aload_n 0, 1) := by decide +kernel
theorem d_jdk_43_method_24_code_8 : decode jdk_43_method_24_code 8 = .ok (.arraylength, 1) := by decide +kernel
theorem d_jdk_43_method_24_code_9 : decode jdk_43_method_24_code 9 = .ok (.ifCond .ne 5, 3) := by decide +kernel
theorem d_jdk_43_method_24_code_14 : decode jdk_43_method_24_code 14 = .ok (.aload_n 0, 1) := by decide +kernel
theorem d_jdk_43_method_24_code_15 : decode jdk_43_method_24_code 15 = .ok (.aload_n 0, 1) := by decide +kernel
theorem d_jdk_43_method_24_code_16 : decode jdk_43_method_24_code 16 = .ok (.arraylength, 1) := by decide +kernel
theorem d_jdk_43_method_24_code_17 : decode jdk_43_method_24_code 17 = .ok (.aload_n 1, 1) := by decide +kernel
theorem d_jdk_43_method_24_code_18 : decode jdk_43_method_24_code 18 = .ok (.aload_n 1, 1) := by decide +kernel
theorem d_jdk_43_method_24_code_19 : decode jdk_43_method_24_code 19 = .ok (.arraylength, 1) := by decide +kernel
theorem d_jdk_43_method_24_code_20 : decode jdk_43_method_24_code 20 = .ok (.iconst 0, 1) := by decide +kernel
theorem d_jdk_43_method_24_code_21 : decode jdk_43_method_24_code 21 = .ok (.invokestatic 99, 3) := by decide +kernel
theorem d_jdk_43_method_24_code_24 : decode jdk_43_method_24_code 24 = .ok (.ireturn, 1) := by decide +kernel
theorem d_jdk_43_method_25_code_0 : decode jdk_43_method_25_code 0 = .ok (.aload_n 2, 1) := by decide +kernel
theorem d_jdk_43_method_25_code_1 : decode jdk_43_method_25_code 1 = .ok (.iconst 0, 1) := by decide +kernel
theorem d_jdk_43_method_25_code_2 : decode jdk_43_method_25_code 2 = .ok (.baload, 1) := by decide +kernel
theorem d_jdk_43_method_25_code_3 : decode jdk_43_method_25_code 3 = .ok (.istore 5, 2) := by decide +kernel
theorem d_jdk_43_method_25_code_5 : decode jdk_43_method_25_code 5 = .ok (.iload_n 1, 1) := by decide +kernel
theorem d_jdk_43_method_25_code_6 : decode jdk_43_method_25_code 6 = .ok (.iload_n 3, 1) := by decide +kernel
theorem d_jdk_43_method_25_code_7 : decode jdk_43_method_25_code 7 = .ok (.isub, 1) := by decide +kernel
theorem d_jdk_43_method_25_code_8 : decode jdk_43_method_25_code 8 = .ok (.istore 6, 2) := by decide +kernel
theorem d_jdk_43_method_25_code_10 : decode jdk_43_method_25_code 10 = .ok (.iload 4, 2) := by decide +kernel
theorem d_jdk_43_method_25_code_12 : decode jdk_43_method_25_code 12 = .ok (.istore 7, 2) := by decide +kernel
theorem d_jdk_43_method_25_code_14 : decode jdk_43_method_25_code 14 = .ok (.iload 7, 2) := by decide +kernel
theorem d_jdk_43_method_25_code_16 : decode jdk_43_method_25_code 16 = .ok (.iload 6, 2) := by decide +kernel
theorem d_jdk_43_method_25_code_18 : decode jdk_43_method_25_code 18 = .ok (.if_icmp .gt 101, 3) := by decide +kernel
theorem d_jdk_43_method_25_code_21 : decode jdk_43_method_25_code 21 = .ok (.aload_n 0, 1) := by decide +kernel
theorem d_jdk_43_method_25_code_22 : decode jdk_43_method_25_code 22 = .ok (.iload 7, 2) := by decide +kernel
theorem d_jdk_43_method_25_code_24 : decode jdk_43_method_25_code 24 = .ok (.baload, 1) := by decide +kernel
theorem d_jdk_43_method_25_code_25 : decode jdk_43_method_25_code 25 = .ok (.iload 5, 2) := by decide +kernel
theorem d_jdk_43_method_25_code_27 : decode jdk_43_method_25_code 27 = .ok (.if_icmp .eq 25, 3) := by decide +kernel
theorem d_jdk_43_method_25_code_30 : decode jdk_43_method_25_code 30 = .ok (.iinc 7 1, 3) := by decide +kernel
theorem d_jdk_43_method_25_code_33 : decode jdk_43_method_25_code 33 = .ok (.iload 7, 2) := by decide +kernel
theorem d_jdk_43_method_25_code_35 : decode jdk_43_method_25_code 35 = .ok (.iload 6, 2) := by decide +kernel
theorem d_jdk_43_method_25_code_37 : decode jdk_43_method_25_code 37 = .ok (.if_icmp .gt 15, 3) := by decide +kernel
theorem d_jdk_43_method_25_code_40 : decode jdk_43_method_25_code 40 = .ok (.aload_n 0, 1) := by decide +kernel
theorem d_jdk_43_method_25_code_41 : decode jdk_43_method_25_code 41 = .ok (.iload 7, 2) := by decide +kernel
theorem d_jdk_43_method_25_code_43 : decode jdk_43_method_25_code 43 = .ok (.baload, 1) := by decide +kernel
theorem d_jdk_43_method_25_code_44 : decode jdk_43_method_25_code 44 = .ok (.iload 5, 2) := by decide +kernel
theorem d_jdk_43_method_25_code_46 : decode jdk_43_method_25_code 46 = .ok (.if_icmp .eq 6, 3) := by decide +kernel
theorem d_jdk_43_method_25_code_49 : decode jdk_43_method_25_code 49 = .ok (.goto (-19), 3) := by decide +kernel
theorem d_jdk_43_method_25_code_52 : decode jdk_43_method_25_code 52 = .ok (.iload 7, 2) := by decide +kernel
theorem d_jdk_43_method_25_code_54 : decode jdk_43_method_25_code 54 = .ok (.iload 6, 2) := by decide +kernel
theorem d_jdk_43_method_25_code_56 : decode jdk_43_method_25_code 56 = .ok (.if_icmp .gt 57, 3) := by decide +kernel
theorem d_jdk_43_method_25_code_59 : decode jdk_43_method_25_code 59 = .ok (.iload 7, 2) := by decide +kernel
theorem d_jdk_43_method_25_code_61 : decode jdk_43_method_25_code 61 = .ok (.iconst 1, 1) := by decide +kernel
theorem d_jdk_43_method_25_code_62 : decode jdk_43_method_25_code 62 = .ok (.iadd, 1) := by decide +kernel
theorem d_jdk_43_method_25_code_63 : decode jdk_43_method_25_code 63 = .ok (.istore 8, 2) := by decide +kernel
theorem d_jdk_43_method_25_code_65 : decode jdk_43_method_25_code 65 = .ok (.iload 8, 2) := by decide +kernel
theorem d_jdk_43_method_25_code_67 : decode jdk_43_method_25_code 67 = .ok (.iload_n 3, 1) := by decide +kernel
theorem d_jdk_43_method_25_code_68 : decode jdk_43_method_25_code 68 = .ok (.iadd, 1) := by decide +kernel
theorem d_jdk_43_method_25_code_69 : decode jdk_43_method_25_code 69 = .ok (.iconst 1, 1) := by decide +kernel
theorem d_jdk_43_method_25_code_70 : decode jdk_43_method_25_code 70 = .ok (.isub, 1) := by decide +kernel
theorem d_jdk_43_method_25_code_71 : decode jdk_43_method_25_code 71 = .ok (.istore 9, 2) := by decide +kernel
theorem d_jdk_43_method_25_code_73 : decode jdk_43_method_25_code 73 = .ok (.iconst 1, 1) := by decide +kernel
theorem d_jdk_43_method_25_code_74 : decode jdk_43_method_25_code 74 = .ok (.istore 10, 2) := by decide +kernel
theorem d_jdk_43_method_25_code_76 : decode jdk_43_method_25_code 76 = .ok (.iload 8, 2) := by decide +kernel
theorem d_jdk_43_method_25_code_78 : decode jdk_43_method_25_code 78 = .ok (.iload 9, 2) := by decide +kernel
theorem d_jdk_43_method_25_code_80 : decode jdk_43_method_25_code 80 = .ok (.if_icmp .ge 23, 3) := by decide +kernel
theorem d_jdk_43_method_25_code_103 : decode jdk_43_method_25_code 103 = .ok (.iload 8, 2) := by decide +kernel
theorem d_jdk_43_method_25_code_105 : decode jdk_43_method_25_code 105 = .ok (.iload 9, 2) := by decide +kernel
theorem d_jdk_43_method_25_code_107 : decode jdk_43_method_25_code 107 = .ok (.if_icmp .ne 6, 3) := by decide +kernel
theorem d_jdk_43_method_25_code_110 : decode jdk_43_method_25_code 110 = .ok (.iload 7, 2) := by decide +kernel
theorem d_jdk_43_method_25_code_112 : decode jdk_43_method_25_code 112 = .ok (.ireturn, 1) := by decide +kernel
theorem d_jdk_43_method_25_code_113 : decode jdk_43_method_25_code 113 = .ok (.iinc 7 1, 3) := by decide +kernel
theorem d_jdk_43_method_25_code_116 : decode jdk_43_method_25_code 116 = .ok (.goto (-102), 3) := by decide +kernel
theorem d_jdk_43_method_25_code_119 : decode jdk_43_method_25_code 119 = .ok (.iconst (-1), 1) := by decide +kernel
theorem d_jdk_43_method_25_code_120 : decode jdk_43_method_25_code 120 = .ok (.ireturn, 1) := by decide +kernel
theorem d_jdk_43_method_3_code_0 : decode jdk_43_method_3_code 0 = .ok (.iload_n 0, 1) := by decide +kernel
theorem d_jdk_43_method_3_code_1 : decode jdk_43_method_3_code 1 = .ok (.sipush 255, 3) := by decide +kernel
theorem d_jdk_43_method_3_code_4 : decode jdk_43_method_3_code 4 = .ok (.if_icmp .gt 7, 3) := by decide +kernel
theorem d_jdk_43_method_3_code_7 : decode jdk_43_method_3_code 7 = .ok (.iconst 1, 1) := by decide +kernel
theorem d_jdk_43_method_3_code_8 : decode jdk_43_method_3_code 8 = .ok (.goto 4, 3) := by decide +kernel
theorem d_jdk_43_method_3_code_12 : decode jdk_43_method_3_code 12 = .ok (.ireturn, 1) := by decide +kernel
theorem d_jdk_43_method_46_code_0 : decode jdk_43_method_46_code 0 = .ok (.iconst 1, 1) := by decide +kernel
theorem d_jdk_43_method_46_code_1 : decode jdk_43_method_46_code 1 = .ok (.newarray .byte, 2) := by decide +kernel
theorem d_jdk_43_method_46_code_3 : decode jdk_43_method_46_code 3 = .ok (.dup, 1) := by decide +kernel
theorem d_jdk_43_method_46_code_4 : decode jdk_43_method_46_code 4 = .ok (.iconst 0, 1) := by decide +kernel
theorem d_jdk_43_method_46_code_5 : decode jdk_43_method_46_code 5 = .ok (.iload_n 0, 1) := by decide +kernel
theorem d_jdk_43_method_46_code_6 : decode jdk_43_method_46_code 6 = .ok (.i2b, 1) := by decide +kernel
theorem d_jdk_43_method_46_code_7 : decode jdk_43_method_46_code 7 = .ok (.bastore, 1) := by decide +kernel
theorem d_jdk_43_method_46_code_8 : decode jdk_43_method_46_code 8 = .ok (.areturn, 1) := by decide +kernel
theorem d_prog_47_method_6_code_0 : decode prog_47_method_6_code 0 = .ok (.aload_n 0, 1) := by decide +kernel
theorem d_prog_47_method_6_code_1 : decode prog_47_method_6_code 1 = .ok (.getstatic 16, 3) := by decide +kernel
theorem d_prog_47_method_6_code_4 : decode prog_47_method_6_code 4 = .ok (.if_acmp .eq 14, 3) := by decide +kernel
theorem d_prog_47_method_6_code_7 : decode prog_47_method_6_code 7 = .ok (.aload_n 0, 1) := by decide +kernel
theorem d_prog_47_method_6_code_8 : decode prog_47_method_6_code 8 = .ok (.getfield 46, 3) := by decide +kernel
theorem d_prog_47_method_6_code_11 : decode prog_47_method_6_code 11 = .ok (.aload_n 1, 1) := by decide +kernel
theorem d_prog_47_method_6_code_12 : decode prog_47_method_6_code 12 = .ok (.invokevirtual 96, 3) := by decide +kernel
theorem d_prog_47_method_6_code_15 : decode prog_47_method_6_code 15 = .ok (.ifCond .eq 7, 3) := by decide +kernel
theorem d_prog_47_method_6_code_18 : decode prog_47_method_6_code 18 = .ok (.iconst 1, 1) := by decide +kernel
theorem d_prog_47_method_6_code_19 : decode prog_47_method_6_code 19 = .ok (.goto 4, 3) := by decide +kernel
theorem d_prog_47_method_6_code_22 : decode prog_47_method_6_code 22 = .ok (.iconst 0, 1) := by decide +kernel
theorem d_prog_47_method_6_code_23 : decode prog_47_method_6_code 23 = .ok (.ireturn, 1) := by decide +kernel
theorem own_toInt {i : Nat} (h : i < 2147483648) : i.toInt32.toInt = i := len_toInt (by omega)
theorem own_clamp {i : Nat} (h : i < 2147483648) : i.toInt32.toNatClampNeg = i := by
  simp only [Int32.toNatClampNeg]
  rw [own_toInt h]
  omega
theorem own_ltn {i n : Nat} (hi : i < 2147483648) (hn : n < 2147483648) : i.toInt32 < n.toInt32 ↔ i < n := by
  rw [Int32.lt_iff_toInt_lt, own_toInt hi, own_toInt hn]
  omega
theorem own_inb {i n : Nat} (h : i < n) (hn : n < 2147483648) : ¬ i.toInt32 < 0 ∧ i.toInt32 < n.toInt32 := by
  refine ⟨?_, (own_ltn (by omega) hn).mpr h⟩
  rw [Int32.lt_iff_toInt_lt, own_toInt (by omega)]
  have e0 : (0 : Int32).toInt = 0 := rfl
  omega
theorem own_incN {i : Nat} (h : i < 2147483647) : i.toInt32 + 1 = (i + 1).toInt32 := by
  rw [← Int32.toInt_inj, own_toInt (i := i + 1) (by omega)]
  have a := c_iadd i.toInt32 1
  have r := rng32 (i.toInt32 + 1)
  have e1 : (1 : Int32).toInt = 1 := rfl
  rw [own_toInt (i := i) (by omega), e1] at a
  omega
theorem own_getD (bs : List Int32) (i : Nat) : (bs.map Value.int).getD i (.int 0) = .int (bs.getD i 0) := by
  simp only [List.getD_eq_getElem?_getD, List.getElem?_map]
  cases bs[i]? <;> rfl
theorem own_at {bs : List Int32} {i : Nat} (h : i < 2147483648) : (bs.map Value.int).getD i.toInt32.toNatClampNeg (.int 0) = .int (bs.getD i 0) := by
  rw [own_clamp h, own_getD]
theorem own_take {a b : List Int32} {i : Nat} (h : a.take i = b.take i) (ha : i < a.length) (hb : i < b.length) (q : a.getD i 0 = b.getD i 0) : a.take (i + 1) = b.take (i + 1) := by
  rw [List.take_add_one, List.take_add_one, h]
  simp only [List.getD_eq_getElem?_getD, List.getElem?_eq_getElem ha, List.getElem?_eq_getElem hb, Option.getD_some] at q
  rw [List.getElem?_eq_getElem ha, List.getElem?_eq_getElem hb, q]
theorem own_sub {i n : Nat} (h : i ≤ n) (hn : n < 2147483648) : n.toInt32 - i.toInt32 = (n - i).toInt32 := by
  rw [← Int32.toInt_inj, own_toInt (i := n - i) (by omega)]
  have a := c_isub n.toInt32 i.toInt32
  have r := rng32 (n.toInt32 - i.toInt32)
  rw [own_toInt (i := i) (by omega), own_toInt hn] at a
  omega
/-- the byte of a char -/
def own_b (c : Int32) : Int32 := c.toInt8.toInt32
theorem own_byte (c : Int32) : nar .byte (c.toInt8.toInt32) = own_b c := by
  show (c.toInt8.toInt32).toInt8.toInt32 = c.toInt8.toInt32
  have q := Jvm.Free.XT.narrow_b c
  exact Value.int.inj q
/-- the String at a, its bytes at t -/
def StrAt (Z : State) (h : Heap) (a t : Addr) (kb : ClassId) (bs : List Int32) : Prop := Exa Z h a "java/lang/String" ∧ Fld Z h a "java/lang/String" "coder" "B" (.int 0) ∧ Fld Z h a "java/lang/String" "value" "[B" (.ref t) ∧ Arv Z h t kb .byte bs.length.toInt32 (bs.map Value.int) (.int 0) ∧ bs.length < 100
section
variable {Z : State} {h h' : Heap} {a t b : Addr} {kb : ClassId} {bs : List Int32} {ws : List Addr} {sl : Nat} {v : Value}
theorem StrAt.ext (F : StrAt Z h a t kb bs) (E : Ext h h') : StrAt Z h' a t kb bs := ⟨F.1.ext E, F.2.1.ext E, F.2.2.1.ext E, F.2.2.2.1.ext E, F.2.2.2.2⟩
theorem StrAt.keep (F : StrAt Z h a t kb bs) (K : Keep h h' ws) (qa : a ∉ ws) (qt : t ∉ ws) : StrAt Z h' a t kb bs := ⟨F.1.keep K, F.2.1.keep K qa, F.2.2.1.keep K qa, F.2.2.2.1.keep K qt, F.2.2.2.2⟩
theorem StrAt.other (F : StrAt Z h a t kb bs) (W : Wr h h' b sl v) (qa : a ≠ b) (qt : t ≠ b) : StrAt Z h' a t kb bs := ⟨F.1.wr W, F.2.1.other W (Or.inl qa), F.2.2.1.other W (Or.inl qa), F.2.2.2.1.other W qt, F.2.2.2.2⟩
theorem StrAt.lt (F : StrAt Z h a t kb bs) : a < h.size := F.1.lt
theorem StrAt.lt2 (F : StrAt Z h a t kb bs) : t < h.size := F.2.2.2.1.lt
end
set_option maxRecDepth 65536 in
set_option maxHeartbeats 4000000 in
theorem rm_canEnc {l : Launch} {Z : State} {a0 : Array Value} (hw : HW Z a0) (ch : Int32)  {h0 : Heap} (hE : Ext Z.heap h0) (hc : ¬ 255 < ch) :
    OMeets l Z (⟨"java/lang/StringLatin1", "canEncode", "(C)Z"⟩ : MethodName) jdk_43_method_3_code 1 (some .boolean) ({ frames := 0, cells := 0, slots := 0, locals := 0 } : Room) #[(.int ch)] h0 [] (fun v h => v = some (.int 1) ∧ h0 = h) := by
  refine OMeets.body (plainFor_of_name pn0) hE #[.val (.int ch)] (fun m => by first | rfl | (simp [entryFrame, mkF, argsToLocals, Value.category, maxLocals]; done)) ?_
  intro p e s m below meth co T S
  refine Go.iloadN S d_jdk_43_method_3_code_0 rfl (pc' := 1) rfl ?_
  refine Go.sipush S (v := 255) d_jdk_43_method_3_code_1 rfl (pc' := 4) rfl ?_
  refine Go.icmp_gt S d_jdk_43_method_3_code_4 (pt := 11) (by decide) (pc' := 7) rfl ?_ ?_
  · intro c4; exact absurd c4 hc
  · intro c4
    refine Go.iconst S (v := 1) d_jdk_43_method_3_code_7 rfl (pc' := 8) rfl ?_
    refine Go.goto S d_jdk_43_method_3_code_8 (pc' := 12) (by decide) ?_
    exact Go.zreturn S rfl (by decide) d_jdk_43_method_3_code_12 (z' := (1 : Int32)) rfl (by decide) (by decide) (⟨rfl, rfl⟩)
set_option maxRecDepth 65536 in
set_option maxHeartbeats 4000000 in
theorem rm_toBytes {l : Launch} {Z : State} {a0 : Array Value} (hw : HW Z a0) (ch : Int32)  {h0 : Heap} (hE : Ext Z.heap h0) :
    OMeets l Z (⟨"java/lang/StringLatin1", "toBytes", "(C)[B"⟩ : MethodName) jdk_43_method_46_code 1 (some (.array .byte)) ({ frames := 0, cells := 1, slots := 1, locals := 0 } : Room) #[(.int ch)] h0 [] (fun v h => ∃ d kd, v = some (.ref d) ∧ h0.size ≤ d ∧ Arv Z h d kd .byte 1 [.int (own_b ch)] (.int 0)) := by
  refine OMeets.body (plainFor_of_name pn0) hE #[.val (.int ch)] (fun m => by first | rfl | (simp [entryFrame, mkF, argsToLocals, Value.category, maxLocals]; done)) ?_
  intro p e s m below meth co T S
  refine Go.iconst S (v := 1) d_jdk_43_method_46_code_0 rfl (pc' := 1) rfl ?_
  refine Go.newarray S (ty := .byte) (dv := (.int (0 : Int32))) rfl rfl (wd15 hw) d_jdk_43_method_46_code_1 (by decide) (cap := 1) (by decide) (by decide) (by decide) (by decide) (pc' := 3) rfl ?_
  intro T1 h1 a1 kA1 S1 E1 hg1 hz1 hk1 V1
  replace V1 : Arv Z h1 a1 kA1 .byte (1 : Int32) [(.int (0 : Int32))] (.int (0 : Int32)) := V1
  refine Go.dup S1 d_jdk_43_method_46_code_3 rfl (pc' := 4) rfl ?_
  refine Go.iconst S1 (v := 0) d_jdk_43_method_46_code_4 rfl (pc' := 5) rfl ?_
  refine Go.iloadN S1 d_jdk_43_method_46_code_5 rfl (pc' := 6) rfl ?_
  refine Go.i2b S1 d_jdk_43_method_46_code_6 (pc' := 7) rfl ?_
  refine Go.bastore S1 V1 (by decide) (i := 0) (by decide) (Nat.le_of_ble_eq_true rfl) hz1 (Or.inr hk1) d_jdk_43_method_46_code_7 (pc' := 8) rfl ?_
  intro T2 h2 L2 S2 W2 V2
  rw [show nar .byte (ch.toInt8.toInt32) = (own_b ch) from own_byte ch] at V2
  replace V2 : Arv Z h2 a1 kA1 .byte (1 : Int32) [(.int (own_b ch))] (.int (0 : Int32)) := V2
  exact Go.areturn S2 rfl rfl rfl d_jdk_43_method_46_code_8 (by decide) (by decide) (⟨a1, kA1, rfl, hk1, V2⟩)
set_option maxRecDepth 65536 in
set_option maxHeartbeats 4000000 in
theorem rm_sinitB {l : Launch} {Z : State} {a0 : Array Value} (hw : HW Z a0) (o : Addr) (d : Addr)  {h0 : Heap} (hE : Ext Z.heap h0) (hz : Z.heap.size ≤ o) (E : Exa Z h0 o "java/lang/String") (Fv : Fld Z h0 o "java/lang/String" "value" "[B" .null) (Fc : Fld Z h0 o "java/lang/String" "coder" "B" (.int 0)) :
    OMeets l Z (⟨"java/lang/String", "<init>", "([BB)V"⟩ : MethodName) jdk_42_method_151_code 3 none ({ frames := 1, cells := 0, slots := 0, locals := 12 } : Room) #[(.ref o), (.ref d), (.int (0 : Int32))] h0 [o] (fun v h => v = none ∧ Fld Z h o "java/lang/String" "coder" "B" (.int 0) ∧ Fld Z h o "java/lang/String" "value" "[B" (.ref d)) := by
  refine OMeets.body (plainFor_of_name pn1) hE #[.val (.ref o), .val (.ref d), .val (.int (0 : Int32))] (fun m => by first | rfl | (simp [entryFrame, mkF, argsToLocals, Value.category, maxLocals]; done)) ?_
  intro p e s m below meth co T S
  refine Go.aloadN S d_jdk_42_method_151_code_0 rfl rfl (pc' := 1) rfl ?_
  refine Go.initObject S (wd20 hw) (wd21 hw) (wd22 hw) d_jdk_42_method_151_code_1 rfl (by decide) (W := 0) rfl (by decide) (pc' := 4) rfl ?_
  intro T1 S1
  refine Go.aloadN S1 d_jdk_42_method_151_code_4 rfl rfl (pc' := 5) rfl ?_
  refine Go.aloadN S1 d_jdk_42_method_151_code_5 rfl rfl (pc' := 6) rfl ?_
  refine Go.putfield S1 (host := "") (Or.inl (wd23 hw)) Via.refl Fv E (Or.inr ⟨(wd24 hw), rfl, rfl⟩) (wd11 hw) (ty := (.array .byte)) (by decide) rfl rfl hz (Or.inl (List.mem_singleton.mpr rfl)) d_jdk_42_method_151_code_6 (pc' := 9) rfl ?_
  intro T2 h2 L2 S2 W2
  have F2 := Fv.same W2
  replace Fc := Fc.other W2 (Or.inr (slot_ne (Or.inr (wd26 hw)) (Or.inr (wd24 hw)) (by decide) (t := .byte) (t' := (.array .byte)) (by decide) (by decide)))
  replace E := E.wr W2
  refine Go.aloadN S2 d_jdk_42_method_151_code_9 rfl rfl (pc' := 10) rfl ?_
  refine Go.iloadN S2 d_jdk_42_method_151_code_10 rfl (pc' := 11) rfl ?_
  refine Go.putfieldN S2 (wd25 hw) Via.refl Fc E (Or.inr ⟨(wd26 hw), rfl, rfl⟩) (wd11 hw) (ty := .byte) (by decide) (v' := (.int (0 : Int32))) rfl rfl hz (Or.inl (List.mem_singleton.mpr rfl)) d_jdk_42_method_151_code_11 (pc' := 14) rfl ?_
  intro T3 h3 L3 S3 W3
  have F3 := Fc.same W3
  replace F2 := F2.other W3 (Or.inr (slot_ne (Or.inr (wd24 hw)) (Or.inr (wd26 hw)) (by decide) (t := (.array .byte)) (t' := .byte) (by decide) (by decide)))
  replace E := E.wr W3
  exact Go.vreturn S3 rfl d_jdk_42_method_151_code_14 (by decide) (by decide) (⟨rfl, F3, F2⟩)
set_option maxRecDepth 65536 in
set_option maxHeartbeats 4000000 in
theorem rm_valueOf {l : Launch} {Z : State} {a0 : Array Value} (hw : HW Z a0) (ch : Int32) (cs : Int32) {h0 : Heap} (hE : Ext Z.heap h0) (hc : ¬ 255 < ch) (Cs : Sta Z Z.heap "java/lang/String" "COMPACT_STRINGS" "Z" (.int cs)) (Cn : ¬ cs = 0) :
    OMeets l Z (⟨"java/lang/String", "valueOf", "(C)Ljava/lang/String;"⟩ : MethodName) jdk_42_method_139_code 1 (some (.object "java/lang/String")) ({ frames := 2, cells := 2, slots := 5, locals := 27 } : Room) #[(.int ch)] h0 [] (fun v h => ∃ o t kb, v = some (.ref o) ∧ StrAt Z h o t kb [own_b ch]) := by
  refine OMeets.body (plainFor_of_name pn1) hE #[.val (.int ch)] (fun m => by first | rfl | (simp [entryFrame, mkF, argsToLocals, Value.category, maxLocals]; done)) ?_
  intro p e s m below meth co T S
  refine Go.getstatic S (host := "") (Or.inl (wd5 hw)) Via.refl Cs d_jdk_42_method_139_code_0 (pc' := 3) rfl ?_
  intro T1 S1
  refine Go.if_eq S1 d_jdk_42_method_139_code_3 (pt := 26) (by decide) (pc' := 6) rfl ?_ ?_
  · intro c3; exact absurd c3 Cn
  · intro c3
    refine Go.iloadN S1 d_jdk_42_method_139_code_6 rfl (pc' := 7) rfl ?_
    refine Go.invokestatic S1 (y := ⟨"java/lang/StringLatin1", "canEncode", "(C)Z"⟩) (rm_canEnc hw ch S1.ext hc) (wd6 hw) (wd7 hw) (wd8 hw) (wd9 hw) (by decide) d_jdk_42_method_139_code_7 rfl pd0 (argsL := [(.int ch)]) rfl rfl rfl (by decide) (W := 0) rfl (by decide) (by decide) (by decide) all0 (pc' := 10) rfl ?_
    intro v2 T2 h2 L2 S2 K2 q2
    obtain ⟨rfl, rfl⟩ := q2
    show Go _ _ _ _ T2 (mkF m 10 #[.val (.int ch)] [(.int (1 : Int32))])
    refine Go.if_eq S2 d_jdk_42_method_139_code_10 (pt := 26) (by decide) (pc' := 13) rfl ?_ ?_
    · intro c10; exact absurd c10 (by decide)
    · intro c10
      refine Go.new S2 (wd10 hw) (wd11 hw) (wd3 hw) d_jdk_42_method_139_code_13 (by decide) (by decide) (pc' := 16) rfl ?_
      intro T3 h3 a3 S3 E3 hg3 hz3 hk3 X3 D3
      have F3_value : Fld Z h3 a3 "java/lang/String" "value" "[B" .null := D3 (Or.inr (wd24 hw)) (ty := (.array .byte)) (by decide)
      have F3_coder : Fld Z h3 a3 "java/lang/String" "coder" "B" (.int (0 : Int32)) := D3 (Or.inr (wd26 hw)) (ty := .byte) (by decide)
      refine Go.dup S3 d_jdk_42_method_139_code_16 rfl (pc' := 17) rfl ?_
      refine Go.iloadN S3 d_jdk_42_method_139_code_17 rfl (pc' := 18) rfl ?_
      have hlt4 := X3.lt
      refine Go.invokestatic S3 (y := ⟨"java/lang/StringLatin1", "toBytes", "(C)[B"⟩) (rm_toBytes hw ch S3.ext) (wd12 hw) (wd13 hw) (wd8 hw) (wd14 hw) (by decide) d_jdk_42_method_139_code_18 rfl pd1 (argsL := [(.int ch)]) rfl rfl rfl (by decide) (W := 2) rfl (by decide) (by decide) (by decide) all0 (pc' := 21) rfl ?_
      intro v4 T4 h4 L4 S4 K4 q4
      obtain ⟨d4, kd4, rfl, hkd4, V4⟩ := q4
      replace X3 := X3.keep K4
      replace F3_value := F3_value.keep K4 nin0
      replace F3_coder := F3_coder.keep K4 nin0
      show Go _ _ _ _ T4 (mkF m 21 #[.val (.int ch)] [(.ref d4), (.ref a3), (.ref a3)])
      have nd4 : d4 ≠ a3 := fun q => absurd hkd4 (by rw [q]; exact Nat.not_le.mpr hlt4)
      refine Go.iconst S4 (v := 0) d_jdk_42_method_139_code_21 rfl (pc' := 22) rfl ?_
      refine Go.invokespecial S4 (y := ⟨"java/lang/String", "<init>", "([BB)V"⟩) (rm_sinitB hw a3 d4 S4.ext hz3 X3 F3_value F3_coder) rfl rfl (wd16 hw) (wd17 hw) (wd3 hw) (wd19 hw) (by decide) d_jdk_42_method_139_code_22 rfl pd2 (argsL := [(.ref d4), (.int (0 : Int32))]) rfl rfl rfl (by decide) (W := 1) rfl (by decide) (by decide) (by decide) (allS (Or.inr hk3) all0) (pc' := 25) rfl ?_
      intro v5 T5 h5 L5 S5 K5 q5
      obtain ⟨rfl, Gc5, Gv5⟩ := q5
      replace X3 := X3.keep K5
      replace V4 := V4.keep K5 (ninS nd4 nin0)
      show Go _ _ _ _ T5 (mkF m 25 #[.val (.int ch)] [(.ref a3)])
      exact Go.areturn S5 rfl rfl rfl d_jdk_42_method_139_code_25 (by decide) (by decide) (⟨a3, d4, kd4, rfl, ⟨X3, Gc5, Gv5, V4, by simp⟩⟩)
set_option maxRecDepth 65536 in
set_option maxHeartbeats 4000000 in
theorem rm_isl1 {l : Launch} {Z : State} {a0 : Array Value} (hw : HW Z a0) (o : Addr) (cs : Int32) {h0 : Heap} (hE : Ext Z.heap h0) (Fc : Fld Z h0 o "java/lang/String" "coder" "B" (.int 0)) (Cs : Sta Z Z.heap "java/lang/String" "COMPACT_STRINGS" "Z" (.int cs)) (Cn : ¬ cs = 0) :
    OMeets l Z (⟨"java/lang/String", "isLatin1", "()Z"⟩ : MethodName) jdk_42_method_154_code 1 (some .boolean) ({ frames := 0, cells := 0, slots := 0, locals := 0 } : Room) #[(.ref o)] h0 [] (fun v h => v = some (.int 1) ∧ h0 = h) := by
  refine OMeets.body (plainFor_of_name pn1) hE #[.val (.ref o)] (fun m => by first | rfl | (simp [entryFrame, mkF, argsToLocals, Value.category, maxLocals]; done)) ?_
  intro p e s m below meth co T S
  refine Go.getstatic S (host := "") (Or.inl (wd5 hw)) Via.refl Cs d_jdk_42_method_154_code_0 (pc' := 3) rfl ?_
  intro T1 S1
  refine Go.if_eq S1 d_jdk_42_method_154_code_3 (pt := 17) (by decide) (pc' := 6) rfl ?_ ?_
  · intro c3; exact absurd c3 Cn
  · intro c3
    refine Go.aloadN S1 d_jdk_42_method_154_code_6 rfl rfl (pc' := 7) rfl ?_
    refine Go.getfield S1 (host := "") (Or.inl (wd25 hw)) Via.refl Fc d_jdk_42_method_154_code_7 (pc' := 10) rfl ?_
    intro T2 S2
    refine Go.if_ne S2 d_jdk_42_method_154_code_10 (pt := 17) (by decide) (pc' := 13) rfl ?_ ?_
    · intro c10; exact absurd (by decide) c10
    · intro c10
      refine Go.iconst S2 (v := 1) d_jdk_42_method_154_code_13 rfl (pc' := 14) rfl ?_
      refine Go.goto S2 d_jdk_42_method_154_code_14 (pc' := 18) (by decide) ?_
      exact Go.zreturn S2 rfl (by decide) d_jdk_42_method_154_code_18 (z' := (1 : Int32)) rfl (by decide) (by decide) (⟨rfl, rfl⟩)
set_option maxRecDepth 65536 in
set_option maxHeartbeats 4000000 in
theorem rm_coder {l : Launch} {Z : State} {a0 : Array Value} (hw : HW Z a0) (o : Addr) (cs : Int32) {h0 : Heap} (hE : Ext Z.heap h0) (Fc : Fld Z h0 o "java/lang/String" "coder" "B" (.int 0)) (Cs : Sta Z Z.heap "java/lang/String" "COMPACT_STRINGS" "Z" (.int cs)) (Cn : ¬ cs = 0) :
    OMeets l Z (⟨"java/lang/String", "coder", "()B"⟩ : MethodName) jdk_42_method_152_code 1 (some .byte) ({ frames := 0, cells := 0, slots := 0, locals := 0 } : Room) #[(.ref o)] h0 [] (fun v h => v = some (.int 0) ∧ h0 = h) := by
  refine OMeets.body (plainFor_of_name pn1) hE #[.val (.ref o)] (fun m => by first | rfl | (simp [entryFrame, mkF, argsToLocals, Value.category, maxLocals]; done)) ?_
  intro p e s m below meth co T S
  refine Go.getstatic S (host := "") (Or.inl (wd5 hw)) Via.refl Cs d_jdk_42_method_152_code_0 (pc' := 3) rfl ?_
  intro T1 S1
  refine Go.if_eq S1 d_jdk_42_method_152_code_3 (pt := 13) (by decide) (pc' := 6) rfl ?_ ?_
  · intro c3; exact absurd c3 Cn
  · intro c3
    refine Go.aloadN S1 d_jdk_42_method_152_code_6 rfl rfl (pc' := 7) rfl ?_
    refine Go.getfield S1 (host := "") (Or.inl (wd25 hw)) Via.refl Fc d_jdk_42_method_152_code_7 (pc' := 10) rfl ?_
    intro T2 S2
    refine Go.goto S2 d_jdk_42_method_152_code_10 (pc' := 14) (by decide) ?_
    exact Go.zreturn S2 rfl (by decide) d_jdk_42_method_152_code_14 (z' := (0 : Int32)) rfl (by decide) (by decide) (⟨rfl, rfl⟩)
theorem own_eqI {args : Array Value} {first s : State} {o : Option Outcome} {idx : List Nat} {t : Term} {k : Int32} (h : (Jvm.Cond.eq t (.int k)).value args first o s idx = some true) : t.eval args first o idx s = some (.int k) := by
  obtain ⟨v, w, hv, hw, hk, hk'⟩ := cmp_v (Or.inl h)
  cases (Term.int_eval k).symm.trans hw
  obtain ⟨z, rfl⟩ : ∃ z, v = .int z := hk'
  have q : (Jvm.Cond.eq t (.int k)).value args first o s idx = some (decide (z = k)) := by simp [Cond.value, hv, hw]
  rw [hv, gotT q h]
theorem own_eqR {args : Array Value} {first s : State} {o : Option Outcome} {idx : List Nat} {t u : Term} {b : Addr} (h : (Jvm.Cond.eq t u).value args first o s idx = some true) (hu : u.eval args first o idx s = some (.ref b)) : t.eval args first o idx s = some (.ref b) := by
  obtain ⟨v, w, hv, hw, hk, hk'⟩ := cmp_v (Or.inl h)
  cases hu.symm.trans hw
  have hr : v.isRef = true := (show (Value.ref b).isRef = true ∧ v.isRef = true from hk').2
  rw [hv, gotT (eq_R hv hu hr rfl) h]
theorem own_arr {s : State} {args : Array Value} {t : Term} {a : Addr} {cl : Cell} {ty : FieldType} {n : Int32} {vs : List Value} {dv : Value} (hf : Fit s) (A : Arr s s.heap a cl ty) (ev : t.eval args s none [] s = some (.ref a)) (hl : (Term.length t).eval args s none [] s = some (.int n)) (hn : ¬ n < 0) (hv : n.toNatClampNeg = vs.length) (H : HasL cl 0 vs) : Arv s s.heap a cl.cls ty n vs dv := by
  obtain ⟨d, arr, e1, e2, e3, e4⟩ := Jvm.Free.SB.Term.length_small hl
  cases ev.symm.trans e1
  cases (A.fin (Vm.Alike.refl _)).symm.trans e2
  exact Arv.start hf A e4 (Value.int.inj e3).symm hn hv H
set_option maxRecDepth 65536 in
set_option maxHeartbeats 4000000 in
theorem rm_toString {l : Launch} {Z : State} {a0 : Array Value} (hw : HW Z a0) (o : Addr)  {h0 : Heap} (hE : Ext Z.heap h0) :
    OMeets l Z (⟨"java/lang/String", "toString", "()Ljava/lang/String;"⟩ : MethodName) jdk_42_method_126_code 1 (some (.object "java/lang/String")) ({ frames := 0, cells := 0, slots := 0, locals := 0 } : Room) #[(.ref o)] h0 [] (fun v h => v = some (.ref o) ∧ h0 = h) := by
  refine OMeets.body (plainFor_of_name pn1) hE #[.val (.ref o)] (fun m => by first | rfl | (simp [entryFrame, mkF, argsToLocals, Value.category, maxLocals]; done)) ?_
  intro p e s m below meth co T S
  refine Go.aloadN S d_jdk_42_method_126_code_0 rfl rfl (pc' := 1) rfl ?_
  exact Go.areturn S rfl rfl rfl d_jdk_42_method_126_code_1 (by decide) (by decide) (⟨rfl, rfl⟩)
set_option maxRecDepth 65536 in
set_option maxHeartbeats 4000000 in
theorem rm_ix5T {l : Launch} {Z : State} {a0 : Array Value} (hw : HW Z a0) (s1 : Addr) (s2 : Addr) (k1 k2 : ClassId) (bt : Int32) {h0 : Heap} (hE : Ext Z.heap h0) (VS : Arv Z h0 s1 k1 .byte 4 [.int 97, .int 98, .int 110, .int 112] (.int 0)) (VT : Arv Z h0 s2 k2 .byte 1 [.int bt] (.int 0)) :
    OMeets l Z (⟨"java/lang/StringLatin1", "indexOf", "([BI[BII)I"⟩ : MethodName) jdk_43_method_25_code 11 (some .int) ({ frames := 0, cells := 0, slots := 0, locals := 0 } : Room) #[(.ref s1), (.int (4 : Int32)), (.ref s2), (.int (1 : Int32)), (.int (0 : Int32))] h0 [] (fun v h => (∃ r, v = some (.int r) ∧ (¬ r < 0 ↔ (bt = 97 ∨ bt = 98 ∨ bt = 110 ∨ bt = 112))) ∧ h0 = h) := by
  refine OMeets.body (plainFor_of_name pn0) hE #[.val (.ref s1), .val (.int (4 : Int32)), .val (.ref s2), .val (.int (1 : Int32)), .val (.int (0 : Int32)), .unset, .unset, .unset, .unset, .unset, .unset] (fun m => by first | (simp [entryFrame, mkF, argsToLocals, Value.category, maxLocals]; done) | rfl) ?_
  intro p e s m below meth co T S
  refine Go.aloadN S d_jdk_43_method_25_code_0 rfl rfl (pc' := 1) rfl ?_
  refine Go.iconst S (v := 0) d_jdk_43_method_25_code_1 rfl (pc' := 2) rfl ?_
  refine Go.baload S VT (by decide) (v := (.int bt)) rfl d_jdk_43_method_25_code_2 (pc' := 3) rfl ?_
  refine Go.istore S d_jdk_43_method_25_code_3 (Ls' := #[.val (.ref s1), .val (.int (4 : Int32)), .val (.ref s2), .val (.int (1 : Int32)), .val (.int (0 : Int32)), .val (.int bt), .unset, .unset, .unset, .unset, .unset]) rfl (pc' := 5) rfl ?_
  refine Go.iloadN S d_jdk_43_method_25_code_5 rfl (pc' := 6) rfl ?_
  refine Go.iloadN S d_jdk_43_method_25_code_6 rfl (pc' := 7) rfl ?_
  refine Go.isub S d_jdk_43_method_25_code_7 (pc' := 8) rfl ?_
  show Go _ _ _ _ T (mkF m 8 #[.val (.ref s1), .val (.int (4 : Int32)), .val (.ref s2), .val (.int (1 : Int32)), .val (.int (0 : Int32)), .val (.int bt), .unset, .unset, .unset, .unset, .unset] [(.int (3 : Int32))])
  refine Go.istore S d_jdk_43_method_25_code_8 (Ls' := #[.val (.ref s1), .val (.int (4 : Int32)), .val (.ref s2), .val (.int (1 : Int32)), .val (.int (0 : Int32)), .val (.int bt), .val (.int (3 : Int32)), .unset, .unset, .unset, .unset]) rfl (pc' := 10) rfl ?_
  refine Go.iload S d_jdk_43_method_25_code_10 rfl (pc' := 12) rfl ?_
  refine Go.istore S d_jdk_43_method_25_code_12 (Ls' := #[.val (.ref s1), .val (.int (4 : Int32)), .val (.ref s2), .val (.int (1 : Int32)), .val (.int (0 : Int32)), .val (.int bt), .val (.int (3 : Int32)), .val (.int (0 : Int32)), .unset, .unset, .unset]) rfl (pc' := 14) rfl ?_
  refine Go.iload S d_jdk_43_method_25_code_14 rfl (pc' := 16) rfl ?_
  refine Go.iload S d_jdk_43_method_25_code_16 rfl (pc' := 18) rfl ?_
  refine Go.icmp_gt S d_jdk_43_method_25_code_18 (pt := 119) (by decide) (pc' := 21) rfl ?_ ?_
  · intro c18; exact absurd c18 (by decide)
  · intro c18
    refine Go.aloadN S d_jdk_43_method_25_code_21 rfl rfl (pc' := 22) rfl ?_
    refine Go.iload S d_jdk_43_method_25_code_22 rfl (pc' := 24) rfl ?_
    refine Go.baload S VS (by decide) (v := (.int (97 : Int32))) rfl d_jdk_43_method_25_code_24 (pc' := 25) rfl ?_
    refine Go.iload S d_jdk_43_method_25_code_25 rfl (pc' := 27) rfl ?_
    refine Go.icmp_eq S d_jdk_43_method_25_code_27 (pt := 52) (by decide) (pc' := 30) rfl ?_ ?_
    · intro c27
      refine Go.iload S d_jdk_43_method_25_code_52 rfl (pc' := 54) rfl ?_
      refine Go.iload S d_jdk_43_method_25_code_54 rfl (pc' := 56) rfl ?_
      refine Go.icmp_gt S d_jdk_43_method_25_code_56 (pt := 113) (by decide) (pc' := 59) rfl ?_ ?_
      · intro c56; exact absurd c56 (by decide)
      · intro c56
        refine Go.iload S d_jdk_43_method_25_code_59 rfl (pc' := 61) rfl ?_
        refine Go.iconst S (v := 1) d_jdk_43_method_25_code_61 rfl (pc' := 62) rfl ?_
        refine Go.iadd S d_jdk_43_method_25_code_62 (pc' := 63) rfl ?_
        show Go _ _ _ _ T (mkF m 63 #[.val (.ref s1), .val (.int (4 : Int32)), .val (.ref s2), .val (.int (1 : Int32)), .val (.int (0 : Int32)), .val (.int bt), .val (.int (3 : Int32)), .val (.int (0 : Int32)), .unset, .unset, .unset] [(.int (1 : Int32))])
        refine Go.istore S d_jdk_43_method_25_code_63 (Ls' := #[.val (.ref s1), .val (.int (4 : Int32)), .val (.ref s2), .val (.int (1 : Int32)), .val (.int (0 : Int32)), .val (.int bt), .val (.int (3 : Int32)), .val (.int (0 : Int32)), .val (.int (1 : Int32)), .unset, .unset]) rfl (pc' := 65) rfl ?_
        refine Go.iload S d_jdk_43_method_25_code_65 rfl (pc' := 67) rfl ?_
        refine Go.iloadN S d_jdk_43_method_25_code_67 rfl (pc' := 68) rfl ?_
        refine Go.iadd S d_jdk_43_method_25_code_68 (pc' := 69) rfl ?_
        show Go _ _ _ _ T (mkF m 69 #[.val (.ref s1), .val (.int (4 : Int32)), .val (.ref s2), .val (.int (1 : Int32)), .val (.int (0 : Int32)), .val (.int bt), .val (.int (3 : Int32)), .val (.int (0 : Int32)), .val (.int (1 : Int32)), .unset, .unset] [(.int (2 : Int32))])
        refine Go.iconst S (v := 1) d_jdk_43_method_25_code_69 rfl (pc' := 70) rfl ?_
        refine Go.isub S d_jdk_43_method_25_code_70 (pc' := 71) rfl ?_
        show Go _ _ _ _ T (mkF m 71 #[.val (.ref s1), .val (.int (4 : Int32)), .val (.ref s2), .val (.int (1 : Int32)), .val (.int (0 : Int32)), .val (.int bt), .val (.int (3 : Int32)), .val (.int (0 : Int32)), .val (.int (1 : Int32)), .unset, .unset] [(.int (1 : Int32))])
        refine Go.istore S d_jdk_43_method_25_code_71 (Ls' := #[.val (.ref s1), .val (.int (4 : Int32)), .val (.ref s2), .val (.int (1 : Int32)), .val (.int (0 : Int32)), .val (.int bt), .val (.int (3 : Int32)), .val (.int (0 : Int32)), .val (.int (1 : Int32)), .val (.int (1 : Int32)), .unset]) rfl (pc' := 73) rfl ?_
        refine Go.iconst S (v := 1) d_jdk_43_method_25_code_73 rfl (pc' := 74) rfl ?_
        refine Go.istore S d_jdk_43_method_25_code_74 (Ls' := #[.val (.ref s1), .val (.int (4 : Int32)), .val (.ref s2), .val (.int (1 : Int32)), .val (.int (0 : Int32)), .val (.int bt), .val (.int (3 : Int32)), .val (.int (0 : Int32)), .val (.int (1 : Int32)), .val (.int (1 : Int32)), .val (.int (1 : Int32))]) rfl (pc' := 76) rfl ?_
        refine Go.iload S d_jdk_43_method_25_code_76 rfl (pc' := 78) rfl ?_
        refine Go.iload S d_jdk_43_method_25_code_78 rfl (pc' := 80) rfl ?_
        refine Go.icmp_ge S d_jdk_43_method_25_code_80 (pt := 103) (by decide) (pc' := 83) rfl ?_ ?_
        · intro c80
          refine Go.iload S d_jdk_43_method_25_code_103 rfl (pc' := 105) rfl ?_
          refine Go.iload S d_jdk_43_method_25_code_105 rfl (pc' := 107) rfl ?_
          refine Go.icmp_ne S d_jdk_43_method_25_code_107 (pt := 113) (by decide) (pc' := 110) rfl ?_ ?_
          · intro c107; exact absurd (by decide) c107
          · intro c107
            refine Go.iload S d_jdk_43_method_25_code_110 rfl (pc' := 112) rfl ?_
            exact Go.ireturn S rfl d_jdk_43_method_25_code_112 (by decide) (by decide) (⟨⟨_, rfl, ⟨fun _ => Or.inl (c27.symm), fun _ => by decide⟩⟩, rfl⟩)
        · intro c80; exact absurd c80 (by decide)
    · intro c27
      refine Go.iinc S d_jdk_43_method_25_code_30 rfl (Ls' := #[.val (.ref s1), .val (.int (4 : Int32)), .val (.ref s2), .val (.int (1 : Int32)), .val (.int (0 : Int32)), .val (.int bt), .val (.int (3 : Int32)), .val (.int (1 : Int32)), .unset, .unset, .unset]) rfl (pc' := 33) rfl ?_
      refine Go.iload S d_jdk_43_method_25_code_33 rfl (pc' := 35) rfl ?_
      refine Go.iload S d_jdk_43_method_25_code_35 rfl (pc' := 37) rfl ?_
      refine Go.icmp_gt S d_jdk_43_method_25_code_37 (pt := 52) (by decide) (pc' := 40) rfl ?_ ?_
      · intro c37; exact absurd c37 (by decide)
      · intro c37
        refine Go.aloadN S d_jdk_43_method_25_code_40 rfl rfl (pc' := 41) rfl ?_
        refine Go.iload S d_jdk_43_method_25_code_41 rfl (pc' := 43) rfl ?_
        refine Go.baload S VS (by decide) (v := (.int (98 : Int32))) rfl d_jdk_43_method_25_code_43 (pc' := 44) rfl ?_
        refine Go.iload S d_jdk_43_method_25_code_44 rfl (pc' := 46) rfl ?_
        refine Go.icmp_eq S d_jdk_43_method_25_code_46 (pt := 52) (by decide) (pc' := 49) rfl ?_ ?_
        · intro c46
          refine Go.iload S d_jdk_43_method_25_code_52 rfl (pc' := 54) rfl ?_
          refine Go.iload S d_jdk_43_method_25_code_54 rfl (pc' := 56) rfl ?_
          refine Go.icmp_gt S d_jdk_43_method_25_code_56 (pt := 113) (by decide) (pc' := 59) rfl ?_ ?_
          · intro c56; exact absurd c56 (by decide)
          · intro c56
            refine Go.iload S d_jdk_43_method_25_code_59 rfl (pc' := 61) rfl ?_
            refine Go.iconst S (v := 1) d_jdk_43_method_25_code_61 rfl (pc' := 62) rfl ?_
            refine Go.iadd S d_jdk_43_method_25_code_62 (pc' := 63) rfl ?_
            show Go _ _ _ _ T (mkF m 63 #[.val (.ref s1), .val (.int (4 : Int32)), .val (.ref s2), .val (.int (1 : Int32)), .val (.int (0 : Int32)), .val (.int bt), .val (.int (3 : Int32)), .val (.int (1 : Int32)), .unset, .unset, .unset] [(.int (2 : Int32))])
            refine Go.istore S d_jdk_43_method_25_code_63 (Ls' := #[.val (.ref s1), .val (.int (4 : Int32)), .val (.ref s2), .val (.int (1 : Int32)), .val (.int (0 : Int32)), .val (.int bt), .val (.int (3 : Int32)), .val (.int (1 : Int32)), .val (.int (2 : Int32)), .unset, .unset]) rfl (pc' := 65) rfl ?_
            refine Go.iload S d_jdk_43_method_25_code_65 rfl (pc' := 67) rfl ?_
            refine Go.iloadN S d_jdk_43_method_25_code_67 rfl (pc' := 68) rfl ?_
            refine Go.iadd S d_jdk_43_method_25_code_68 (pc' := 69) rfl ?_
            show Go _ _ _ _ T (mkF m 69 #[.val (.ref s1), .val (.int (4 : Int32)), .val (.ref s2), .val (.int (1 : Int32)), .val (.int (0 : Int32)), .val (.int bt), .val (.int (3 : Int32)), .val (.int (1 : Int32)), .val (.int (2 : Int32)), .unset, .unset] [(.int (3 : Int32))])
            refine Go.iconst S (v := 1) d_jdk_43_method_25_code_69 rfl (pc' := 70) rfl ?_
            refine Go.isub S d_jdk_43_method_25_code_70 (pc' := 71) rfl ?_
            show Go _ _ _ _ T (mkF m 71 #[.val (.ref s1), .val (.int (4 : Int32)), .val (.ref s2), .val (.int (1 : Int32)), .val (.int (0 : Int32)), .val (.int bt), .val (.int (3 : Int32)), .val (.int (1 : Int32)), .val (.int (2 : Int32)), .unset, .unset] [(.int (2 : Int32))])
            refine Go.istore S d_jdk_43_method_25_code_71 (Ls' := #[.val (.ref s1), .val (.int (4 : Int32)), .val (.ref s2), .val (.int (1 : Int32)), .val (.int (0 : Int32)), .val (.int bt), .val (.int (3 : Int32)), .val (.int (1 : Int32)), .val (.int (2 : Int32)), .val (.int (2 : Int32)), .unset]) rfl (pc' := 73) rfl ?_
            refine Go.iconst S (v := 1) d_jdk_43_method_25_code_73 rfl (pc' := 74) rfl ?_
            refine Go.istore S d_jdk_43_method_25_code_74 (Ls' := #[.val (.ref s1), .val (.int (4 : Int32)), .val (.ref s2), .val (.int (1 : Int32)), .val (.int (0 : Int32)), .val (.int bt), .val (.int (3 : Int32)), .val (.int (1 : Int32)), .val (.int (2 : Int32)), .val (.int (2 : Int32)), .val (.int (1 : Int32))]) rfl (pc' := 76) rfl ?_
            refine Go.iload S d_jdk_43_method_25_code_76 rfl (pc' := 78) rfl ?_
            refine Go.iload S d_jdk_43_method_25_code_78 rfl (pc' := 80) rfl ?_
            refine Go.icmp_ge S d_jdk_43_method_25_code_80 (pt := 103) (by decide) (pc' := 83) rfl ?_ ?_
            · intro c80
              refine Go.iload S d_jdk_43_method_25_code_103 rfl (pc' := 105) rfl ?_
              refine Go.iload S d_jdk_43_method_25_code_105 rfl (pc' := 107) rfl ?_
              refine Go.icmp_ne S d_jdk_43_method_25_code_107 (pt := 113) (by decide) (pc' := 110) rfl ?_ ?_
              · intro c107; exact absurd (by decide) c107
              · intro c107
                refine Go.iload S d_jdk_43_method_25_code_110 rfl (pc' := 112) rfl ?_
                exact Go.ireturn S rfl d_jdk_43_method_25_code_112 (by decide) (by decide) (⟨⟨_, rfl, ⟨fun _ => Or.inr (Or.inl (c46.symm)), fun _ => by decide⟩⟩, rfl⟩)
            · intro c80; exact absurd c80 (by decide)
        · intro c46
          refine Go.goto S d_jdk_43_method_25_code_49 (pc' := 30) (by decide) ?_
          refine Go.iinc S d_jdk_43_method_25_code_30 rfl (Ls' := #[.val (.ref s1), .val (.int (4 : Int32)), .val (.ref s2), .val (.int (1 : Int32)), .val (.int (0 : Int32)), .val (.int bt), .val (.int (3 : Int32)), .val (.int (2 : Int32)), .unset, .unset, .unset]) rfl (pc' := 33) rfl ?_
          refine Go.iload S d_jdk_43_method_25_code_33 rfl (pc' := 35) rfl ?_
          refine Go.iload S d_jdk_43_method_25_code_35 rfl (pc' := 37) rfl ?_
          refine Go.icmp_gt S d_jdk_43_method_25_code_37 (pt := 52) (by decide) (pc' := 40) rfl ?_ ?_
          · intro c37_2; exact absurd c37_2 (by decide)
          · intro c37_2
            refine Go.aloadN S d_jdk_43_method_25_code_40 rfl rfl (pc' := 41) rfl ?_
            refine Go.iload S d_jdk_43_method_25_code_41 rfl (pc' := 43) rfl ?_
            refine Go.baload S VS (by decide) (v := (.int (110 : Int32))) rfl d_jdk_43_method_25_code_43 (pc' := 44) rfl ?_
            refine Go.iload S d_jdk_43_method_25_code_44 rfl (pc' := 46) rfl ?_
            refine Go.icmp_eq S d_jdk_43_method_25_code_46 (pt := 52) (by decide) (pc' := 49) rfl ?_ ?_
            · intro c46_2
              refine Go.iload S d_jdk_43_method_25_code_52 rfl (pc' := 54) rfl ?_
              refine Go.iload S d_jdk_43_method_25_code_54 rfl (pc' := 56) rfl ?_
              refine Go.icmp_gt S d_jdk_43_method_25_code_56 (pt := 113) (by decide) (pc' := 59) rfl ?_ ?_
              · intro c56; exact absurd c56 (by decide)
              · intro c56
                refine Go.iload S d_jdk_43_method_25_code_59 rfl (pc' := 61) rfl ?_
                refine Go.iconst S (v := 1) d_jdk_43_method_25_code_61 rfl (pc' := 62) rfl ?_
                refine Go.iadd S d_jdk_43_method_25_code_62 (pc' := 63) rfl ?_
                show Go _ _ _ _ T (mkF m 63 #[.val (.ref s1), .val (.int (4 : Int32)), .val (.ref s2), .val (.int (1 : Int32)), .val (.int (0 : Int32)), .val (.int bt), .val (.int (3 : Int32)), .val (.int (2 : Int32)), .unset, .unset, .unset] [(.int (3 : Int32))])
                refine Go.istore S d_jdk_43_method_25_code_63 (Ls' := #[.val (.ref s1), .val (.int (4 : Int32)), .val (.ref s2), .val (.int (1 : Int32)), .val (.int (0 : Int32)), .val (.int bt), .val (.int (3 : Int32)), .val (.int (2 : Int32)), .val (.int (3 : Int32)), .unset, .unset]) rfl (pc' := 65) rfl ?_
                refine Go.iload S d_jdk_43_method_25_code_65 rfl (pc' := 67) rfl ?_
                refine Go.iloadN S d_jdk_43_method_25_code_67 rfl (pc' := 68) rfl ?_
                refine Go.iadd S d_jdk_43_method_25_code_68 (pc' := 69) rfl ?_
                show Go _ _ _ _ T (mkF m 69 #[.val (.ref s1), .val (.int (4 : Int32)), .val (.ref s2), .val (.int (1 : Int32)), .val (.int (0 : Int32)), .val (.int bt), .val (.int (3 : Int32)), .val (.int (2 : Int32)), .val (.int (3 : Int32)), .unset, .unset] [(.int (4 : Int32))])
                refine Go.iconst S (v := 1) d_jdk_43_method_25_code_69 rfl (pc' := 70) rfl ?_
                refine Go.isub S d_jdk_43_method_25_code_70 (pc' := 71) rfl ?_
                show Go _ _ _ _ T (mkF m 71 #[.val (.ref s1), .val (.int (4 : Int32)), .val (.ref s2), .val (.int (1 : Int32)), .val (.int (0 : Int32)), .val (.int bt), .val (.int (3 : Int32)), .val (.int (2 : Int32)), .val (.int (3 : Int32)), .unset, .unset] [(.int (3 : Int32))])
                refine Go.istore S d_jdk_43_method_25_code_71 (Ls' := #[.val (.ref s1), .val (.int (4 : Int32)), .val (.ref s2), .val (.int (1 : Int32)), .val (.int (0 : Int32)), .val (.int bt), .val (.int (3 : Int32)), .val (.int (2 : Int32)), .val (.int (3 : Int32)), .val (.int (3 : Int32)), .unset]) rfl (pc' := 73) rfl ?_
                refine Go.iconst S (v := 1) d_jdk_43_method_25_code_73 rfl (pc' := 74) rfl ?_
                refine Go.istore S d_jdk_43_method_25_code_74 (Ls' := #[.val (.ref s1), .val (.int (4 : Int32)), .val (.ref s2), .val (.int (1 : Int32)), .val (.int (0 : Int32)), .val (.int bt), .val (.int (3 : Int32)), .val (.int (2 : Int32)), .val (.int (3 : Int32)), .val (.int (3 : Int32)), .val (.int (1 : Int32))]) rfl (pc' := 76) rfl ?_
                refine Go.iload S d_jdk_43_method_25_code_76 rfl (pc' := 78) rfl ?_
                refine Go.iload S d_jdk_43_method_25_code_78 rfl (pc' := 80) rfl ?_
                refine Go.icmp_ge S d_jdk_43_method_25_code_80 (pt := 103) (by decide) (pc' := 83) rfl ?_ ?_
                · intro c80
                  refine Go.iload S d_jdk_43_method_25_code_103 rfl (pc' := 105) rfl ?_
                  refine Go.iload S d_jdk_43_method_25_code_105 rfl (pc' := 107) rfl ?_
                  refine Go.icmp_ne S d_jdk_43_method_25_code_107 (pt := 113) (by decide) (pc' := 110) rfl ?_ ?_
                  · intro c107; exact absurd (by decide) c107
                  · intro c107
                    refine Go.iload S d_jdk_43_method_25_code_110 rfl (pc' := 112) rfl ?_
                    exact Go.ireturn S rfl d_jdk_43_method_25_code_112 (by decide) (by decide) (⟨⟨_, rfl, ⟨fun _ => Or.inr (Or.inr (Or.inl (c46_2.symm))), fun _ => by decide⟩⟩, rfl⟩)
                · intro c80; exact absurd c80 (by decide)
            · intro c46_2
              refine Go.goto S d_jdk_43_method_25_code_49 (pc' := 30) (by decide) ?_
              refine Go.iinc S d_jdk_43_method_25_code_30 rfl (Ls' := #[.val (.ref s1), .val (.int (4 : Int32)), .val (.ref s2), .val (.int (1 : Int32)), .val (.int (0 : Int32)), .val (.int bt), .val (.int (3 : Int32)), .val (.int (3 : Int32)), .unset, .unset, .unset]) rfl (pc' := 33) rfl ?_
              refine Go.iload S d_jdk_43_method_25_code_33 rfl (pc' := 35) rfl ?_
              refine Go.iload S d_jdk_43_method_25_code_35 rfl (pc' := 37) rfl ?_
              refine Go.icmp_gt S d_jdk_43_method_25_code_37 (pt := 52) (by decide) (pc' := 40) rfl ?_ ?_
              · intro c37_3; exact absurd c37_3 (by decide)
              · intro c37_3
                refine Go.aloadN S d_jdk_43_method_25_code_40 rfl rfl (pc' := 41) rfl ?_
                refine Go.iload S d_jdk_43_method_25_code_41 rfl (pc' := 43) rfl ?_
                refine Go.baload S VS (by decide) (v := (.int (112 : Int32))) rfl d_jdk_43_method_25_code_43 (pc' := 44) rfl ?_
                refine Go.iload S d_jdk_43_method_25_code_44 rfl (pc' := 46) rfl ?_
                refine Go.icmp_eq S d_jdk_43_method_25_code_46 (pt := 52) (by decide) (pc' := 49) rfl ?_ ?_
                · intro c46_3
                  refine Go.iload S d_jdk_43_method_25_code_52 rfl (pc' := 54) rfl ?_
                  refine Go.iload S d_jdk_43_method_25_code_54 rfl (pc' := 56) rfl ?_
                  refine Go.icmp_gt S d_jdk_43_method_25_code_56 (pt := 113) (by decide) (pc' := 59) rfl ?_ ?_
                  · intro c56; exact absurd c56 (by decide)
                  · intro c56
                    refine Go.iload S d_jdk_43_method_25_code_59 rfl (pc' := 61) rfl ?_
                    refine Go.iconst S (v := 1) d_jdk_43_method_25_code_61 rfl (pc' := 62) rfl ?_
                    refine Go.iadd S d_jdk_43_method_25_code_62 (pc' := 63) rfl ?_
                    show Go _ _ _ _ T (mkF m 63 #[.val (.ref s1), .val (.int (4 : Int32)), .val (.ref s2), .val (.int (1 : Int32)), .val (.int (0 : Int32)), .val (.int bt), .val (.int (3 : Int32)), .val (.int (3 : Int32)), .unset, .unset, .unset] [(.int (4 : Int32))])
                    refine Go.istore S d_jdk_43_method_25_code_63 (Ls' := #[.val (.ref s1), .val (.int (4 : Int32)), .val (.ref s2), .val (.int (1 : Int32)), .val (.int (0 : Int32)), .val (.int bt), .val (.int (3 : Int32)), .val (.int (3 : Int32)), .val (.int (4 : Int32)), .unset, .unset]) rfl (pc' := 65) rfl ?_
                    refine Go.iload S d_jdk_43_method_25_code_65 rfl (pc' := 67) rfl ?_
                    refine Go.iloadN S d_jdk_43_method_25_code_67 rfl (pc' := 68) rfl ?_
                    refine Go.iadd S d_jdk_43_method_25_code_68 (pc' := 69) rfl ?_
                    show Go _ _ _ _ T (mkF m 69 #[.val (.ref s1), .val (.int (4 : Int32)), .val (.ref s2), .val (.int (1 : Int32)), .val (.int (0 : Int32)), .val (.int bt), .val (.int (3 : Int32)), .val (.int (3 : Int32)), .val (.int (4 : Int32)), .unset, .unset] [(.int (5 : Int32))])
                    refine Go.iconst S (v := 1) d_jdk_43_method_25_code_69 rfl (pc' := 70) rfl ?_
                    refine Go.isub S d_jdk_43_method_25_code_70 (pc' := 71) rfl ?_
                    show Go _ _ _ _ T (mkF m 71 #[.val (.ref s1), .val (.int (4 : Int32)), .val (.ref s2), .val (.int (1 : Int32)), .val (.int (0 : Int32)), .val (.int bt), .val (.int (3 : Int32)), .val (.int (3 : Int32)), .val (.int (4 : Int32)), .unset, .unset] [(.int (4 : Int32))])
                    refine Go.istore S d_jdk_43_method_25_code_71 (Ls' := #[.val (.ref s1), .val (.int (4 : Int32)), .val (.ref s2), .val (.int (1 : Int32)), .val (.int (0 : Int32)), .val (.int bt), .val (.int (3 : Int32)), .val (.int (3 : Int32)), .val (.int (4 : Int32)), .val (.int (4 : Int32)), .unset]) rfl (pc' := 73) rfl ?_
                    refine Go.iconst S (v := 1) d_jdk_43_method_25_code_73 rfl (pc' := 74) rfl ?_
                    refine Go.istore S d_jdk_43_method_25_code_74 (Ls' := #[.val (.ref s1), .val (.int (4 : Int32)), .val (.ref s2), .val (.int (1 : Int32)), .val (.int (0 : Int32)), .val (.int bt), .val (.int (3 : Int32)), .val (.int (3 : Int32)), .val (.int (4 : Int32)), .val (.int (4 : Int32)), .val (.int (1 : Int32))]) rfl (pc' := 76) rfl ?_
                    refine Go.iload S d_jdk_43_method_25_code_76 rfl (pc' := 78) rfl ?_
                    refine Go.iload S d_jdk_43_method_25_code_78 rfl (pc' := 80) rfl ?_
                    refine Go.icmp_ge S d_jdk_43_method_25_code_80 (pt := 103) (by decide) (pc' := 83) rfl ?_ ?_
                    · intro c80
                      refine Go.iload S d_jdk_43_method_25_code_103 rfl (pc' := 105) rfl ?_
                      refine Go.iload S d_jdk_43_method_25_code_105 rfl (pc' := 107) rfl ?_
                      refine Go.icmp_ne S d_jdk_43_method_25_code_107 (pt := 113) (by decide) (pc' := 110) rfl ?_ ?_
                      · intro c107; exact absurd (by decide) c107
                      · intro c107
                        refine Go.iload S d_jdk_43_method_25_code_110 rfl (pc' := 112) rfl ?_
                        exact Go.ireturn S rfl d_jdk_43_method_25_code_112 (by decide) (by decide) (⟨⟨_, rfl, ⟨fun _ => Or.inr (Or.inr (Or.inr (c46_3.symm))), fun _ => by decide⟩⟩, rfl⟩)
                    · intro c80; exact absurd c80 (by decide)
                · intro c46_3
                  refine Go.goto S d_jdk_43_method_25_code_49 (pc' := 30) (by decide) ?_
                  refine Go.iinc S d_jdk_43_method_25_code_30 rfl (Ls' := #[.val (.ref s1), .val (.int (4 : Int32)), .val (.ref s2), .val (.int (1 : Int32)), .val (.int (0 : Int32)), .val (.int bt), .val (.int (3 : Int32)), .val (.int (4 : Int32)), .unset, .unset, .unset]) rfl (pc' := 33) rfl ?_
                  refine Go.iload S d_jdk_43_method_25_code_33 rfl (pc' := 35) rfl ?_
                  refine Go.iload S d_jdk_43_method_25_code_35 rfl (pc' := 37) rfl ?_
                  refine Go.icmp_gt S d_jdk_43_method_25_code_37 (pt := 52) (by decide) (pc' := 40) rfl ?_ ?_
                  · intro c37_4
                    refine Go.iload S d_jdk_43_method_25_code_52 rfl (pc' := 54) rfl ?_
                    refine Go.iload S d_jdk_43_method_25_code_54 rfl (pc' := 56) rfl ?_
                    refine Go.icmp_gt S d_jdk_43_method_25_code_56 (pt := 113) (by decide) (pc' := 59) rfl ?_ ?_
                    · intro c56
                      refine Go.iinc S d_jdk_43_method_25_code_113 rfl (Ls' := #[.val (.ref s1), .val (.int (4 : Int32)), .val (.ref s2), .val (.int (1 : Int32)), .val (.int (0 : Int32)), .val (.int bt), .val (.int (3 : Int32)), .val (.int (5 : Int32)), .unset, .unset, .unset]) rfl (pc' := 116) rfl ?_
                      refine Go.goto S d_jdk_43_method_25_code_116 (pc' := 14) (by decide) ?_
                      refine Go.iload S d_jdk_43_method_25_code_14 rfl (pc' := 16) rfl ?_
                      refine Go.iload S d_jdk_43_method_25_code_16 rfl (pc' := 18) rfl ?_
                      refine Go.icmp_gt S d_jdk_43_method_25_code_18 (pt := 119) (by decide) (pc' := 21) rfl ?_ ?_
                      · intro c18_2
                        refine Go.iconst S (v := -1) d_jdk_43_method_25_code_119 rfl (pc' := 120) rfl ?_
                        exact Go.ireturn S rfl d_jdk_43_method_25_code_120 (by decide) (by decide) (⟨⟨_, rfl, ⟨fun q => absurd (by decide) q, fun q => absurd q (fun q => q.elim (fun q => c27 q.symm) (fun q => q.elim (fun q => c46 q.symm) (fun q => q.elim (fun q => c46_2 q.symm) (fun q => c46_3 q.symm))))⟩⟩, rfl⟩)
                      · intro c18_2; exact absurd (by decide) c18_2
                    · intro c56; exact absurd (by decide) c56
                  · intro c37_4; exact absurd (by decide) c37_4
set_option maxRecDepth 65536 in
set_option maxHeartbeats 4000000 in
theorem rm_ix2T {l : Launch} {Z : State} {a0 : Array Value} (hw : HW Z a0) (s1 : Addr) (s2 : Addr) (k1 k2 : ClassId) (bt : Int32) {h0 : Heap} (hE : Ext Z.heap h0) (VS : Arv Z h0 s1 k1 .byte 4 [.int 97, .int 98, .int 110, .int 112] (.int 0)) (VT : Arv Z h0 s2 k2 .byte 1 [.int bt] (.int 0)) :
    OMeets l Z (⟨"java/lang/StringLatin1", "indexOf", "([B[B)I"⟩ : MethodName) jdk_43_method_24_code 2 (some .int) ({ frames := 1, cells := 0, slots := 0, locals := 22 } : Room) #[(.ref s1), (.ref s2)] h0 [] (fun v h => (∃ r, v = some (.int r) ∧ (¬ r < 0 ↔ (bt = 97 ∨ bt = 98 ∨ bt = 110 ∨ bt = 112))) ∧ h0 = h) := by
  refine OMeets.body (plainFor_of_name pn0) hE #[.val (.ref s1), .val (.ref s2)] (fun m => by first | rfl | (simp [entryFrame, mkF, argsToLocals, Value.category, maxLocals]; done)) ?_
  intro p e s m below meth co T S
  refine Go.aloadN S d_jdk_43_method_24_code_0 rfl rfl (pc' := 1) rfl ?_
  refine Go.arraylength S VT d_jdk_43_method_24_code_1 (pc' := 2) rfl ?_
  refine Go.if_ne S d_jdk_43_method_24_code_2 (pt := 7) (by decide) (pc' := 5) rfl ?_ ?_
  · intro c2
    refine Go.aloadN S d_jdk_43_method_24_code_7 rfl rfl (pc' := 8) rfl ?_
    refine Go.arraylength S VS d_jdk_43_method_24_code_8 (pc' := 9) rfl ?_
    refine Go.if_ne S d_jdk_43_method_24_code_9 (pt := 14) (by decide) (pc' := 12) rfl ?_ ?_
    · intro c9
      refine Go.aloadN S d_jdk_43_method_24_code_14 rfl rfl (pc' := 15) rfl ?_
      refine Go.aloadN S d_jdk_43_method_24_code_15 rfl rfl (pc' := 16) rfl ?_
      refine Go.arraylength S VS d_jdk_43_method_24_code_16 (pc' := 17) rfl ?_
      refine Go.aloadN S d_jdk_43_method_24_code_17 rfl rfl (pc' := 18) rfl ?_
      refine Go.aloadN S d_jdk_43_method_24_code_18 rfl rfl (pc' := 19) rfl ?_
      refine Go.arraylength S VT d_jdk_43_method_24_code_19 (pc' := 20) rfl ?_
      refine Go.iconst S (v := 0) d_jdk_43_method_24_code_20 rfl (pc' := 21) rfl ?_
      refine Go.invokestatic S (y := ⟨"java/lang/StringLatin1", "indexOf", "([BI[BII)I"⟩) (rm_ix5T hw s1 s2 k1 k2 bt S.ext VS VT) (wd71 hw) (wd72 hw) (wd8 hw) (wd73 hw) (by decide) d_jdk_43_method_24_code_21 rfl pd3 (argsL := [(.ref s1), (.int (4 : Int32)), (.ref s2), (.int (1 : Int32)), (.int (0 : Int32))]) rfl rfl rfl (by decide) (W := 0) rfl (by decide) (by decide) (by decide) all0 (pc' := 24) rfl ?_
      intro v1 T1 h1 L1 S1 K1 q1
      obtain ⟨⟨r, rfl, hr⟩, rfl⟩ := q1
      show Go _ _ _ _ T1 (mkF m 24 #[.val (.ref s1), .val (.ref s2)] [(.int r)])
      exact Go.ireturn S1 rfl d_jdk_43_method_24_code_24 (by decide) (by decide) (⟨⟨r, rfl, hr⟩, rfl⟩)
    · intro c9; exact absurd c9 (by decide)
  · intro c2; exact absurd c2 (by decide)
set_option maxRecDepth 65536 in
set_option maxHeartbeats 4000000 in
theorem rm_ixST {l : Launch} {Z : State} {a0 : Array Value} (hw : HW Z a0) (o1 : Addr) (o2 : Addr) (s1 s2 : Addr) (k1 k2 : ClassId) (bt : Int32) (cs : Int32) {h0 : Heap} (hE : Ext Z.heap h0) (A1 : StrAt Z h0 o1 s1 k1 [97, 98, 110, 112]) (A2 : StrAt Z h0 o2 s2 k2 [bt]) (Cs : Sta Z Z.heap "java/lang/String" "COMPACT_STRINGS" "Z" (.int cs)) (Cn : ¬ cs = 0) :
    OMeets l Z (⟨"java/lang/String", "indexOf", "(Ljava/lang/String;)I"⟩ : MethodName) jdk_42_method_84_code 3 (some .int) ({ frames := 2, cells := 0, slots := 0, locals := 35 } : Room) #[(.ref o1), (.ref o2)] h0 [] (fun v h => (∃ r, v = some (.int r) ∧ (¬ r < 0 ↔ (bt = 97 ∨ bt = 98 ∨ bt = 110 ∨ bt = 112))) ∧ h0 = h) := by
  refine OMeets.body (plainFor_of_name pn1) hE #[.val (.ref o1), .val (.ref o2), .unset] (fun m => by first | rfl | (simp [entryFrame, mkF, argsToLocals, Value.category, maxLocals]; done)) ?_
  intro p e s m below meth co T S
  refine Go.aloadN S d_jdk_42_method_84_code_0 rfl rfl (pc' := 1) rfl ?_
  refine Go.invokevirtual S (y := ⟨"java/lang/String", "coder", "()B"⟩) (rm_coder hw o1 cs S.ext A1.2.1 Cs Cn) (wd58 hw) (wd59 hw) (S.nf (wd61 hw)) (wd61 hw) (wd60 hw) (wd3 hw) (wd62 hw) (by decide) A1.1 d_jdk_42_method_84_code_1 rfl pd4 (argsL := []) rfl rfl rfl (by decide) (W := 0) rfl (by decide) (by decide) (by decide) all0 (pc' := 4) rfl ?_
  intro v1 T1 h1 L1 S1 K1 q1
  obtain ⟨rfl, rfl⟩ := q1
  show Go _ _ _ _ T1 (mkF m 4 #[.val (.ref o1), .val (.ref o2), .unset] [(.int (0 : Int32))])
  refine Go.istoreN S1 d_jdk_42_method_84_code_4 (Ls' := #[.val (.ref o1), .val (.ref o2), .val (.int (0 : Int32))]) rfl (pc' := 5) rfl ?_
  refine Go.iloadN S1 d_jdk_42_method_84_code_5 rfl (pc' := 6) rfl ?_
  refine Go.aloadN S1 d_jdk_42_method_84_code_6 rfl rfl (pc' := 7) rfl ?_
  refine Go.invokevirtual S1 (y := ⟨"java/lang/String", "coder", "()B"⟩) (rm_coder hw o2 cs S1.ext A2.2.1 Cs Cn) (wd58 hw) (wd59 hw) (S1.nf (wd61 hw)) (wd61 hw) (wd60 hw) (wd3 hw) (wd62 hw) (by decide) A2.1 d_jdk_42_method_84_code_7 rfl pd4 (argsL := []) rfl rfl rfl (by decide) (W := 1) rfl (by decide) (by decide) (by decide) all0 (pc' := 10) rfl ?_
  intro v2 T2 h2 L2 S2 K2 q2
  obtain ⟨rfl, rfl⟩ := q2
  show Go _ _ _ _ T2 (mkF m 10 #[.val (.ref o1), .val (.ref o2), .val (.int (0 : Int32))] [(.int (0 : Int32)), (.int (0 : Int32))])
  refine Go.icmp_ne S2 d_jdk_42_method_84_code_10 (pt := 46) (by decide) (pc' := 13) rfl ?_ ?_
  · intro c10; exact absurd (by decide) c10
  · intro c10
    refine Go.aloadN S2 d_jdk_42_method_84_code_13 rfl rfl (pc' := 14) rfl ?_
    refine Go.invokevirtual S2 (y := ⟨"java/lang/String", "isLatin1", "()Z"⟩) (rm_isl1 hw o1 cs S2.ext A1.2.1 Cs Cn) (wd63 hw) (wd64 hw) (S2.nf (wd66 hw)) (wd66 hw) (wd65 hw) (wd3 hw) (wd67 hw) (by decide) A1.1 d_jdk_42_method_84_code_14 rfl pd5 (argsL := []) rfl rfl rfl (by decide) (W := 0) rfl (by decide) (by decide) (by decide) all0 (pc' := 17) rfl ?_
    intro v3 T3 h3 L3 S3 K3 q3
    obtain ⟨rfl, rfl⟩ := q3
    show Go _ _ _ _ T3 (mkF m 17 #[.val (.ref o1), .val (.ref o2), .val (.int (0 : Int32))] [(.int (1 : Int32))])
    refine Go.if_eq S3 d_jdk_42_method_84_code_17 (pt := 34) (by decide) (pc' := 20) rfl ?_ ?_
    · intro c17; exact absurd c17 (by decide)
    · intro c17
      refine Go.aloadN S3 d_jdk_42_method_84_code_20 rfl rfl (pc' := 21) rfl ?_
      refine Go.getfield S3 (host := "") (Or.inl (wd23 hw)) Via.refl A1.2.2.1 d_jdk_42_method_84_code_21 (pc' := 24) rfl ?_
      intro T4 S4
      refine Go.aloadN S4 d_jdk_42_method_84_code_24 rfl rfl (pc' := 25) rfl ?_
      refine Go.getfield S4 (host := "") (Or.inl (wd23 hw)) Via.refl A2.2.2.1 d_jdk_42_method_84_code_25 (pc' := 28) rfl ?_
      intro T5 S5
      refine Go.invokestatic S5 (y := ⟨"java/lang/StringLatin1", "indexOf", "([B[B)I"⟩) (rm_ix2T hw s1 s2 k1 k2 bt S5.ext A1.2.2.2.1 A2.2.2.2.1) (wd68 hw) (wd69 hw) (wd8 hw) (wd70 hw) (by decide) d_jdk_42_method_84_code_28 rfl pd6 (argsL := [(.ref s1), (.ref s2)]) rfl rfl rfl (by decide) (W := 0) rfl (by decide) (by decide) (by decide) all0 (pc' := 31) rfl ?_
      intro v6 T6 h6 L6 S6 K6 q6
      obtain ⟨⟨r, rfl, hr⟩, rfl⟩ := q6
      show Go _ _ _ _ T6 (mkF m 31 #[.val (.ref o1), .val (.ref o2), .val (.int (0 : Int32))] [(.int r)])
      refine Go.goto S6 d_jdk_42_method_84_code_31 (pc' := 45) (by decide) ?_
      exact Go.ireturn S6 rfl d_jdk_42_method_84_code_45 (by decide) (by decide) (⟨⟨r, rfl, hr⟩, rfl⟩)
set_option maxRecDepth 65536 in
set_option maxHeartbeats 4000000 in
theorem rm_contT {l : Launch} {Z : State} {a0 : Array Value} (hw : HW Z a0) (o1 : Addr) (o2 : Addr) (s1 s2 : Addr) (k1 k2 : ClassId) (bt : Int32) (cs : Int32) {h0 : Heap} (hE : Ext Z.heap h0) (A1 : StrAt Z h0 o1 s1 k1 [97, 98, 110, 112]) (A2 : StrAt Z h0 o2 s2 k2 [bt]) (Cs : Sta Z Z.heap "java/lang/String" "COMPACT_STRINGS" "Z" (.int cs)) (Cn : ¬ cs = 0) :
    OMeets l Z (⟨"java/lang/String", "contains", "(Ljava/lang/CharSequence;)Z"⟩ : MethodName) jdk_42_method_97_code 2 (some .boolean) ({ frames := 3, cells := 0, slots := 0, locals := 49 } : Room) #[(.ref o1), (.ref o2)] h0 [] (fun v h => v = some (.int (if bt = 97 ∨ bt = 98 ∨ bt = 110 ∨ bt = 112 then 1 else 0 : Int32)) ∧ h0 = h) := by
  refine OMeets.body (plainFor_of_name pn1) hE #[.val (.ref o1), .val (.ref o2)] (fun m => by first | rfl | (simp [entryFrame, mkF, argsToLocals, Value.category, maxLocals]; done)) ?_
  intro p e s m below meth co T S
  refine Go.aloadN S d_jdk_42_method_97_code_0 rfl rfl (pc' := 1) rfl ?_
  refine Go.aloadN S d_jdk_42_method_97_code_1 rfl rfl (pc' := 2) rfl ?_
  refine Go.invokeinterface S (y := ⟨"java/lang/String", "toString", "()Ljava/lang/String;"⟩) (rm_toString hw o2 S.ext) (wd44 hw) (wd45 hw) (wd46 hw) (by first | rfl | decide) (wd47 hw) (wd48 hw) (wd49 hw) (wd50 hw) (wd51 hw) (wd3 hw) (wd52 hw) (by decide) A2.1 d_jdk_42_method_97_code_2 rfl pd7 (argsL := []) rfl rfl rfl (by decide) (W := 1) rfl (by decide) (by decide) (by decide) all0 (pc' := 7) rfl ?_
  intro v1 T1 h1 L1 S1 K1 q1
  obtain ⟨rfl, rfl⟩ := q1
  show Go _ _ _ _ T1 (mkF m 7 #[.val (.ref o1), .val (.ref o2)] [(.ref o2), (.ref o1)])
  refine Go.invokevirtual S1 (y := ⟨"java/lang/String", "indexOf", "(Ljava/lang/String;)I"⟩) (rm_ixST hw o1 o2 s1 s2 k1 k2 bt cs S1.ext A1 A2 Cs Cn) (wd53 hw) (wd54 hw) (S1.nf (wd56 hw)) (wd56 hw) (wd55 hw) (wd3 hw) (wd57 hw) (by decide) A1.1 d_jdk_42_method_97_code_7 rfl pd8 (argsL := [(.ref o2)]) rfl rfl rfl (by decide) (W := 0) rfl (by decide) (by decide) (by decide) all0 (pc' := 10) rfl ?_
  intro v2 T2 h2 L2 S2 K2 q2
  obtain ⟨⟨r, rfl, hr⟩, rfl⟩ := q2
  show Go _ _ _ _ T2 (mkF m 10 #[.val (.ref o1), .val (.ref o2)] [(.int r)])
  refine Go.if_lt S2 d_jdk_42_method_97_code_10 (pt := 17) (by decide) (pc' := 13) rfl ?_ ?_
  · intro c10
    refine Go.iconst S2 (v := 0) d_jdk_42_method_97_code_17 rfl (pc' := 18) rfl ?_
    exact Go.zreturn S2 rfl (by decide) d_jdk_42_method_97_code_18 (z' := (0 : Int32)) rfl (by decide) (by decide) (⟨by rw [if_neg (fun q => (hr.mpr q) c10)], rfl⟩)
  · intro c10
    refine Go.iconst S2 (v := 1) d_jdk_42_method_97_code_13 rfl (pc' := 14) rfl ?_
    refine Go.goto S2 d_jdk_42_method_97_code_14 (pc' := 18) (by decide) ?_
    exact Go.zreturn S2 rfl (by decide) d_jdk_42_method_97_code_18 (z' := (1 : Int32)) rfl (by decide) (by decide) (⟨by rw [if_pos (hr.mp c10)], rfl⟩)
set_option maxRecDepth 65536 in
set_option maxHeartbeats 4000000 in
theorem rm_covT {l : Launch} {Z : State} {a0 : Array Value} (hw : HW Z a0) (a : Addr) (o2 : Addr) (an o1 : Addr) (s1 s2 : Addr) (k1 k2 : ClassId) (bt : Int32) (cs : Int32) {h0 : Heap} (hE : Ext Z.heap h0) (Sy : Sta Z Z.heap "com/example/tributary/tributary/target/AccessPoint" "ANY" "Lcom/example/tributary/tributary/target/AccessPoint;" (.ref an)) (hne : a ≠ an) (Fs : Fld Z h0 a "com/example/tributary/tributary/target/AccessPoint" "m_sSubfieldCodes" "Ljava/lang/String;" (.ref o1)) (A1 : StrAt Z h0 o1 s1 k1 [97, 98, 110, 112]) (A2 : StrAt Z h0 o2 s2 k2 [bt]) (Cs : Sta Z Z.heap "java/lang/String" "COMPACT_STRINGS" "Z" (.int cs)) (Cn : ¬ cs = 0) :
    OMeets l Z (⟨"com/example/tributary/tributary/target/AccessPoint", "coversSubfield", "(Ljava/lang/String;)Z"⟩ : MethodName) prog_47_method_6_code 2 (some .boolean) ({ frames := 4, cells := 0, slots := 0, locals := 62 } : Room) #[(.ref a), (.ref o2)] h0 [] (fun v h => v = some (.int (if bt = 97 ∨ bt = 98 ∨ bt = 110 ∨ bt = 112 then 1 else 0 : Int32)) ∧ h0 = h) := by
  refine OMeets.body (plainFor_of_name pn2) hE #[.val (.ref a), .val (.ref o2)] (fun m => by first | rfl | (simp [entryFrame, mkF, argsToLocals, Value.category, maxLocals]; done)) ?_
  intro p e s m below meth co T S
  refine Go.aloadN S d_prog_47_method_6_code_0 rfl rfl (pc' := 1) rfl ?_
  refine Go.getstatic S (host := "") (Or.inl (wd35 hw)) Via.refl Sy d_prog_47_method_6_code_1 (pc' := 4) rfl ?_
  intro T1 S1
  refine Go.acmp_eq S1 d_prog_47_method_6_code_4 (pt := 18) (by decide) (pc' := 7) rfl rfl rfl ?_ ?_
  · intro c4; exact absurd c4 (fun q => hne (Value.ref.inj q))
  · intro c4
    refine Go.aloadN S1 d_prog_47_method_6_code_7 rfl rfl (pc' := 8) rfl ?_
    refine Go.getfield S1 (host := "") (Or.inl (wd37 hw)) Via.refl Fs d_prog_47_method_6_code_8 (pc' := 11) rfl ?_
    intro T2 S2
    refine Go.aloadN S2 d_prog_47_method_6_code_11 rfl rfl (pc' := 12) rfl ?_
    refine Go.invokevirtual S2 (y := ⟨"java/lang/String", "contains", "(Ljava/lang/CharSequence;)Z"⟩) (rm_contT hw o1 o2 s1 s2 k1 k2 bt cs S2.ext A1 A2 Cs Cn) (wd39 hw) (wd40 hw) (S2.nf (wd42 hw)) (wd42 hw) (wd41 hw) (wd3 hw) (wd43 hw) (by decide) A1.1 d_prog_47_method_6_code_12 rfl pd9 (argsL := [(.ref o2)]) rfl rfl rfl (by decide) (W := 0) rfl (by decide) (by decide) (by decide) all0 (pc' := 15) rfl ?_
    intro v3 T3 h3 L3 S3 K3 q3
    obtain ⟨rfl, rfl⟩ := q3
    show Go _ _ _ _ T3 (mkF m 15 #[.val (.ref a), .val (.ref o2)] [(.int (if bt = 97 ∨ bt = 98 ∨ bt = 110 ∨ bt = 112 then 1 else 0 : Int32))])
    refine Go.if_eq S3 d_prog_47_method_6_code_15 (pt := 22) (by decide) (pc' := 18) rfl ?_ ?_
    · intro c15
      refine Go.iconst S3 (v := 0) d_prog_47_method_6_code_22 rfl (pc' := 23) rfl ?_
      exact Go.zreturn S3 rfl (by decide) d_prog_47_method_6_code_23 (z' := (0 : Int32)) rfl (by decide) (by decide) (⟨by rw [if_neg (fun q => by rw [if_pos q] at c15; exact absurd c15 (by decide))], rfl⟩)
    · intro c15
      refine Go.iconst S3 (v := 1) d_prog_47_method_6_code_18 rfl (pc' := 19) rfl ?_
      refine Go.goto S3 d_prog_47_method_6_code_19 (pc' := 23) (by decide) ?_
      exact Go.zreturn S3 rfl (by decide) d_prog_47_method_6_code_23 (z' := (1 : Int32)) rfl (by decide) (by decide) (⟨by rw [if_pos (Classical.byContradiction fun q => c15 (by rw [if_neg q]))], rfl⟩)
set_option maxRecDepth 65536 in
set_option maxHeartbeats 4000000 in
theorem rm_ix5A {l : Launch} {Z : State} {a0 : Array Value} (hw : HW Z a0) (s1 : Addr) (s2 : Addr) (k1 k2 : ClassId) (bt : Int32) {h0 : Heap} (hE : Ext Z.heap h0) (VS : Arv Z h0 s1 k1 .byte 1 [.int 97] (.int 0)) (VT : Arv Z h0 s2 k2 .byte 1 [.int bt] (.int 0)) :
    OMeets l Z (⟨"java/lang/StringLatin1", "indexOf", "([BI[BII)I"⟩ : MethodName) jdk_43_method_25_code 11 (some .int) ({ frames := 0, cells := 0, slots := 0, locals := 0 } : Room) #[(.ref s1), (.int (1 : Int32)), (.ref s2), (.int (1 : Int32)), (.int (0 : Int32))] h0 [] (fun v h => (∃ r, v = some (.int r) ∧ (¬ r < 0 ↔ (bt = 97))) ∧ h0 = h) := by
  refine OMeets.body (plainFor_of_name pn0) hE #[.val (.ref s1), .val (.int (1 : Int32)), .val (.ref s2), .val (.int (1 : Int32)), .val (.int (0 : Int32)), .unset, .unset, .unset, .unset, .unset, .unset] (fun m => by first | (simp [entryFrame, mkF, argsToLocals, Value.category, maxLocals]; done) | rfl) ?_
  intro p e s m below meth co T S
  refine Go.aloadN S d_jdk_43_method_25_code_0 rfl rfl (pc' := 1) rfl ?_
  refine Go.iconst S (v := 0) d_jdk_43_method_25_code_1 rfl (pc' := 2) rfl ?_
  refine Go.baload S VT (by decide) (v := (.int bt)) rfl d_jdk_43_method_25_code_2 (pc' := 3) rfl ?_
  refine Go.istore S d_jdk_43_method_25_code_3 (Ls' := #[.val (.ref s1), .val (.int (1 : Int32)), .val (.ref s2), .val (.int (1 : Int32)), .val (.int (0 : Int32)), .val (.int bt), .unset, .unset, .unset, .unset, .unset]) rfl (pc' := 5) rfl ?_
  refine Go.iloadN S d_jdk_43_method_25_code_5 rfl (pc' := 6) rfl ?_
  refine Go.iloadN S d_jdk_43_method_25_code_6 rfl (pc' := 7) rfl ?_
  refine Go.isub S d_jdk_43_method_25_code_7 (pc' := 8) rfl ?_
  show Go _ _ _ _ T (mkF m 8 #[.val (.ref s1), .val (.int (1 : Int32)), .val (.ref s2), .val (.int (1 : Int32)), .val (.int (0 : Int32)), .val (.int bt), .unset, .unset, .unset, .unset, .unset] [(.int (0 : Int32))])
  refine Go.istore S d_jdk_43_method_25_code_8 (Ls' := #[.val (.ref s1), .val (.int (1 : Int32)), .val (.ref s2), .val (.int (1 : Int32)), .val (.int (0 : Int32)), .val (.int bt), .val (.int (0 : Int32)), .unset, .unset, .unset, .unset]) rfl (pc' := 10) rfl ?_
  refine Go.iload S d_jdk_43_method_25_code_10 rfl (pc' := 12) rfl ?_
  refine Go.istore S d_jdk_43_method_25_code_12 (Ls' := #[.val (.ref s1), .val (.int (1 : Int32)), .val (.ref s2), .val (.int (1 : Int32)), .val (.int (0 : Int32)), .val (.int bt), .val (.int (0 : Int32)), .val (.int (0 : Int32)), .unset, .unset, .unset]) rfl (pc' := 14) rfl ?_
  refine Go.iload S d_jdk_43_method_25_code_14 rfl (pc' := 16) rfl ?_
  refine Go.iload S d_jdk_43_method_25_code_16 rfl (pc' := 18) rfl ?_
  refine Go.icmp_gt S d_jdk_43_method_25_code_18 (pt := 119) (by decide) (pc' := 21) rfl ?_ ?_
  · intro c18; exact absurd c18 (by decide)
  · intro c18
    refine Go.aloadN S d_jdk_43_method_25_code_21 rfl rfl (pc' := 22) rfl ?_
    refine Go.iload S d_jdk_43_method_25_code_22 rfl (pc' := 24) rfl ?_
    refine Go.baload S VS (by decide) (v := (.int (97 : Int32))) rfl d_jdk_43_method_25_code_24 (pc' := 25) rfl ?_
    refine Go.iload S d_jdk_43_method_25_code_25 rfl (pc' := 27) rfl ?_
    refine Go.icmp_eq S d_jdk_43_method_25_code_27 (pt := 52) (by decide) (pc' := 30) rfl ?_ ?_
    · intro c27
      refine Go.iload S d_jdk_43_method_25_code_52 rfl (pc' := 54) rfl ?_
      refine Go.iload S d_jdk_43_method_25_code_54 rfl (pc' := 56) rfl ?_
      refine Go.icmp_gt S d_jdk_43_method_25_code_56 (pt := 113) (by decide) (pc' := 59) rfl ?_ ?_
      · intro c56; exact absurd c56 (by decide)
      · intro c56
        refine Go.iload S d_jdk_43_method_25_code_59 rfl (pc' := 61) rfl ?_
        refine Go.iconst S (v := 1) d_jdk_43_method_25_code_61 rfl (pc' := 62) rfl ?_
        refine Go.iadd S d_jdk_43_method_25_code_62 (pc' := 63) rfl ?_
        show Go _ _ _ _ T (mkF m 63 #[.val (.ref s1), .val (.int (1 : Int32)), .val (.ref s2), .val (.int (1 : Int32)), .val (.int (0 : Int32)), .val (.int bt), .val (.int (0 : Int32)), .val (.int (0 : Int32)), .unset, .unset, .unset] [(.int (1 : Int32))])
        refine Go.istore S d_jdk_43_method_25_code_63 (Ls' := #[.val (.ref s1), .val (.int (1 : Int32)), .val (.ref s2), .val (.int (1 : Int32)), .val (.int (0 : Int32)), .val (.int bt), .val (.int (0 : Int32)), .val (.int (0 : Int32)), .val (.int (1 : Int32)), .unset, .unset]) rfl (pc' := 65) rfl ?_
        refine Go.iload S d_jdk_43_method_25_code_65 rfl (pc' := 67) rfl ?_
        refine Go.iloadN S d_jdk_43_method_25_code_67 rfl (pc' := 68) rfl ?_
        refine Go.iadd S d_jdk_43_method_25_code_68 (pc' := 69) rfl ?_
        show Go _ _ _ _ T (mkF m 69 #[.val (.ref s1), .val (.int (1 : Int32)), .val (.ref s2), .val (.int (1 : Int32)), .val (.int (0 : Int32)), .val (.int bt), .val (.int (0 : Int32)), .val (.int (0 : Int32)), .val (.int (1 : Int32)), .unset, .unset] [(.int (2 : Int32))])
        refine Go.iconst S (v := 1) d_jdk_43_method_25_code_69 rfl (pc' := 70) rfl ?_
        refine Go.isub S d_jdk_43_method_25_code_70 (pc' := 71) rfl ?_
        show Go _ _ _ _ T (mkF m 71 #[.val (.ref s1), .val (.int (1 : Int32)), .val (.ref s2), .val (.int (1 : Int32)), .val (.int (0 : Int32)), .val (.int bt), .val (.int (0 : Int32)), .val (.int (0 : Int32)), .val (.int (1 : Int32)), .unset, .unset] [(.int (1 : Int32))])
        refine Go.istore S d_jdk_43_method_25_code_71 (Ls' := #[.val (.ref s1), .val (.int (1 : Int32)), .val (.ref s2), .val (.int (1 : Int32)), .val (.int (0 : Int32)), .val (.int bt), .val (.int (0 : Int32)), .val (.int (0 : Int32)), .val (.int (1 : Int32)), .val (.int (1 : Int32)), .unset]) rfl (pc' := 73) rfl ?_
        refine Go.iconst S (v := 1) d_jdk_43_method_25_code_73 rfl (pc' := 74) rfl ?_
        refine Go.istore S d_jdk_43_method_25_code_74 (Ls' := #[.val (.ref s1), .val (.int (1 : Int32)), .val (.ref s2), .val (.int (1 : Int32)), .val (.int (0 : Int32)), .val (.int bt), .val (.int (0 : Int32)), .val (.int (0 : Int32)), .val (.int (1 : Int32)), .val (.int (1 : Int32)), .val (.int (1 : Int32))]) rfl (pc' := 76) rfl ?_
        refine Go.iload S d_jdk_43_method_25_code_76 rfl (pc' := 78) rfl ?_
        refine Go.iload S d_jdk_43_method_25_code_78 rfl (pc' := 80) rfl ?_
        refine Go.icmp_ge S d_jdk_43_method_25_code_80 (pt := 103) (by decide) (pc' := 83) rfl ?_ ?_
        · intro c80
          refine Go.iload S d_jdk_43_method_25_code_103 rfl (pc' := 105) rfl ?_
          refine Go.iload S d_jdk_43_method_25_code_105 rfl (pc' := 107) rfl ?_
          refine Go.icmp_ne S d_jdk_43_method_25_code_107 (pt := 113) (by decide) (pc' := 110) rfl ?_ ?_
          · intro c107; exact absurd (by decide) c107
          · intro c107
            refine Go.iload S d_jdk_43_method_25_code_110 rfl (pc' := 112) rfl ?_
            exact Go.ireturn S rfl d_jdk_43_method_25_code_112 (by decide) (by decide) (⟨⟨_, rfl, ⟨fun _ => c27.symm, fun _ => by decide⟩⟩, rfl⟩)
        · intro c80; exact absurd c80 (by decide)
    · intro c27
      refine Go.iinc S d_jdk_43_method_25_code_30 rfl (Ls' := #[.val (.ref s1), .val (.int (1 : Int32)), .val (.ref s2), .val (.int (1 : Int32)), .val (.int (0 : Int32)), .val (.int bt), .val (.int (0 : Int32)), .val (.int (1 : Int32)), .unset, .unset, .unset]) rfl (pc' := 33) rfl ?_
      refine Go.iload S d_jdk_43_method_25_code_33 rfl (pc' := 35) rfl ?_
      refine Go.iload S d_jdk_43_method_25_code_35 rfl (pc' := 37) rfl ?_
      refine Go.icmp_gt S d_jdk_43_method_25_code_37 (pt := 52) (by decide) (pc' := 40) rfl ?_ ?_
      · intro c37
        refine Go.iload S d_jdk_43_method_25_code_52 rfl (pc' := 54) rfl ?_
        refine Go.iload S d_jdk_43_method_25_code_54 rfl (pc' := 56) rfl ?_
        refine Go.icmp_gt S d_jdk_43_method_25_code_56 (pt := 113) (by decide) (pc' := 59) rfl ?_ ?_
        · intro c56
          refine Go.iinc S d_jdk_43_method_25_code_113 rfl (Ls' := #[.val (.ref s1), .val (.int (1 : Int32)), .val (.ref s2), .val (.int (1 : Int32)), .val (.int (0 : Int32)), .val (.int bt), .val (.int (0 : Int32)), .val (.int (2 : Int32)), .unset, .unset, .unset]) rfl (pc' := 116) rfl ?_
          refine Go.goto S d_jdk_43_method_25_code_116 (pc' := 14) (by decide) ?_
          refine Go.iload S d_jdk_43_method_25_code_14 rfl (pc' := 16) rfl ?_
          refine Go.iload S d_jdk_43_method_25_code_16 rfl (pc' := 18) rfl ?_
          refine Go.icmp_gt S d_jdk_43_method_25_code_18 (pt := 119) (by decide) (pc' := 21) rfl ?_ ?_
          · intro c18_2
            refine Go.iconst S (v := -1) d_jdk_43_method_25_code_119 rfl (pc' := 120) rfl ?_
            exact Go.ireturn S rfl d_jdk_43_method_25_code_120 (by decide) (by decide) (⟨⟨_, rfl, ⟨fun q => absurd (by decide) q, fun q => absurd q (fun q => c27 q.symm)⟩⟩, rfl⟩)
          · intro c18_2; exact absurd (by decide) c18_2
        · intro c56; exact absurd (by decide) c56
      · intro c37; exact absurd (by decide) c37
set_option maxRecDepth 65536 in
set_option maxHeartbeats 4000000 in
theorem rm_ix2A {l : Launch} {Z : State} {a0 : Array Value} (hw : HW Z a0) (s1 : Addr) (s2 : Addr) (k1 k2 : ClassId) (bt : Int32) {h0 : Heap} (hE : Ext Z.heap h0) (VS : Arv Z h0 s1 k1 .byte 1 [.int 97] (.int 0)) (VT : Arv Z h0 s2 k2 .byte 1 [.int bt] (.int 0)) :
    OMeets l Z (⟨"java/lang/StringLatin1", "indexOf", "([B[B)I"⟩ : MethodName) jdk_43_method_24_code 2 (some .int) ({ frames := 1, cells := 0, slots := 0, locals := 22 } : Room) #[(.ref s1), (.ref s2)] h0 [] (fun v h => (∃ r, v = some (.int r) ∧ (¬ r < 0 ↔ (bt = 97))) ∧ h0 = h) := by
  refine OMeets.body (plainFor_of_name pn0) hE #[.val (.ref s1), .val (.ref s2)] (fun m => by first | rfl | (simp [entryFrame, mkF, argsToLocals, Value.category, maxLocals]; done)) ?_
  intro p e s m below meth co T S
  refine Go.aloadN S d_jdk_43_method_24_code_0 rfl rfl (pc' := 1) rfl ?_
  refine Go.arraylength S VT d_jdk_43_method_24_code_1 (pc' := 2) rfl ?_
  refine Go.if_ne S d_jdk_43_method_24_code_2 (pt := 7) (by decide) (pc' := 5) rfl ?_ ?_
  · intro c2
    refine Go.aloadN S d_jdk_43_method_24_code_7 rfl rfl (pc' := 8) rfl ?_
    refine Go.arraylength S VS d_jdk_43_method_24_code_8 (pc' := 9) rfl ?_
    refine Go.if_ne S d_jdk_43_method_24_code_9 (pt := 14) (by decide) (pc' := 12) rfl ?_ ?_
    · intro c9
      refine Go.aloadN S d_jdk_43_method_24_code_14 rfl rfl (pc' := 15) rfl ?_
      refine Go.aloadN S d_jdk_43_method_24_code_15 rfl rfl (pc' := 16) rfl ?_
      refine Go.arraylength S VS d_jdk_43_method_24_code_16 (pc' := 17) rfl ?_
      refine Go.aloadN S d_jdk_43_method_24_code_17 rfl rfl (pc' := 18) rfl ?_
      refine Go.aloadN S d_jdk_43_method_24_code_18 rfl rfl (pc' := 19) rfl ?_
      refine Go.arraylength S VT d_jdk_43_method_24_code_19 (pc' := 20) rfl ?_
      refine Go.iconst S (v := 0) d_jdk_43_method_24_code_20 rfl (pc' := 21) rfl ?_
      refine Go.invokestatic S (y := ⟨"java/lang/StringLatin1", "indexOf", "([BI[BII)I"⟩) (rm_ix5A hw s1 s2 k1 k2 bt S.ext VS VT) (wd71 hw) (wd72 hw) (wd8 hw) (wd73 hw) (by decide) d_jdk_43_method_24_code_21 rfl pd3 (argsL := [(.ref s1), (.int (1 : Int32)), (.ref s2), (.int (1 : Int32)), (.int (0 : Int32))]) rfl rfl rfl (by decide) (W := 0) rfl (by decide) (by decide) (by decide) all0 (pc' := 24) rfl ?_
      intro v1 T1 h1 L1 S1 K1 q1
      obtain ⟨⟨r, rfl, hr⟩, rfl⟩ := q1
      show Go _ _ _ _ T1 (mkF m 24 #[.val (.ref s1), .val (.ref s2)] [(.int r)])
      exact Go.ireturn S1 rfl d_jdk_43_method_24_code_24 (by decide) (by decide) (⟨⟨r, rfl, hr⟩, rfl⟩)
    · intro c9; exact absurd c9 (by decide)
  · intro c2; exact absurd c2 (by decide)
set_option maxRecDepth 65536 in
set_option maxHeartbeats 4000000 in
theorem rm_ixSA {l : Launch} {Z : State} {a0 : Array Value} (hw : HW Z a0) (o1 : Addr) (o2 : Addr) (s1 s2 : Addr) (k1 k2 : ClassId) (bt : Int32) (cs : Int32) {h0 : Heap} (hE : Ext Z.heap h0) (A1 : StrAt Z h0 o1 s1 k1 [97]) (A2 : StrAt Z h0 o2 s2 k2 [bt]) (Cs : Sta Z Z.heap "java/lang/String" "COMPACT_STRINGS" "Z" (.int cs)) (Cn : ¬ cs = 0) :
    OMeets l Z (⟨"java/lang/String", "indexOf", "(Ljava/lang/String;)I"⟩ : MethodName) jdk_42_method_84_code 3 (some .int) ({ frames := 2, cells := 0, slots := 0, locals := 35 } : Room) #[(.ref o1), (.ref o2)] h0 [] (fun v h => (∃ r, v = some (.int r) ∧ (¬ r < 0 ↔ (bt = 97))) ∧ h0 = h) := by
  refine OMeets.body (plainFor_of_name pn1) hE #[.val (.ref o1), .val (.ref o2), .unset] (fun m => by first | rfl | (simp [entryFrame, mkF, argsToLocals, Value.category, maxLocals]; done)) ?_
  intro p e s m below meth co T S
  refine Go.aloadN S d_jdk_42_method_84_code_0 rfl rfl (pc' := 1) rfl ?_
  refine Go.invokevirtual S (y := ⟨"java/lang/String", "coder", "()B"⟩) (rm_coder hw o1 cs S.ext A1.2.1 Cs Cn) (wd58 hw) (wd59 hw) (S.nf (wd61 hw)) (wd61 hw) (wd60 hw) (wd3 hw) (wd62 hw) (by decide) A1.1 d_jdk_42_method_84_code_1 rfl pd4 (argsL := []) rfl rfl rfl (by decide) (W := 0) rfl (by decide) (by decide) (by decide) all0 (pc' := 4) rfl ?_
  intro v1 T1 h1 L1 S1 K1 q1
  obtain ⟨rfl, rfl⟩ := q1
  show Go _ _ _ _ T1 (mkF m 4 #[.val (.ref o1), .val (.ref o2), .unset] [(.int (0 : Int32))])
  refine Go.istoreN S1 d_jdk_42_method_84_code_4 (Ls' := #[.val (.ref o1), .val (.ref o2), .val (.int (0 : Int32))]) rfl (pc' := 5) rfl ?_
  refine Go.iloadN S1 d_jdk_42_method_84_code_5 rfl (pc' := 6) rfl ?_
  refine Go.aloadN S1 d_jdk_42_method_84_code_6 rfl rfl (pc' := 7) rfl ?_
  refine Go.invokevirtual S1 (y := ⟨"java/lang/String", "coder", "()B"⟩) (rm_coder hw o2 cs S1.ext A2.2.1 Cs Cn) (wd58 hw) (wd59 hw) (S1.nf (wd61 hw)) (wd61 hw) (wd60 hw) (wd3 hw) (wd62 hw) (by decide) A2.1 d_jdk_42_method_84_code_7 rfl pd4 (argsL := []) rfl rfl rfl (by decide) (W := 1) rfl (by decide) (by decide) (by decide) all0 (pc' := 10) rfl ?_
  intro v2 T2 h2 L2 S2 K2 q2
  obtain ⟨rfl, rfl⟩ := q2
  show Go _ _ _ _ T2 (mkF m 10 #[.val (.ref o1), .val (.ref o2), .val (.int (0 : Int32))] [(.int (0 : Int32)), (.int (0 : Int32))])
  refine Go.icmp_ne S2 d_jdk_42_method_84_code_10 (pt := 46) (by decide) (pc' := 13) rfl ?_ ?_
  · intro c10; exact absurd (by decide) c10
  · intro c10
    refine Go.aloadN S2 d_jdk_42_method_84_code_13 rfl rfl (pc' := 14) rfl ?_
    refine Go.invokevirtual S2 (y := ⟨"java/lang/String", "isLatin1", "()Z"⟩) (rm_isl1 hw o1 cs S2.ext A1.2.1 Cs Cn) (wd63 hw) (wd64 hw) (S2.nf (wd66 hw)) (wd66 hw) (wd65 hw) (wd3 hw) (wd67 hw) (by decide) A1.1 d_jdk_42_method_84_code_14 rfl pd5 (argsL := []) rfl rfl rfl (by decide) (W := 0) rfl (by decide) (by decide) (by decide) all0 (pc' := 17) rfl ?_
    intro v3 T3 h3 L3 S3 K3 q3
    obtain ⟨rfl, rfl⟩ := q3
    show Go _ _ _ _ T3 (mkF m 17 #[.val (.ref o1), .val (.ref o2), .val (.int (0 : Int32))] [(.int (1 : Int32))])
    refine Go.if_eq S3 d_jdk_42_method_84_code_17 (pt := 34) (by decide) (pc' := 20) rfl ?_ ?_
    · intro c17; exact absurd c17 (by decide)
    · intro c17
      refine Go.aloadN S3 d_jdk_42_method_84_code_20 rfl rfl (pc' := 21) rfl ?_
      refine Go.getfield S3 (host := "") (Or.inl (wd23 hw)) Via.refl A1.2.2.1 d_jdk_42_method_84_code_21 (pc' := 24) rfl ?_
      intro T4 S4
      refine Go.aloadN S4 d_jdk_42_method_84_code_24 rfl rfl (pc' := 25) rfl ?_
      refine Go.getfield S4 (host := "") (Or.inl (wd23 hw)) Via.refl A2.2.2.1 d_jdk_42_method_84_code_25 (pc' := 28) rfl ?_
      intro T5 S5
      refine Go.invokestatic S5 (y := ⟨"java/lang/StringLatin1", "indexOf", "([B[B)I"⟩) (rm_ix2A hw s1 s2 k1 k2 bt S5.ext A1.2.2.2.1 A2.2.2.2.1) (wd68 hw) (wd69 hw) (wd8 hw) (wd70 hw) (by decide) d_jdk_42_method_84_code_28 rfl pd6 (argsL := [(.ref s1), (.ref s2)]) rfl rfl rfl (by decide) (W := 0) rfl (by decide) (by decide) (by decide) all0 (pc' := 31) rfl ?_
      intro v6 T6 h6 L6 S6 K6 q6
      obtain ⟨⟨r, rfl, hr⟩, rfl⟩ := q6
      show Go _ _ _ _ T6 (mkF m 31 #[.val (.ref o1), .val (.ref o2), .val (.int (0 : Int32))] [(.int r)])
      refine Go.goto S6 d_jdk_42_method_84_code_31 (pc' := 45) (by decide) ?_
      exact Go.ireturn S6 rfl d_jdk_42_method_84_code_45 (by decide) (by decide) (⟨⟨r, rfl, hr⟩, rfl⟩)
set_option maxRecDepth 65536 in
set_option maxHeartbeats 4000000 in
theorem rm_contA {l : Launch} {Z : State} {a0 : Array Value} (hw : HW Z a0) (o1 : Addr) (o2 : Addr) (s1 s2 : Addr) (k1 k2 : ClassId) (bt : Int32) (cs : Int32) {h0 : Heap} (hE : Ext Z.heap h0) (A1 : StrAt Z h0 o1 s1 k1 [97]) (A2 : StrAt Z h0 o2 s2 k2 [bt]) (Cs : Sta Z Z.heap "java/lang/String" "COMPACT_STRINGS" "Z" (.int cs)) (Cn : ¬ cs = 0) :
    OMeets l Z (⟨"java/lang/String", "contains", "(Ljava/lang/CharSequence;)Z"⟩ : MethodName) jdk_42_method_97_code 2 (some .boolean) ({ frames := 3, cells := 0, slots := 0, locals := 49 } : Room) #[(.ref o1), (.ref o2)] h0 [] (fun v h => v = some (.int (if bt = 97 then 1 else 0 : Int32)) ∧ h0 = h) := by
  refine OMeets.body (plainFor_of_name pn1) hE #[.val (.ref o1), .val (.ref o2)] (fun m => by first | rfl | (simp [entryFrame, mkF, argsToLocals, Value.category, maxLocals]; done)) ?_
  intro p e s m below meth co T S
  refine Go.aloadN S d_jdk_42_method_97_code_0 rfl rfl (pc' := 1) rfl ?_
  refine Go.aloadN S d_jdk_42_method_97_code_1 rfl rfl (pc' := 2) rfl ?_
  refine Go.invokeinterface S (y := ⟨"java/lang/String", "toString", "()Ljava/lang/String;"⟩) (rm_toString hw o2 S.ext) (wd44 hw) (wd45 hw) (wd46 hw) (by first | rfl | decide) (wd47 hw) (wd48 hw) (wd49 hw) (wd50 hw) (wd51 hw) (wd3 hw) (wd52 hw) (by decide) A2.1 d_jdk_42_method_97_code_2 rfl pd7 (argsL := []) rfl rfl rfl (by decide) (W := 1) rfl (by decide) (by decide) (by decide) all0 (pc' := 7) rfl ?_
  intro v1 T1 h1 L1 S1 K1 q1
  obtain ⟨rfl, rfl⟩ := q1
  show Go _ _ _ _ T1 (mkF m 7 #[.val (.ref o1), .val (.ref o2)] [(.ref o2), (.ref o1)])
  refine Go.invokevirtual S1 (y := ⟨"java/lang/String", "indexOf", "(Ljava/lang/String;)I"⟩) (rm_ixSA hw o1 o2 s1 s2 k1 k2 bt cs S1.ext A1 A2 Cs Cn) (wd53 hw) (wd54 hw) (S1.nf (wd56 hw)) (wd56 hw) (wd55 hw) (wd3 hw) (wd57 hw) (by decide) A1.1 d_jdk_42_method_97_code_7 rfl pd8 (argsL := [(.ref o2)]) rfl rfl rfl (by decide) (W := 0) rfl (by decide) (by decide) (by decide) all0 (pc' := 10) rfl ?_
  intro v2 T2 h2 L2 S2 K2 q2
  obtain ⟨⟨r, rfl, hr⟩, rfl⟩ := q2
  show Go _ _ _ _ T2 (mkF m 10 #[.val (.ref o1), .val (.ref o2)] [(.int r)])
  refine Go.if_lt S2 d_jdk_42_method_97_code_10 (pt := 17) (by decide) (pc' := 13) rfl ?_ ?_
  · intro c10
    refine Go.iconst S2 (v := 0) d_jdk_42_method_97_code_17 rfl (pc' := 18) rfl ?_
    exact Go.zreturn S2 rfl (by decide) d_jdk_42_method_97_code_18 (z' := (0 : Int32)) rfl (by decide) (by decide) (⟨by rw [if_neg (fun q => (hr.mpr q) c10)], rfl⟩)
  · intro c10
    refine Go.iconst S2 (v := 1) d_jdk_42_method_97_code_13 rfl (pc' := 14) rfl ?_
    refine Go.goto S2 d_jdk_42_method_97_code_14 (pc' := 18) (by decide) ?_
    exact Go.zreturn S2 rfl (by decide) d_jdk_42_method_97_code_18 (z' := (1 : Int32)) rfl (by decide) (by decide) (⟨by rw [if_pos (hr.mp c10)], rfl⟩)
set_option maxRecDepth 65536 in
set_option maxHeartbeats 4000000 in
theorem rm_covA {l : Launch} {Z : State} {a0 : Array Value} (hw : HW Z a0) (a : Addr) (o2 : Addr) (an o1 : Addr) (s1 s2 : Addr) (k1 k2 : ClassId) (bt : Int32) (cs : Int32) {h0 : Heap} (hE : Ext Z.heap h0) (Sy : Sta Z Z.heap "com/example/tributary/tributary/target/AccessPoint" "ANY" "Lcom/example/tributary/tributary/target/AccessPoint;" (.ref an)) (hne : a ≠ an) (Fs : Fld Z h0 a "com/example/tributary/tributary/target/AccessPoint" "m_sSubfieldCodes" "Ljava/lang/String;" (.ref o1)) (A1 : StrAt Z h0 o1 s1 k1 [97]) (A2 : StrAt Z h0 o2 s2 k2 [bt]) (Cs : Sta Z Z.heap "java/lang/String" "COMPACT_STRINGS" "Z" (.int cs)) (Cn : ¬ cs = 0) :
    OMeets l Z (⟨"com/example/tributary/tributary/target/AccessPoint", "coversSubfield", "(Ljava/lang/String;)Z"⟩ : MethodName) prog_47_method_6_code 2 (some .boolean) ({ frames := 4, cells := 0, slots := 0, locals := 62 } : Room) #[(.ref a), (.ref o2)] h0 [] (fun v h => v = some (.int (if bt = 97 then 1 else 0 : Int32)) ∧ h0 = h) := by
  refine OMeets.body (plainFor_of_name pn2) hE #[.val (.ref a), .val (.ref o2)] (fun m => by first | rfl | (simp [entryFrame, mkF, argsToLocals, Value.category, maxLocals]; done)) ?_
  intro p e s m below meth co T S
  refine Go.aloadN S d_prog_47_method_6_code_0 rfl rfl (pc' := 1) rfl ?_
  refine Go.getstatic S (host := "") (Or.inl (wd35 hw)) Via.refl Sy d_prog_47_method_6_code_1 (pc' := 4) rfl ?_
  intro T1 S1
  refine Go.acmp_eq S1 d_prog_47_method_6_code_4 (pt := 18) (by decide) (pc' := 7) rfl rfl rfl ?_ ?_
  · intro c4; exact absurd c4 (fun q => hne (Value.ref.inj q))
  · intro c4
    refine Go.aloadN S1 d_prog_47_method_6_code_7 rfl rfl (pc' := 8) rfl ?_
    refine Go.getfield S1 (host := "") (Or.inl (wd37 hw)) Via.refl Fs d_prog_47_method_6_code_8 (pc' := 11) rfl ?_
    intro T2 S2
    refine Go.aloadN S2 d_prog_47_method_6_code_11 rfl rfl (pc' := 12) rfl ?_
    refine Go.invokevirtual S2 (y := ⟨"java/lang/String", "contains", "(Ljava/lang/CharSequence;)Z"⟩) (rm_contA hw o1 o2 s1 s2 k1 k2 bt cs S2.ext A1 A2 Cs Cn) (wd39 hw) (wd40 hw) (S2.nf (wd42 hw)) (wd42 hw) (wd41 hw) (wd3 hw) (wd43 hw) (by decide) A1.1 d_prog_47_method_6_code_12 rfl pd9 (argsL := [(.ref o2)]) rfl rfl rfl (by decide) (W := 0) rfl (by decide) (by decide) (by decide) all0 (pc' := 15) rfl ?_
    intro v3 T3 h3 L3 S3 K3 q3
    obtain ⟨rfl, rfl⟩ := q3
    show Go _ _ _ _ T3 (mkF m 15 #[.val (.ref a), .val (.ref o2)] [(.int (if bt = 97 then 1 else 0 : Int32))])
    refine Go.if_eq S3 d_prog_47_method_6_code_15 (pt := 22) (by decide) (pc' := 18) rfl ?_ ?_
    · intro c15
      refine Go.iconst S3 (v := 0) d_prog_47_method_6_code_22 rfl (pc' := 23) rfl ?_
      exact Go.zreturn S3 rfl (by decide) d_prog_47_method_6_code_23 (z' := (0 : Int32)) rfl (by decide) (by decide) (⟨by rw [if_neg (fun q => by rw [if_pos q] at c15; exact absurd c15 (by decide))], rfl⟩)
    · intro c15
      refine Go.iconst S3 (v := 1) d_prog_47_method_6_code_18 rfl (pc' := 19) rfl ?_
      refine Go.goto S3 d_prog_47_method_6_code_19 (pc' := 23) (by decide) ?_
      exact Go.zreturn S3 rfl (by decide) d_prog_47_method_6_code_23 (z' := (1 : Int32)) rfl (by decide) (by decide) (⟨by rw [if_pos (Classical.byContradiction fun q => c15 (by rw [if_neg q]))], rfl⟩)
set_option maxRecDepth 65536 in
set_option maxHeartbeats 4000000 in
theorem rm_covAny {l : Launch} {Z : State} {a0 : Array Value} (hw : HW Z a0) (a : Addr) (o2 : Addr)  {h0 : Heap} (hE : Ext Z.heap h0) (Sy : Sta Z Z.heap "com/example/tributary/tributary/target/AccessPoint" "ANY" "Lcom/example/tributary/tributary/target/AccessPoint;" (.ref a)) :
    OMeets l Z (⟨"com/example/tributary/tributary/target/AccessPoint", "coversSubfield", "(Ljava/lang/String;)Z"⟩ : MethodName) prog_47_method_6_code 2 (some .boolean) ({ frames := 0, cells := 0, slots := 0, locals := 0 } : Room) #[(.ref a), (.ref o2)] h0 [] (fun v h => v = some (.int 1) ∧ h0 = h) := by
  refine OMeets.body (plainFor_of_name pn2) hE #[.val (.ref a), .val (.ref o2)] (fun m => by first | rfl | (simp [entryFrame, mkF, argsToLocals, Value.category, maxLocals]; done)) ?_
  intro p e s m below meth co T S
  refine Go.aloadN S d_prog_47_method_6_code_0 rfl rfl (pc' := 1) rfl ?_
  refine Go.getstatic S (host := "") (Or.inl (wd35 hw)) Via.refl Sy d_prog_47_method_6_code_1 (pc' := 4) rfl ?_
  intro T1 S1
  refine Go.acmp_eq S1 d_prog_47_method_6_code_4 (pt := 18) (by decide) (pc' := 7) rfl rfl rfl ?_ ?_
  · intro c4
    refine Go.iconst S1 (v := 1) d_prog_47_method_6_code_18 rfl (pc' := 19) rfl ?_
    refine Go.goto S1 d_prog_47_method_6_code_19 (pc' := 23) (by decide) ?_
    exact Go.zreturn S1 rfl (by decide) d_prog_47_method_6_code_23 (z' := (1 : Int32)) rfl (by decide) (by decide) (⟨rfl, rfl⟩)
  · intro c4; exact absurd rfl c4
theorem own_ch (x : Int32) : ¬ (x &&& 255).toUInt32.toUInt16.toUInt32.toInt32 < 0 ∧ ¬ 255 < (x &&& 255).toUInt32.toUInt16.toUInt32.toInt32 := by
  have a := c_mask x 255 8 (by decide) (by decide)
  have b := c_i2c (x &&& 255)
  have e0 : (0 : Int32).toInt = 0 := rfl
  have e1 : (255 : Int32).toInt = 255 := rfl
  rw [Int32.lt_iff_toInt_lt, Int32.lt_iff_toInt_lt]
  omega
theorem own_beq {ch k : Int32} (h0 : ¬ ch < 0) (h1 : ¬ 255 < ch) (k0 : 0 ≤ k.toInt) (k1 : k.toInt < 128) : own_b ch = k ↔ ch = k := by
  have a := c_i2b ch
  have e0 : (0 : Int32).toInt = 0 := rfl
  have e1 : (255 : Int32).toInt = 255 := rfl
  rw [Int32.lt_iff_toInt_lt] at h0 h1
  rw [← Int32.toInt_inj, ← Int32.toInt_inj]
  show ch.toInt8.toInt32.toInt = _ ↔ _
  omega
set_option maxRecDepth 65536 in
set_option maxHeartbeats 4000000 in
theorem rm_code {l : Launch} {Z : State} {a0 : Array Value} (hw : HW Z a0) (np : Int32) (nc : Int32) (a_TITLE a_ANY a_TITLE_m_sSubfieldCodes a_TITLE_m_sSubfieldCodes_value a_ISBN a_ISBN_m_sSubfieldCodes a_ISBN_m_sSubfieldCodes_value a_AUTHOR a_SUBJECT a_ANY_m_sSubfieldCodes a_ANY_m_sSubfieldCodes_value : Addr) (k_a_TITLE_m_sSubfieldCodes_value k_a_ISBN_m_sSubfieldCodes_value k_a_ANY_m_sSubfieldCodes_value : ClassId) (cs : Int32) {h0 : Heap} (hE : Ext Z.heap h0) (St_TITLE : Sta Z Z.heap "com/example/tributary/tributary/target/AccessPoint" "TITLE" "Lcom/example/tributary/tributary/target/AccessPoint;" (.ref a_TITLE)) (X_a_TITLE : Exa Z Z.heap a_TITLE "com/example/tributary/tributary/target/AccessPoint") (St_ANY : Sta Z Z.heap "com/example/tributary/tributary/target/AccessPoint" "ANY" "Lcom/example/tributary/tributary/target/AccessPoint;" (.ref a_ANY)) (X_a_ANY : Exa Z Z.heap a_ANY "com/example/tributary/tributary/target/AccessPoint") (F_a_TITLE_ordinal : Fld Z Z.heap a_TITLE "java/lang/Enum" "ordinal" "I" (.int 0)) (F_a_ANY_ordinal : Fld Z Z.heap a_ANY "java/lang/Enum" "ordinal" "I" (.int 4)) (F_a_TITLE_m_sSubfieldCodes : Fld Z Z.heap a_TITLE "com/example/tributary/tributary/target/AccessPoint" "m_sSubfieldCodes" "Ljava/lang/String;" (.ref a_TITLE_m_sSubfieldCodes)) (X_a_TITLE_m_sSubfieldCodes : Exa Z Z.heap a_TITLE_m_sSubfieldCodes "java/lang/String") (F_a_TITLE_m_sSubfieldCodes_coder : Fld Z Z.heap a_TITLE_m_sSubfieldCodes "java/lang/String" "coder" "B" (.int 0)) (F_a_TITLE_m_sSubfieldCodes_value : Fld Z Z.heap a_TITLE_m_sSubfieldCodes "java/lang/String" "value" "[B" (.ref a_TITLE_m_sSubfieldCodes_value)) (St_ISBN : Sta Z Z.heap "com/example/tributary/tributary/target/AccessPoint" "ISBN" "Lcom/example/tributary/tributary/target/AccessPoint;" (.ref a_ISBN)) (X_a_ISBN : Exa Z Z.heap a_ISBN "com/example/tributary/tributary/target/AccessPoint") (F_a_ISBN_ordinal : Fld Z Z.heap a_ISBN "java/lang/Enum" "ordinal" "I" (.int 3)) (F_a_ISBN_m_sSubfieldCodes : Fld Z Z.heap a_ISBN "com/example/tributary/tributary/target/AccessPoint" "m_sSubfieldCodes" "Ljava/lang/String;" (.ref a_ISBN_m_sSubfieldCodes)) (X_a_ISBN_m_sSubfieldCodes : Exa Z Z.heap a_ISBN_m_sSubfieldCodes "java/lang/String") (F_a_ISBN_m_sSubfieldCodes_coder : Fld Z Z.heap a_ISBN_m_sSubfieldCodes "java/lang/String" "coder" "B" (.int 0)) (F_a_ISBN_m_sSubfieldCodes_value : Fld Z Z.heap a_ISBN_m_sSubfieldCodes "java/lang/String" "value" "[B" (.ref a_ISBN_m_sSubfieldCodes_value)) (St_AUTHOR : Sta Z Z.heap "com/example/tributary/tributary/target/AccessPoint" "AUTHOR" "Lcom/example/tributary/tributary/target/AccessPoint;" (.ref a_AUTHOR)) (X_a_AUTHOR : Exa Z Z.heap a_AUTHOR "com/example/tributary/tributary/target/AccessPoint") (F_a_AUTHOR_ordinal : Fld Z Z.heap a_AUTHOR "java/lang/Enum" "ordinal" "I" (.int 1)) (F_a_AUTHOR_m_sSubfieldCodes : Fld Z Z.heap a_AUTHOR "com/example/tributary/tributary/target/AccessPoint" "m_sSubfieldCodes" "Ljava/lang/String;" (.ref a_ISBN_m_sSubfieldCodes)) (St_SUBJECT : Sta Z Z.heap "com/example/tributary/tributary/target/AccessPoint" "SUBJECT" "Lcom/example/tributary/tributary/target/AccessPoint;" (.ref a_SUBJECT)) (X_a_SUBJECT : Exa Z Z.heap a_SUBJECT "com/example/tributary/tributary/target/AccessPoint") (F_a_SUBJECT_ordinal : Fld Z Z.heap a_SUBJECT "java/lang/Enum" "ordinal" "I" (.int 2)) (F_a_SUBJECT_m_sSubfieldCodes : Fld Z Z.heap a_SUBJECT "com/example/tributary/tributary/target/AccessPoint" "m_sSubfieldCodes" "Ljava/lang/String;" (.ref a_ISBN_m_sSubfieldCodes)) (F_a_ANY_m_sSubfieldCodes : Fld Z Z.heap a_ANY "com/example/tributary/tributary/target/AccessPoint" "m_sSubfieldCodes" "Ljava/lang/String;" (.ref a_ANY_m_sSubfieldCodes)) (X_a_ANY_m_sSubfieldCodes : Exa Z Z.heap a_ANY_m_sSubfieldCodes "java/lang/String") (F_a_ANY_m_sSubfieldCodes_coder : Fld Z Z.heap a_ANY_m_sSubfieldCodes "java/lang/String" "coder" "B" (.int 0)) (F_a_ANY_m_sSubfieldCodes_value : Fld Z Z.heap a_ANY_m_sSubfieldCodes "java/lang/String" "value" "[B" (.ref a_ANY_m_sSubfieldCodes_value)) (V_a_TITLE_m_sSubfieldCodes_value : Arv Z Z.heap a_TITLE_m_sSubfieldCodes_value k_a_TITLE_m_sSubfieldCodes_value .byte 4 [(.int 97), (.int 98), (.int 110), (.int 112)] (.int 0)) (V_a_ISBN_m_sSubfieldCodes_value : Arv Z Z.heap a_ISBN_m_sSubfieldCodes_value k_a_ISBN_m_sSubfieldCodes_value .byte 1 [(.int 97)] (.int 0)) (V_a_ANY_m_sSubfieldCodes_value : Arv Z Z.heap a_ANY_m_sSubfieldCodes_value k_a_ANY_m_sSubfieldCodes_value .byte 0 [] (.int 0)) (Cs : Sta Z Z.heap "java/lang/String" "COMPACT_STRINGS" "Z" (.int cs)) (Cn : ¬ cs = 0) :
    OMeets l Z x code maxLocals ret room_1 #[(.int np), (.int nc)] h0 [] (fun v h => v = some (.int 1)) := by
  refine OMeets.body (plainFor_of_name pn3) hE #[.val (.int np), .val (.int nc), .unset, .unset, .unset, .unset, .unset] (fun m => by first | rfl | (simp [entryFrame, mkF, argsToLocals, Value.category, maxLocals]; done)) ?_
  intro p e s m below meth co T S
  refine Go.iloadN S at_0 rfl (pc' := 1) rfl ?_
  refine Go.ldc S (wd0 hw) at_1 (pc' := 3) rfl ?_
  refine Go.iand S at_3 (pc' := 4) rfl ?_
  refine Go.iconst S (v := 5) at_4 rfl (pc' := 5) rfl ?_
  refine Go.irem S at_5 (by decide) (pc' := 6) rfl ?_
  refine Go.istoreN S at_6 (Ls' := #[.val (.int np), .val (.int nc), .val (.int ((np &&& (2147483647 : Int32)) % (5 : Int32))), .unset, .unset, .unset, .unset]) rfl (pc' := 7) rfl ?_
  generalize h_k : ((np &&& (2147483647 : Int32)) % (5 : Int32)) = k
  refine Go.iloadN S at_7 rfl (pc' := 8) rfl ?_
  refine Go.sipush S (v := 255) at_8 rfl (pc' := 11) rfl ?_
  refine Go.iand S at_11 (pc' := 12) rfl ?_
  refine Go.i2c S at_12 (pc' := 13) rfl ?_
  refine Go.istoreN S at_13 (Ls' := #[.val (.int np), .val (.int nc), .val (.int k), .val (.int ((nc &&& (255 : Int32)).toUInt32.toUInt16.toUInt32.toInt32)), .unset, .unset, .unset]) rfl (pc' := 14) rfl ?_
  generalize h_ch : ((nc &&& (255 : Int32)).toUInt32.toUInt16.toUInt32.toInt32) = ch
  have hch := own_ch nc
  rw [h_ch] at hch
  refine Go.iloadN S at_14 rfl (pc' := 15) rfl ?_
  refine Go.invokestatic S (y := ⟨"java/lang/String", "valueOf", "(C)Ljava/lang/String;"⟩) (rm_valueOf hw ch cs S.ext hch.2 Cs Cn) (wd1 hw) (wd2 hw) (wd3 hw) (wd4 hw) (by decide) at_15 rfl pd10 (argsL := [(.int ch)]) rfl rfl rfl (by decide) (W := 0) rfl (by decide) (by decide) (by decide) all0 (pc' := 18) rfl ?_
  intro v1 T1 h1 L1 S1 K1 q1
  obtain ⟨so, ts, kb, rfl, A⟩ := q1
  show Go _ _ _ _ T1 (mkF m 18 #[.val (.int np), .val (.int nc), .val (.int k), .val (.int ch), .unset, .unset, .unset] [(.ref so)])
  refine Go.astore S1 at_18 rfl (Ls' := #[.val (.int np), .val (.int nc), .val (.int k), .val (.int ch), .val (.ref so), .unset, .unset]) rfl (pc' := 20) rfl ?_
  refine Go.iloadN S1 at_20 rfl (pc' := 21) rfl ?_
  refine Go.if_ne S1 at_21 (pt := 63) (by decide) (pc' := 24) rfl ?_ ?_
  · intro c21
    refine Go.iloadN S1 at_63 rfl (pc' := 64) rfl ?_
    refine Go.iconst S1 (v := 1) at_64 rfl (pc' := 65) rfl ?_
    refine Go.icmp_ne S1 at_65 (pt := 89) (by decide) (pc' := 68) rfl ?_ ?_
    · intro c65
      refine Go.iloadN S1 at_89 rfl (pc' := 90) rfl ?_
      refine Go.iconst S1 (v := 2) at_90 rfl (pc' := 91) rfl ?_
      refine Go.icmp_ne S1 at_91 (pt := 115) (by decide) (pc' := 94) rfl ?_ ?_
      · intro c91
        refine Go.iloadN S1 at_115 rfl (pc' := 116) rfl ?_
        refine Go.iconst S1 (v := 3) at_116 rfl (pc' := 117) rfl ?_
        refine Go.icmp_ne S1 at_117 (pt := 141) (by decide) (pc' := 120) rfl ?_ ?_
        · intro c117
          refine Go.getstatic S1 (host := "") (Or.inl (wd74 hw)) Via.refl St_ANY at_141 (pc' := 144) rfl ?_
          intro T2 S2
          refine Go.astore S2 at_144 rfl (Ls' := #[.val (.int np), .val (.int nc), .val (.int k), .val (.int ch), .val (.ref so), .val (.ref a_ANY), .unset]) rfl (pc' := 146) rfl ?_
          refine Go.iconst S2 (v := 1) at_146 rfl (pc' := 147) rfl ?_
          refine Go.istore S2 at_147 (Ls' := #[.val (.int np), .val (.int nc), .val (.int k), .val (.int ch), .val (.ref so), .val (.ref a_ANY), .val (.int (1 : Int32))]) rfl (pc' := 149) rfl ?_
          refine Go.aload S2 at_149 rfl rfl (pc' := 151) rfl ?_
          refine Go.aload S2 at_151 rfl rfl (pc' := 153) rfl ?_
          refine Go.invokevirtual S2 (y := ⟨"com/example/tributary/tributary/target/AccessPoint", "coversSubfield", "(Ljava/lang/String;)Z"⟩) (rm_covAny hw a_ANY so S2.ext St_ANY) (wd30 hw) (wd31 hw) (S2.nf (wd33 hw)) (wd33 hw) (wd32 hw) (wd28 hw) (wd34 hw) (by decide) (X_a_ANY.ext S2.ext) at_153 rfl pd11 (argsL := [(.ref so)]) rfl rfl rfl (by decide) (W := 0) rfl (by decide) (by decide) (by decide) all0 (pc' := 156) rfl ?_
          intro v3 T3 h3 L3 S3 K3 q3
          obtain ⟨rfl, rfl⟩ := q3
          show Go _ _ _ _ T3 (mkF m 156 #[.val (.int np), .val (.int nc), .val (.int k), .val (.int ch), .val (.ref so), .val (.ref a_ANY), .val (.int (1 : Int32))] [(.int (1 : Int32))])
          refine Go.iload S3 at_156 rfl (pc' := 158) rfl ?_
          refine Go.icmp_ne S3 at_158 (pt := 165) (by decide) (pc' := 161) rfl ?_ ?_
          · intro c158; exact absurd (by decide) c158
          · intro c158
            refine Go.iconst S3 (v := 1) at_161 rfl (pc' := 162) rfl ?_
            refine Go.goto S3 at_162 (pc' := 166) (by decide) ?_
            exact Go.zreturn S3 rfl (by decide) at_166 (z' := (1 : Int32)) rfl (by decide) (by decide) (rfl)
        · intro c117
          refine Go.getstatic S1 (host := "") (Or.inl (wd75 hw)) Via.refl St_ISBN at_120 (pc' := 123) rfl ?_
          intro T4 S4
          refine Go.astore S4 at_123 rfl (Ls' := #[.val (.int np), .val (.int nc), .val (.int k), .val (.int ch), .val (.ref so), .val (.ref a_ISBN), .unset]) rfl (pc' := 125) rfl ?_
          refine Go.iloadN S4 at_125 rfl (pc' := 126) rfl ?_
          refine Go.bipush S4 (v := 97) at_126 rfl (pc' := 128) rfl ?_
          refine Go.icmp_ne S4 at_128 (pt := 135) (by decide) (pc' := 131) rfl ?_ ?_
          · intro c128
            refine Go.iconst S4 (v := 0) at_135 rfl (pc' := 136) rfl ?_
            refine Go.istore S4 at_136 (Ls' := #[.val (.int np), .val (.int nc), .val (.int k), .val (.int ch), .val (.ref so), .val (.ref a_ISBN), .val (.int (0 : Int32))]) rfl (pc' := 138) rfl ?_
            refine Go.goto S4 at_138 (pc' := 149) (by decide) ?_
            refine Go.aload S4 at_149 rfl rfl (pc' := 151) rfl ?_
            refine Go.aload S4 at_151 rfl rfl (pc' := 153) rfl ?_
            refine Go.invokevirtual S4 (y := ⟨"com/example/tributary/tributary/target/AccessPoint", "coversSubfield", "(Ljava/lang/String;)Z"⟩) (rm_covA hw a_ISBN so a_ANY a_ISBN_m_sSubfieldCodes a_ISBN_m_sSubfieldCodes_value ts k_a_ISBN_m_sSubfieldCodes_value kb (own_b ch) cs S4.ext St_ANY (Fld.ne F_a_ISBN_ordinal F_a_ANY_ordinal (by decide)) (F_a_ISBN_m_sSubfieldCodes.ext S4.ext) ⟨X_a_ISBN_m_sSubfieldCodes.ext S4.ext, F_a_ISBN_m_sSubfieldCodes_coder.ext S4.ext, F_a_ISBN_m_sSubfieldCodes_value.ext S4.ext, V_a_ISBN_m_sSubfieldCodes_value.ext S4.ext, by simp⟩ A Cs Cn) (wd30 hw) (wd31 hw) (S4.nf (wd33 hw)) (wd33 hw) (wd32 hw) (wd28 hw) (wd34 hw) (by decide) (X_a_ISBN.ext S4.ext) at_153 rfl pd11 (argsL := [(.ref so)]) rfl rfl rfl (by decide) (W := 0) rfl (by decide) (by decide) (by decide) all0 (pc' := 156) rfl ?_
            intro v5 T5 h5 L5 S5 K5 q5
            rw [if_neg (fun q => c128 ((own_beq hch.1 hch.2 (by decide) (by decide) : own_b ch = 97 ↔ ch = 97).mp q))] at q5
            obtain ⟨rfl, rfl⟩ := q5
            show Go _ _ _ _ T5 (mkF m 156 #[.val (.int np), .val (.int nc), .val (.int k), .val (.int ch), .val (.ref so), .val (.ref a_ISBN), .val (.int (0 : Int32))] [(.int (0 : Int32))])
            refine Go.iload S5 at_156 rfl (pc' := 158) rfl ?_
            refine Go.icmp_ne S5 at_158 (pt := 165) (by decide) (pc' := 161) rfl ?_ ?_
            · intro c158; exact absurd (by decide) c158
            · intro c158
              refine Go.iconst S5 (v := 1) at_161 rfl (pc' := 162) rfl ?_
              refine Go.goto S5 at_162 (pc' := 166) (by decide) ?_
              exact Go.zreturn S5 rfl (by decide) at_166 (z' := (1 : Int32)) rfl (by decide) (by decide) (rfl)
          · intro c128
            refine Go.iconst S4 (v := 1) at_131 rfl (pc' := 132) rfl ?_
            refine Go.goto S4 at_132 (pc' := 136) (by decide) ?_
            refine Go.istore S4 at_136 (Ls' := #[.val (.int np), .val (.int nc), .val (.int k), .val (.int ch), .val (.ref so), .val (.ref a_ISBN), .val (.int (1 : Int32))]) rfl (pc' := 138) rfl ?_
            refine Go.goto S4 at_138 (pc' := 149) (by decide) ?_
            refine Go.aload S4 at_149 rfl rfl (pc' := 151) rfl ?_
            refine Go.aload S4 at_151 rfl rfl (pc' := 153) rfl ?_
            refine Go.invokevirtual S4 (y := ⟨"com/example/tributary/tributary/target/AccessPoint", "coversSubfield", "(Ljava/lang/String;)Z"⟩) (rm_covA hw a_ISBN so a_ANY a_ISBN_m_sSubfieldCodes a_ISBN_m_sSubfieldCodes_value ts k_a_ISBN_m_sSubfieldCodes_value kb (own_b ch) cs S4.ext St_ANY (Fld.ne F_a_ISBN_ordinal F_a_ANY_ordinal (by decide)) (F_a_ISBN_m_sSubfieldCodes.ext S4.ext) ⟨X_a_ISBN_m_sSubfieldCodes.ext S4.ext, F_a_ISBN_m_sSubfieldCodes_coder.ext S4.ext, F_a_ISBN_m_sSubfieldCodes_value.ext S4.ext, V_a_ISBN_m_sSubfieldCodes_value.ext S4.ext, by simp⟩ A Cs Cn) (wd30 hw) (wd31 hw) (S4.nf (wd33 hw)) (wd33 hw) (wd32 hw) (wd28 hw) (wd34 hw) (by decide) (X_a_ISBN.ext S4.ext) at_153 rfl pd11 (argsL := [(.ref so)]) rfl rfl rfl (by decide) (W := 0) rfl (by decide) (by decide) (by decide) all0 (pc' := 156) rfl ?_
            intro v6 T6 h6 L6 S6 K6 q6
            rw [if_pos ((own_beq hch.1 hch.2 (by decide) (by decide) : own_b ch = 97 ↔ ch = 97).mpr c128)] at q6
            obtain ⟨rfl, rfl⟩ := q6
            show Go _ _ _ _ T6 (mkF m 156 #[.val (.int np), .val (.int nc), .val (.int k), .val (.int ch), .val (.ref so), .val (.ref a_ISBN), .val (.int (1 : Int32))] [(.int (1 : Int32))])
            refine Go.iload S6 at_156 rfl (pc' := 158) rfl ?_
            refine Go.icmp_ne S6 at_158 (pt := 165) (by decide) (pc' := 161) rfl ?_ ?_
            · intro c158; exact absurd (by decide) c158
            · intro c158
              refine Go.iconst S6 (v := 1) at_161 rfl (pc' := 162) rfl ?_
              refine Go.goto S6 at_162 (pc' := 166) (by decide) ?_
              exact Go.zreturn S6 rfl (by decide) at_166 (z' := (1 : Int32)) rfl (by decide) (by decide) (rfl)
      · intro c91
        refine Go.getstatic S1 (host := "") (Or.inl (wd79 hw)) Via.refl St_SUBJECT at_94 (pc' := 97) rfl ?_
        intro T7 S7
        refine Go.astore S7 at_97 rfl (Ls' := #[.val (.int np), .val (.int nc), .val (.int k), .val (.int ch), .val (.ref so), .val (.ref a_SUBJECT), .unset]) rfl (pc' := 99) rfl ?_
        refine Go.iloadN S7 at_99 rfl (pc' := 100) rfl ?_
        refine Go.bipush S7 (v := 97) at_100 rfl (pc' := 102) rfl ?_
        refine Go.icmp_ne S7 at_102 (pt := 109) (by decide) (pc' := 105) rfl ?_ ?_
        · intro c102
          refine Go.iconst S7 (v := 0) at_109 rfl (pc' := 110) rfl ?_
          refine Go.istore S7 at_110 (Ls' := #[.val (.int np), .val (.int nc), .val (.int k), .val (.int ch), .val (.ref so), .val (.ref a_SUBJECT), .val (.int (0 : Int32))]) rfl (pc' := 112) rfl ?_
          refine Go.goto S7 at_112 (pc' := 149) (by decide) ?_
          refine Go.aload S7 at_149 rfl rfl (pc' := 151) rfl ?_
          refine Go.aload S7 at_151 rfl rfl (pc' := 153) rfl ?_
          refine Go.invokevirtual S7 (y := ⟨"com/example/tributary/tributary/target/AccessPoint", "coversSubfield", "(Ljava/lang/String;)Z"⟩) (rm_covA hw a_SUBJECT so a_ANY a_ISBN_m_sSubfieldCodes a_ISBN_m_sSubfieldCodes_value ts k_a_ISBN_m_sSubfieldCodes_value kb (own_b ch) cs S7.ext St_ANY (Fld.ne F_a_SUBJECT_ordinal F_a_ANY_ordinal (by decide)) (F_a_SUBJECT_m_sSubfieldCodes.ext S7.ext) ⟨X_a_ISBN_m_sSubfieldCodes.ext S7.ext, F_a_ISBN_m_sSubfieldCodes_coder.ext S7.ext, F_a_ISBN_m_sSubfieldCodes_value.ext S7.ext, V_a_ISBN_m_sSubfieldCodes_value.ext S7.ext, by simp⟩ A Cs Cn) (wd30 hw) (wd31 hw) (S7.nf (wd33 hw)) (wd33 hw) (wd32 hw) (wd28 hw) (wd34 hw) (by decide) (X_a_SUBJECT.ext S7.ext) at_153 rfl pd11 (argsL := [(.ref so)]) rfl rfl rfl (by decide) (W := 0) rfl (by decide) (by decide) (by decide) all0 (pc' := 156) rfl ?_
          intro v8 T8 h8 L8 S8 K8 q8
          rw [if_neg (fun q => c102 ((own_beq hch.1 hch.2 (by decide) (by decide) : own_b ch = 97 ↔ ch = 97).mp q))] at q8
          obtain ⟨rfl, rfl⟩ := q8
          show Go _ _ _ _ T8 (mkF m 156 #[.val (.int np), .val (.int nc), .val (.int k), .val (.int ch), .val (.ref so), .val (.ref a_SUBJECT), .val (.int (0 : Int32))] [(.int (0 : Int32))])
          refine Go.iload S8 at_156 rfl (pc' := 158) rfl ?_
          refine Go.icmp_ne S8 at_158 (pt := 165) (by decide) (pc' := 161) rfl ?_ ?_
          · intro c158; exact absurd (by decide) c158
          · intro c158
            refine Go.iconst S8 (v := 1) at_161 rfl (pc' := 162) rfl ?_
            refine Go.goto S8 at_162 (pc' := 166) (by decide) ?_
            exact Go.zreturn S8 rfl (by decide) at_166 (z' := (1 : Int32)) rfl (by decide) (by decide) (rfl)
        · intro c102
          refine Go.iconst S7 (v := 1) at_105 rfl (pc' := 106) rfl ?_
          refine Go.goto S7 at_106 (pc' := 110) (by decide) ?_
          refine Go.istore S7 at_110 (Ls' := #[.val (.int np), .val (.int nc), .val (.int k), .val (.int ch), .val (.ref so), .val (.ref a_SUBJECT), .val (.int (1 : Int32))]) rfl (pc' := 112) rfl ?_
          refine Go.goto S7 at_112 (pc' := 149) (by decide) ?_
          refine Go.aload S7 at_149 rfl rfl (pc' := 151) rfl ?_
          refine Go.aload S7 at_151 rfl rfl (pc' := 153) rfl ?_
          refine Go.invokevirtual S7 (y := ⟨"com/example/tributary/tributary/target/AccessPoint", "coversSubfield", "(Ljava/lang/String;)Z"⟩) (rm_covA hw a_SUBJECT so a_ANY a_ISBN_m_sSubfieldCodes a_ISBN_m_sSubfieldCodes_value ts k_a_ISBN_m_sSubfieldCodes_value kb (own_b ch) cs S7.ext St_ANY (Fld.ne F_a_SUBJECT_ordinal F_a_ANY_ordinal (by decide)) (F_a_SUBJECT_m_sSubfieldCodes.ext S7.ext) ⟨X_a_ISBN_m_sSubfieldCodes.ext S7.ext, F_a_ISBN_m_sSubfieldCodes_coder.ext S7.ext, F_a_ISBN_m_sSubfieldCodes_value.ext S7.ext, V_a_ISBN_m_sSubfieldCodes_value.ext S7.ext, by simp⟩ A Cs Cn) (wd30 hw) (wd31 hw) (S7.nf (wd33 hw)) (wd33 hw) (wd32 hw) (wd28 hw) (wd34 hw) (by decide) (X_a_SUBJECT.ext S7.ext) at_153 rfl pd11 (argsL := [(.ref so)]) rfl rfl rfl (by decide) (W := 0) rfl (by decide) (by decide) (by decide) all0 (pc' := 156) rfl ?_
          intro v9 T9 h9 L9 S9 K9 q9
          rw [if_pos ((own_beq hch.1 hch.2 (by decide) (by decide) : own_b ch = 97 ↔ ch = 97).mpr c102)] at q9
          obtain ⟨rfl, rfl⟩ := q9
          show Go _ _ _ _ T9 (mkF m 156 #[.val (.int np), .val (.int nc), .val (.int k), .val (.int ch), .val (.ref so), .val (.ref a_SUBJECT), .val (.int (1 : Int32))] [(.int (1 : Int32))])
          refine Go.iload S9 at_156 rfl (pc' := 158) rfl ?_
          refine Go.icmp_ne S9 at_158 (pt := 165) (by decide) (pc' := 161) rfl ?_ ?_
          · intro c158; exact absurd (by decide) c158
          · intro c158
            refine Go.iconst S9 (v := 1) at_161 rfl (pc' := 162) rfl ?_
            refine Go.goto S9 at_162 (pc' := 166) (by decide) ?_
            exact Go.zreturn S9 rfl (by decide) at_166 (z' := (1 : Int32)) rfl (by decide) (by decide) (rfl)
    · intro c65
      refine Go.getstatic S1 (host := "") (Or.inl (wd77 hw)) Via.refl St_AUTHOR at_68 (pc' := 71) rfl ?_
      intro T10 S10
      refine Go.astore S10 at_71 rfl (Ls' := #[.val (.int np), .val (.int nc), .val (.int k), .val (.int ch), .val (.ref so), .val (.ref a_AUTHOR), .unset]) rfl (pc' := 73) rfl ?_
      refine Go.iloadN S10 at_73 rfl (pc' := 74) rfl ?_
      refine Go.bipush S10 (v := 97) at_74 rfl (pc' := 76) rfl ?_
      refine Go.icmp_ne S10 at_76 (pt := 83) (by decide) (pc' := 79) rfl ?_ ?_
      · intro c76
        refine Go.iconst S10 (v := 0) at_83 rfl (pc' := 84) rfl ?_
        refine Go.istore S10 at_84 (Ls' := #[.val (.int np), .val (.int nc), .val (.int k), .val (.int ch), .val (.ref so), .val (.ref a_AUTHOR), .val (.int (0 : Int32))]) rfl (pc' := 86) rfl ?_
        refine Go.goto S10 at_86 (pc' := 149) (by decide) ?_
        refine Go.aload S10 at_149 rfl rfl (pc' := 151) rfl ?_
        refine Go.aload S10 at_151 rfl rfl (pc' := 153) rfl ?_
        refine Go.invokevirtual S10 (y := ⟨"com/example/tributary/tributary/target/AccessPoint", "coversSubfield", "(Ljava/lang/String;)Z"⟩) (rm_covA hw a_AUTHOR so a_ANY a_ISBN_m_sSubfieldCodes a_ISBN_m_sSubfieldCodes_value ts k_a_ISBN_m_sSubfieldCodes_value kb (own_b ch) cs S10.ext St_ANY (Fld.ne F_a_AUTHOR_ordinal F_a_ANY_ordinal (by decide)) (F_a_AUTHOR_m_sSubfieldCodes.ext S10.ext) ⟨X_a_ISBN_m_sSubfieldCodes.ext S10.ext, F_a_ISBN_m_sSubfieldCodes_coder.ext S10.ext, F_a_ISBN_m_sSubfieldCodes_value.ext S10.ext, V_a_ISBN_m_sSubfieldCodes_value.ext S10.ext, by simp⟩ A Cs Cn) (wd30 hw) (wd31 hw) (S10.nf (wd33 hw)) (wd33 hw) (wd32 hw) (wd28 hw) (wd34 hw) (by decide) (X_a_AUTHOR.ext S10.ext) at_153 rfl pd11 (argsL := [(.ref so)]) rfl rfl rfl (by decide) (W := 0) rfl (by decide) (by decide) (by decide) all0 (pc' := 156) rfl ?_
        intro v11 T11 h11 L11 S11 K11 q11
        rw [if_neg (fun q => c76 ((own_beq hch.1 hch.2 (by decide) (by decide) : own_b ch = 97 ↔ ch = 97).mp q))] at q11
        obtain ⟨rfl, rfl⟩ := q11
        show Go _ _ _ _ T11 (mkF m 156 #[.val (.int np), .val (.int nc), .val (.int k), .val (.int ch), .val (.ref so), .val (.ref a_AUTHOR), .val (.int (0 : Int32))] [(.int (0 : Int32))])
        refine Go.iload S11 at_156 rfl (pc' := 158) rfl ?_
        refine Go.icmp_ne S11 at_158 (pt := 165) (by decide) (pc' := 161) rfl ?_ ?_
        · intro c158; exact absurd (by decide) c158
        · intro c158
          refine Go.iconst S11 (v := 1) at_161 rfl (pc' := 162) rfl ?_
          refine Go.goto S11 at_162 (pc' := 166) (by decide) ?_
          exact Go.zreturn S11 rfl (by decide) at_166 (z' := (1 : Int32)) rfl (by decide) (by decide) (rfl)
      · intro c76
        refine Go.iconst S10 (v := 1) at_79 rfl (pc' := 80) rfl ?_
        refine Go.goto S10 at_80 (pc' := 84) (by decide) ?_
        refine Go.istore S10 at_84 (Ls' := #[.val (.int np), .val (.int nc), .val (.int k), .val (.int ch), .val (.ref so), .val (.ref a_AUTHOR), .val (.int (1 : Int32))]) rfl (pc' := 86) rfl ?_
        refine Go.goto S10 at_86 (pc' := 149) (by decide) ?_
        refine Go.aload S10 at_149 rfl rfl (pc' := 151) rfl ?_
        refine Go.aload S10 at_151 rfl rfl (pc' := 153) rfl ?_
        refine Go.invokevirtual S10 (y := ⟨"com/example/tributary/tributary/target/AccessPoint", "coversSubfield", "(Ljava/lang/String;)Z"⟩) (rm_covA hw a_AUTHOR so a_ANY a_ISBN_m_sSubfieldCodes a_ISBN_m_sSubfieldCodes_value ts k_a_ISBN_m_sSubfieldCodes_value kb (own_b ch) cs S10.ext St_ANY (Fld.ne F_a_AUTHOR_ordinal F_a_ANY_ordinal (by decide)) (F_a_AUTHOR_m_sSubfieldCodes.ext S10.ext) ⟨X_a_ISBN_m_sSubfieldCodes.ext S10.ext, F_a_ISBN_m_sSubfieldCodes_coder.ext S10.ext, F_a_ISBN_m_sSubfieldCodes_value.ext S10.ext, V_a_ISBN_m_sSubfieldCodes_value.ext S10.ext, by simp⟩ A Cs Cn) (wd30 hw) (wd31 hw) (S10.nf (wd33 hw)) (wd33 hw) (wd32 hw) (wd28 hw) (wd34 hw) (by decide) (X_a_AUTHOR.ext S10.ext) at_153 rfl pd11 (argsL := [(.ref so)]) rfl rfl rfl (by decide) (W := 0) rfl (by decide) (by decide) (by decide) all0 (pc' := 156) rfl ?_
        intro v12 T12 h12 L12 S12 K12 q12
        rw [if_pos ((own_beq hch.1 hch.2 (by decide) (by decide) : own_b ch = 97 ↔ ch = 97).mpr c76)] at q12
        obtain ⟨rfl, rfl⟩ := q12
        show Go _ _ _ _ T12 (mkF m 156 #[.val (.int np), .val (.int nc), .val (.int k), .val (.int ch), .val (.ref so), .val (.ref a_AUTHOR), .val (.int (1 : Int32))] [(.int (1 : Int32))])
        refine Go.iload S12 at_156 rfl (pc' := 158) rfl ?_
        refine Go.icmp_ne S12 at_158 (pt := 165) (by decide) (pc' := 161) rfl ?_ ?_
        · intro c158; exact absurd (by decide) c158
        · intro c158
          refine Go.iconst S12 (v := 1) at_161 rfl (pc' := 162) rfl ?_
          refine Go.goto S12 at_162 (pc' := 166) (by decide) ?_
          exact Go.zreturn S12 rfl (by decide) at_166 (z' := (1 : Int32)) rfl (by decide) (by decide) (rfl)
  · intro c21
    refine Go.getstatic S1 (host := "") (Or.inl (wd27 hw)) Via.refl St_TITLE at_24 (pc' := 27) rfl ?_
    intro T13 S13
    refine Go.astore S13 at_27 rfl (Ls' := #[.val (.int np), .val (.int nc), .val (.int k), .val (.int ch), .val (.ref so), .val (.ref a_TITLE), .unset]) rfl (pc' := 29) rfl ?_
    refine Go.iloadN S13 at_29 rfl (pc' := 30) rfl ?_
    refine Go.bipush S13 (v := 97) at_30 rfl (pc' := 32) rfl ?_
    refine Go.icmp_eq S13 at_32 (pt := 53) (by decide) (pc' := 35) rfl ?_ ?_
    · intro c32
      refine Go.iconst S13 (v := 1) at_53 rfl (pc' := 54) rfl ?_
      refine Go.goto S13 at_54 (pc' := 58) (by decide) ?_
      refine Go.istore S13 at_58 (Ls' := #[.val (.int np), .val (.int nc), .val (.int k), .val (.int ch), .val (.ref so), .val (.ref a_TITLE), .val (.int (1 : Int32))]) rfl (pc' := 60) rfl ?_
      refine Go.goto S13 at_60 (pc' := 149) (by decide) ?_
      refine Go.aload S13 at_149 rfl rfl (pc' := 151) rfl ?_
      refine Go.aload S13 at_151 rfl rfl (pc' := 153) rfl ?_
      refine Go.invokevirtual S13 (y := ⟨"com/example/tributary/tributary/target/AccessPoint", "coversSubfield", "(Ljava/lang/String;)Z"⟩) (rm_covT hw a_TITLE so a_ANY a_TITLE_m_sSubfieldCodes a_TITLE_m_sSubfieldCodes_value ts k_a_TITLE_m_sSubfieldCodes_value kb (own_b ch) cs S13.ext St_ANY (Fld.ne F_a_TITLE_ordinal F_a_ANY_ordinal (by decide)) (F_a_TITLE_m_sSubfieldCodes.ext S13.ext) ⟨X_a_TITLE_m_sSubfieldCodes.ext S13.ext, F_a_TITLE_m_sSubfieldCodes_coder.ext S13.ext, F_a_TITLE_m_sSubfieldCodes_value.ext S13.ext, V_a_TITLE_m_sSubfieldCodes_value.ext S13.ext, by simp⟩ A Cs Cn) (wd30 hw) (wd31 hw) (S13.nf (wd33 hw)) (wd33 hw) (wd32 hw) (wd28 hw) (wd34 hw) (by decide) (X_a_TITLE.ext S13.ext) at_153 rfl pd11 (argsL := [(.ref so)]) rfl rfl rfl (by decide) (W := 0) rfl (by decide) (by decide) (by decide) all0 (pc' := 156) rfl ?_
      intro v14 T14 h14 L14 S14 K14 q14
      rw [if_pos (Or.inl ((own_beq hch.1 hch.2 (by decide) (by decide) : own_b ch = 97 ↔ ch = 97).mpr c32))] at q14
      obtain ⟨rfl, rfl⟩ := q14
      show Go _ _ _ _ T14 (mkF m 156 #[.val (.int np), .val (.int nc), .val (.int k), .val (.int ch), .val (.ref so), .val (.ref a_TITLE), .val (.int (1 : Int32))] [(.int (1 : Int32))])
      refine Go.iload S14 at_156 rfl (pc' := 158) rfl ?_
      refine Go.icmp_ne S14 at_158 (pt := 165) (by decide) (pc' := 161) rfl ?_ ?_
      · intro c158; exact absurd (by decide) c158
      · intro c158
        refine Go.iconst S14 (v := 1) at_161 rfl (pc' := 162) rfl ?_
        refine Go.goto S14 at_162 (pc' := 166) (by decide) ?_
        exact Go.zreturn S14 rfl (by decide) at_166 (z' := (1 : Int32)) rfl (by decide) (by decide) (rfl)
    · intro c32
      refine Go.iloadN S13 at_35 rfl (pc' := 36) rfl ?_
      refine Go.bipush S13 (v := 98) at_36 rfl (pc' := 38) rfl ?_
      refine Go.icmp_eq S13 at_38 (pt := 53) (by decide) (pc' := 41) rfl ?_ ?_
      · intro c38
        refine Go.iconst S13 (v := 1) at_53 rfl (pc' := 54) rfl ?_
        refine Go.goto S13 at_54 (pc' := 58) (by decide) ?_
        refine Go.istore S13 at_58 (Ls' := #[.val (.int np), .val (.int nc), .val (.int k), .val (.int ch), .val (.ref so), .val (.ref a_TITLE), .val (.int (1 : Int32))]) rfl (pc' := 60) rfl ?_
        refine Go.goto S13 at_60 (pc' := 149) (by decide) ?_
        refine Go.aload S13 at_149 rfl rfl (pc' := 151) rfl ?_
        refine Go.aload S13 at_151 rfl rfl (pc' := 153) rfl ?_
        refine Go.invokevirtual S13 (y := ⟨"com/example/tributary/tributary/target/AccessPoint", "coversSubfield", "(Ljava/lang/String;)Z"⟩) (rm_covT hw a_TITLE so a_ANY a_TITLE_m_sSubfieldCodes a_TITLE_m_sSubfieldCodes_value ts k_a_TITLE_m_sSubfieldCodes_value kb (own_b ch) cs S13.ext St_ANY (Fld.ne F_a_TITLE_ordinal F_a_ANY_ordinal (by decide)) (F_a_TITLE_m_sSubfieldCodes.ext S13.ext) ⟨X_a_TITLE_m_sSubfieldCodes.ext S13.ext, F_a_TITLE_m_sSubfieldCodes_coder.ext S13.ext, F_a_TITLE_m_sSubfieldCodes_value.ext S13.ext, V_a_TITLE_m_sSubfieldCodes_value.ext S13.ext, by simp⟩ A Cs Cn) (wd30 hw) (wd31 hw) (S13.nf (wd33 hw)) (wd33 hw) (wd32 hw) (wd28 hw) (wd34 hw) (by decide) (X_a_TITLE.ext S13.ext) at_153 rfl pd11 (argsL := [(.ref so)]) rfl rfl rfl (by decide) (W := 0) rfl (by decide) (by decide) (by decide) all0 (pc' := 156) rfl ?_
        intro v15 T15 h15 L15 S15 K15 q15
        rw [if_pos (Or.inr (Or.inl ((own_beq hch.1 hch.2 (by decide) (by decide) : own_b ch = 98 ↔ ch = 98).mpr c38)))] at q15
        obtain ⟨rfl, rfl⟩ := q15
        show Go _ _ _ _ T15 (mkF m 156 #[.val (.int np), .val (.int nc), .val (.int k), .val (.int ch), .val (.ref so), .val (.ref a_TITLE), .val (.int (1 : Int32))] [(.int (1 : Int32))])
        refine Go.iload S15 at_156 rfl (pc' := 158) rfl ?_
        refine Go.icmp_ne S15 at_158 (pt := 165) (by decide) (pc' := 161) rfl ?_ ?_
        · intro c158; exact absurd (by decide) c158
        · intro c158
          refine Go.iconst S15 (v := 1) at_161 rfl (pc' := 162) rfl ?_
          refine Go.goto S15 at_162 (pc' := 166) (by decide) ?_
          exact Go.zreturn S15 rfl (by decide) at_166 (z' := (1 : Int32)) rfl (by decide) (by decide) (rfl)
      · intro c38
        refine Go.iloadN S13 at_41 rfl (pc' := 42) rfl ?_
        refine Go.bipush S13 (v := 110) at_42 rfl (pc' := 44) rfl ?_
        refine Go.icmp_eq S13 at_44 (pt := 53) (by decide) (pc' := 47) rfl ?_ ?_
        · intro c44
          refine Go.iconst S13 (v := 1) at_53 rfl (pc' := 54) rfl ?_
          refine Go.goto S13 at_54 (pc' := 58) (by decide) ?_
          refine Go.istore S13 at_58 (Ls' := #[.val (.int np), .val (.int nc), .val (.int k), .val (.int ch), .val (.ref so), .val (.ref a_TITLE), .val (.int (1 : Int32))]) rfl (pc' := 60) rfl ?_
          refine Go.goto S13 at_60 (pc' := 149) (by decide) ?_
          refine Go.aload S13 at_149 rfl rfl (pc' := 151) rfl ?_
          refine Go.aload S13 at_151 rfl rfl (pc' := 153) rfl ?_
          refine Go.invokevirtual S13 (y := ⟨"com/example/tributary/tributary/target/AccessPoint", "coversSubfield", "(Ljava/lang/String;)Z"⟩) (rm_covT hw a_TITLE so a_ANY a_TITLE_m_sSubfieldCodes a_TITLE_m_sSubfieldCodes_value ts k_a_TITLE_m_sSubfieldCodes_value kb (own_b ch) cs S13.ext St_ANY (Fld.ne F_a_TITLE_ordinal F_a_ANY_ordinal (by decide)) (F_a_TITLE_m_sSubfieldCodes.ext S13.ext) ⟨X_a_TITLE_m_sSubfieldCodes.ext S13.ext, F_a_TITLE_m_sSubfieldCodes_coder.ext S13.ext, F_a_TITLE_m_sSubfieldCodes_value.ext S13.ext, V_a_TITLE_m_sSubfieldCodes_value.ext S13.ext, by simp⟩ A Cs Cn) (wd30 hw) (wd31 hw) (S13.nf (wd33 hw)) (wd33 hw) (wd32 hw) (wd28 hw) (wd34 hw) (by decide) (X_a_TITLE.ext S13.ext) at_153 rfl pd11 (argsL := [(.ref so)]) rfl rfl rfl (by decide) (W := 0) rfl (by decide) (by decide) (by decide) all0 (pc' := 156) rfl ?_
          intro v16 T16 h16 L16 S16 K16 q16
          rw [if_pos (Or.inr (Or.inr (Or.inl ((own_beq hch.1 hch.2 (by decide) (by decide) : own_b ch = 110 ↔ ch = 110).mpr c44))))] at q16
          obtain ⟨rfl, rfl⟩ := q16
          show Go _ _ _ _ T16 (mkF m 156 #[.val (.int np), .val (.int nc), .val (.int k), .val (.int ch), .val (.ref so), .val (.ref a_TITLE), .val (.int (1 : Int32))] [(.int (1 : Int32))])
          refine Go.iload S16 at_156 rfl (pc' := 158) rfl ?_
          refine Go.icmp_ne S16 at_158 (pt := 165) (by decide) (pc' := 161) rfl ?_ ?_
          · intro c158; exact absurd (by decide) c158
          · intro c158
            refine Go.iconst S16 (v := 1) at_161 rfl (pc' := 162) rfl ?_
            refine Go.goto S16 at_162 (pc' := 166) (by decide) ?_
            exact Go.zreturn S16 rfl (by decide) at_166 (z' := (1 : Int32)) rfl (by decide) (by decide) (rfl)
        · intro c44
          refine Go.iloadN S13 at_47 rfl (pc' := 48) rfl ?_
          refine Go.bipush S13 (v := 112) at_48 rfl (pc' := 50) rfl ?_
          refine Go.icmp_ne S13 at_50 (pt := 57) (by decide) (pc' := 53) rfl ?_ ?_
          · intro c50
            refine Go.iconst S13 (v := 0) at_57 rfl (pc' := 58) rfl ?_
            refine Go.istore S13 at_58 (Ls' := #[.val (.int np), .val (.int nc), .val (.int k), .val (.int ch), .val (.ref so), .val (.ref a_TITLE), .val (.int (0 : Int32))]) rfl (pc' := 60) rfl ?_
            refine Go.goto S13 at_60 (pc' := 149) (by decide) ?_
            refine Go.aload S13 at_149 rfl rfl (pc' := 151) rfl ?_
            refine Go.aload S13 at_151 rfl rfl (pc' := 153) rfl ?_
            refine Go.invokevirtual S13 (y := ⟨"com/example/tributary/tributary/target/AccessPoint", "coversSubfield", "(Ljava/lang/String;)Z"⟩) (rm_covT hw a_TITLE so a_ANY a_TITLE_m_sSubfieldCodes a_TITLE_m_sSubfieldCodes_value ts k_a_TITLE_m_sSubfieldCodes_value kb (own_b ch) cs S13.ext St_ANY (Fld.ne F_a_TITLE_ordinal F_a_ANY_ordinal (by decide)) (F_a_TITLE_m_sSubfieldCodes.ext S13.ext) ⟨X_a_TITLE_m_sSubfieldCodes.ext S13.ext, F_a_TITLE_m_sSubfieldCodes_coder.ext S13.ext, F_a_TITLE_m_sSubfieldCodes_value.ext S13.ext, V_a_TITLE_m_sSubfieldCodes_value.ext S13.ext, by simp⟩ A Cs Cn) (wd30 hw) (wd31 hw) (S13.nf (wd33 hw)) (wd33 hw) (wd32 hw) (wd28 hw) (wd34 hw) (by decide) (X_a_TITLE.ext S13.ext) at_153 rfl pd11 (argsL := [(.ref so)]) rfl rfl rfl (by decide) (W := 0) rfl (by decide) (by decide) (by decide) all0 (pc' := 156) rfl ?_
            intro v17 T17 h17 L17 S17 K17 q17
            rw [if_neg (fun q => q.elim (fun q => c32 ((own_beq hch.1 hch.2 (by decide) (by decide) : own_b ch = 97 ↔ ch = 97).mp q)) (fun q => q.elim (fun q => c38 ((own_beq hch.1 hch.2 (by decide) (by decide) : own_b ch = 98 ↔ ch = 98).mp q)) (fun q => q.elim (fun q => c44 ((own_beq hch.1 hch.2 (by decide) (by decide) : own_b ch = 110 ↔ ch = 110).mp q)) (fun q => c50 ((own_beq hch.1 hch.2 (by decide) (by decide) : own_b ch = 112 ↔ ch = 112).mp q)))))] at q17
            obtain ⟨rfl, rfl⟩ := q17
            show Go _ _ _ _ T17 (mkF m 156 #[.val (.int np), .val (.int nc), .val (.int k), .val (.int ch), .val (.ref so), .val (.ref a_TITLE), .val (.int (0 : Int32))] [(.int (0 : Int32))])
            refine Go.iload S17 at_156 rfl (pc' := 158) rfl ?_
            refine Go.icmp_ne S17 at_158 (pt := 165) (by decide) (pc' := 161) rfl ?_ ?_
            · intro c158; exact absurd (by decide) c158
            · intro c158
              refine Go.iconst S17 (v := 1) at_161 rfl (pc' := 162) rfl ?_
              refine Go.goto S17 at_162 (pc' := 166) (by decide) ?_
              exact Go.zreturn S17 rfl (by decide) at_166 (z' := (1 : Int32)) rfl (by decide) (by decide) (rfl)
          · intro c50
            refine Go.iconst S13 (v := 1) at_53 rfl (pc' := 54) rfl ?_
            refine Go.goto S13 at_54 (pc' := 58) (by decide) ?_
            refine Go.istore S13 at_58 (Ls' := #[.val (.int np), .val (.int nc), .val (.int k), .val (.int ch), .val (.ref so), .val (.ref a_TITLE), .val (.int (1 : Int32))]) rfl (pc' := 60) rfl ?_
            refine Go.goto S13 at_60 (pc' := 149) (by decide) ?_
            refine Go.aload S13 at_149 rfl rfl (pc' := 151) rfl ?_
            refine Go.aload S13 at_151 rfl rfl (pc' := 153) rfl ?_
            refine Go.invokevirtual S13 (y := ⟨"com/example/tributary/tributary/target/AccessPoint", "coversSubfield", "(Ljava/lang/String;)Z"⟩) (rm_covT hw a_TITLE so a_ANY a_TITLE_m_sSubfieldCodes a_TITLE_m_sSubfieldCodes_value ts k_a_TITLE_m_sSubfieldCodes_value kb (own_b ch) cs S13.ext St_ANY (Fld.ne F_a_TITLE_ordinal F_a_ANY_ordinal (by decide)) (F_a_TITLE_m_sSubfieldCodes.ext S13.ext) ⟨X_a_TITLE_m_sSubfieldCodes.ext S13.ext, F_a_TITLE_m_sSubfieldCodes_coder.ext S13.ext, F_a_TITLE_m_sSubfieldCodes_value.ext S13.ext, V_a_TITLE_m_sSubfieldCodes_value.ext S13.ext, by simp⟩ A Cs Cn) (wd30 hw) (wd31 hw) (S13.nf (wd33 hw)) (wd33 hw) (wd32 hw) (wd28 hw) (wd34 hw) (by decide) (X_a_TITLE.ext S13.ext) at_153 rfl pd11 (argsL := [(.ref so)]) rfl rfl rfl (by decide) (W := 0) rfl (by decide) (by decide) (by decide) all0 (pc' := 156) rfl ?_
            intro v18 T18 h18 L18 S18 K18 q18
            rw [if_pos (Or.inr (Or.inr (Or.inr ((own_beq hch.1 hch.2 (by decide) (by decide) : own_b ch = 112 ↔ ch = 112).mpr c50))))] at q18
            obtain ⟨rfl, rfl⟩ := q18
            show Go _ _ _ _ T18 (mkF m 156 #[.val (.int np), .val (.int nc), .val (.int k), .val (.int ch), .val (.ref so), .val (.ref a_TITLE), .val (.int (1 : Int32))] [(.int (1 : Int32))])
            refine Go.iload S18 at_156 rfl (pc' := 158) rfl ?_
            refine Go.icmp_ne S18 at_158 (pt := 165) (by decide) (pc' := 161) rfl ?_ ?_
            · intro c158; exact absurd (by decide) c158
            · intro c158
              refine Go.iconst S18 (v := 1) at_161 rfl (pc' := 162) rfl ?_
              refine Go.goto S18 at_162 (pc' := 166) (by decide) ?_
              exact Go.zreturn S18 rfl (by decide) at_166 (z' := (1 : Int32)) rfl (by decide) (by decide) (rfl)
set_option maxRecDepth 65536 in
set_option maxHeartbeats 4000000 in
theorem comes_1 {Post : Tables → Env → Array Value → State → Outcome → State → Prop} (hpost : ∀ tb e args s v u, (limb_1_1.after args s (.returned v) u = true ∧ limb_1_2.after args s (.returned v) u = true ∧ True) → FrameEnd s (.returned v) u (Jvm.fieldLocs frame_1_writes args s ++ Jvm.arrayLocs frame_1_arrays args s ++ Jvm.staticLocs frame_1_statics s) 16 128 → Post tb e args s (.returned v) u) :
    ArmFor flags0 classFile x code maxLocals ret World_1 tables_1 room_1 Calls_1 rest_1 Pre_1 Post := by
  intro l hfl _ _ p e ha hc hk s m args below hf hA hF happ hP
  obtain ⟨hcalls, hrest, hpre⟩ := hP
  obtain ⟨-, -, -, hnamed, -, -, -, hat⟩ := (Spec.applies_iff hf).mp happ
  obtain ⟨hg, hn⟩ := and_e (Cond.before_iff.mp (show (Jvm.Cond.and given_1 narrow_1).before args s = true from hpre))
  obtain ⟨g1a, g1b⟩ := and_e hg
  obtain ⟨g2a, g2b⟩ := and_e g1b
  obtain ⟨w0, w1, rfl⟩ : ∃ w0 w1 : Value, args = #[w0, w1] := by
    have hs : args.size = 2 := by simpa [Cond.value, given_1] using g1a
    obtain ⟨L⟩ := args
    match L, hs with
    | [w0, w1], _ => exact ⟨w0, w1, rfl⟩
  have hw : HW s _ := fun d (hd : d ∈ tables_1) => atoms_spec (ws := Jvm.Cond.code x code maxLocals ret :: tables_1) hat d (List.mem_cons_of_mem _ hd)
  have hfit : Fit s := fun {y c} hc i hi => by
    obtain ⟨ha, rfl⟩ := Array.getElem?_eq_some_iff.mp hc
    have q := List.all_eq_true.mp ((Array.all_eq_true_iff_forall_mem.mp hF) _ (Array.getElem_mem ha)) i (List.mem_range.mpr hi)
    simpa [Array.getElem?_eq_getElem hi] using q
  obtain ⟨i0, ei0⟩ := is_v g2a
  obtain rfl : w0 = (.int i0) := Option.some.inj ei0
  obtain ⟨i1, ei1⟩ := is_v g2b
  obtain rfl : w1 = (.int i1) := Option.some.inj ei1
  obtain ⟨n1a, n1b⟩ := and_e hn
  obtain ⟨n2a, n2b⟩ := and_e n1b
  obtain ⟨n3a, n3b⟩ := and_e n2b
  obtain ⟨n4a, n4b⟩ := and_e n3b
  obtain ⟨n5a, n5b⟩ := and_e n4b
  obtain ⟨n6a, n6b⟩ := and_e n5b
  obtain ⟨n7a, n7b⟩ := and_e n6b
  obtain ⟨n8a, n8b⟩ := and_e n7b
  obtain ⟨n9a, n9b⟩ := and_e n8b
  obtain ⟨n10a, n10b⟩ := and_e n9b
  obtain ⟨n11a, n11b⟩ := and_e n10b
  obtain ⟨n12a, n12b⟩ := and_e n11b
  obtain ⟨n13a, n13b⟩ := and_e n12b
  obtain ⟨n14a, n14b⟩ := and_e n13b
  obtain ⟨n15a, n15b⟩ := and_e n14b
  obtain ⟨n16a, n16b⟩ := and_e n15b
  obtain ⟨n17a, n17b⟩ := and_e n16b
  obtain ⟨n18a, n18b⟩ := and_e n17b
  obtain ⟨n19a, n19b⟩ := and_e n18b
  obtain ⟨n20a, n20b⟩ := and_e n19b
  obtain ⟨n21a, n21b⟩ := and_e n20b
  obtain ⟨n22a, n22b⟩ := and_e n21b
  obtain ⟨n23a, n23b⟩ := and_e n22b
  obtain ⟨n24a, n24b⟩ := and_e n23b
  obtain ⟨n25a, n25b⟩ := and_e n24b
  obtain ⟨n26a, n26b⟩ := and_e n25b
  obtain ⟨n27a, n27b⟩ := and_e n26b
  obtain ⟨n28a, n28b⟩ := and_e n27b
  obtain ⟨a_TITLE, ev_a_TITLE⟩ := exa_v n1a
  have St_TITLE : Sta s s.heap "com/example/tributary/tributary/target/AccessPoint" "TITLE" "Lcom/example/tributary/tributary/target/AccessPoint;" (.ref a_TITLE) := Sta.start ev_a_TITLE (Or.inr ⟨(wd28 hw), (wd29 hw)⟩)
  have X_a_TITLE : Exa s s.heap a_TITLE "com/example/tributary/tributary/target/AccessPoint" := Exa.start ev_a_TITLE n1a
  obtain ⟨a_ANY, ev_a_ANY⟩ := exa_v n2a
  have St_ANY : Sta s s.heap "com/example/tributary/tributary/target/AccessPoint" "ANY" "Lcom/example/tributary/tributary/target/AccessPoint;" (.ref a_ANY) := Sta.start ev_a_ANY (Or.inr ⟨(wd28 hw), (wd36 hw)⟩)
  have X_a_ANY : Exa s s.heap a_ANY "com/example/tributary/tributary/target/AccessPoint" := Exa.start ev_a_ANY n2a
  have F_a_TITLE_ordinal : Fld s s.heap a_TITLE "java/lang/Enum" "ordinal" "I" (.int 0) := Fld.start ((fld_at ev_a_TITLE).symm.trans (own_eqI n3a))
  have F_a_ANY_ordinal : Fld s s.heap a_ANY "java/lang/Enum" "ordinal" "I" (.int 4) := Fld.start ((fld_at ev_a_ANY).symm.trans (own_eqI n4a))
  obtain ⟨a_TITLE_m_sSubfieldCodes, ev_a_TITLE_m_sSubfieldCodes⟩ := exa_v n5a
  have F_a_TITLE_m_sSubfieldCodes : Fld s s.heap a_TITLE "com/example/tributary/tributary/target/AccessPoint" "m_sSubfieldCodes" "Ljava/lang/String;" (.ref a_TITLE_m_sSubfieldCodes) := Fld.start ((fld_at ev_a_TITLE).symm.trans ev_a_TITLE_m_sSubfieldCodes)
  have X_a_TITLE_m_sSubfieldCodes : Exa s s.heap a_TITLE_m_sSubfieldCodes "java/lang/String" := Exa.start ev_a_TITLE_m_sSubfieldCodes n5a
  have F_a_TITLE_m_sSubfieldCodes_coder : Fld s s.heap a_TITLE_m_sSubfieldCodes "java/lang/String" "coder" "B" (.int 0) := Fld.start ((fld_at ev_a_TITLE_m_sSubfieldCodes).symm.trans (own_eqI n6a))
  obtain ⟨a_TITLE_m_sSubfieldCodes_value, ev_a_TITLE_m_sSubfieldCodes_value⟩ := arr_v n7a
  have F_a_TITLE_m_sSubfieldCodes_value : Fld s s.heap a_TITLE_m_sSubfieldCodes "java/lang/String" "value" "[B" (.ref a_TITLE_m_sSubfieldCodes_value) := Fld.start ((fld_at ev_a_TITLE_m_sSubfieldCodes).symm.trans ev_a_TITLE_m_sSubfieldCodes_value)
  obtain ⟨cl_a_TITLE_m_sSubfieldCodes_value, A_a_TITLE_m_sSubfieldCodes_value⟩ := Arr.start ev_a_TITLE_m_sSubfieldCodes_value n7a
  obtain ⟨a_ISBN, ev_a_ISBN⟩ := exa_v n13a
  have St_ISBN : Sta s s.heap "com/example/tributary/tributary/target/AccessPoint" "ISBN" "Lcom/example/tributary/tributary/target/AccessPoint;" (.ref a_ISBN) := Sta.start ev_a_ISBN (Or.inr ⟨(wd28 hw), (wd76 hw)⟩)
  have X_a_ISBN : Exa s s.heap a_ISBN "com/example/tributary/tributary/target/AccessPoint" := Exa.start ev_a_ISBN n13a
  have F_a_ISBN_ordinal : Fld s s.heap a_ISBN "java/lang/Enum" "ordinal" "I" (.int 3) := Fld.start ((fld_at ev_a_ISBN).symm.trans (own_eqI n14a))
  obtain ⟨a_ISBN_m_sSubfieldCodes, ev_a_ISBN_m_sSubfieldCodes⟩ := exa_v n15a
  have F_a_ISBN_m_sSubfieldCodes : Fld s s.heap a_ISBN "com/example/tributary/tributary/target/AccessPoint" "m_sSubfieldCodes" "Ljava/lang/String;" (.ref a_ISBN_m_sSubfieldCodes) := Fld.start ((fld_at ev_a_ISBN).symm.trans ev_a_ISBN_m_sSubfieldCodes)
  have X_a_ISBN_m_sSubfieldCodes : Exa s s.heap a_ISBN_m_sSubfieldCodes "java/lang/String" := Exa.start ev_a_ISBN_m_sSubfieldCodes n15a
  have F_a_ISBN_m_sSubfieldCodes_coder : Fld s s.heap a_ISBN_m_sSubfieldCodes "java/lang/String" "coder" "B" (.int 0) := Fld.start ((fld_at ev_a_ISBN_m_sSubfieldCodes).symm.trans (own_eqI n16a))
  obtain ⟨a_ISBN_m_sSubfieldCodes_value, ev_a_ISBN_m_sSubfieldCodes_value⟩ := arr_v n17a
  have F_a_ISBN_m_sSubfieldCodes_value : Fld s s.heap a_ISBN_m_sSubfieldCodes "java/lang/String" "value" "[B" (.ref a_ISBN_m_sSubfieldCodes_value) := Fld.start ((fld_at ev_a_ISBN_m_sSubfieldCodes).symm.trans ev_a_ISBN_m_sSubfieldCodes_value)
  obtain ⟨cl_a_ISBN_m_sSubfieldCodes_value, A_a_ISBN_m_sSubfieldCodes_value⟩ := Arr.start ev_a_ISBN_m_sSubfieldCodes_value n17a
  obtain ⟨a_AUTHOR, ev_a_AUTHOR⟩ := exa_v n20a
  have St_AUTHOR : Sta s s.heap "com/example/tributary/tributary/target/AccessPoint" "AUTHOR" "Lcom/example/tributary/tributary/target/AccessPoint;" (.ref a_AUTHOR) := Sta.start ev_a_AUTHOR (Or.inr ⟨(wd28 hw), (wd78 hw)⟩)
  have X_a_AUTHOR : Exa s s.heap a_AUTHOR "com/example/tributary/tributary/target/AccessPoint" := Exa.start ev_a_AUTHOR n20a
  have F_a_AUTHOR_ordinal : Fld s s.heap a_AUTHOR "java/lang/Enum" "ordinal" "I" (.int 1) := Fld.start ((fld_at ev_a_AUTHOR).symm.trans (own_eqI n21a))
  have F_a_AUTHOR_m_sSubfieldCodes : Fld s s.heap a_AUTHOR "com/example/tributary/tributary/target/AccessPoint" "m_sSubfieldCodes" "Ljava/lang/String;" (.ref a_ISBN_m_sSubfieldCodes) := Fld.start ((fld_at ev_a_AUTHOR).symm.trans (own_eqR n22a ev_a_ISBN_m_sSubfieldCodes))
  obtain ⟨a_SUBJECT, ev_a_SUBJECT⟩ := exa_v n23a
  have St_SUBJECT : Sta s s.heap "com/example/tributary/tributary/target/AccessPoint" "SUBJECT" "Lcom/example/tributary/tributary/target/AccessPoint;" (.ref a_SUBJECT) := Sta.start ev_a_SUBJECT (Or.inr ⟨(wd28 hw), (wd80 hw)⟩)
  have X_a_SUBJECT : Exa s s.heap a_SUBJECT "com/example/tributary/tributary/target/AccessPoint" := Exa.start ev_a_SUBJECT n23a
  have F_a_SUBJECT_ordinal : Fld s s.heap a_SUBJECT "java/lang/Enum" "ordinal" "I" (.int 2) := Fld.start ((fld_at ev_a_SUBJECT).symm.trans (own_eqI n24a))
  have F_a_SUBJECT_m_sSubfieldCodes : Fld s s.heap a_SUBJECT "com/example/tributary/tributary/target/AccessPoint" "m_sSubfieldCodes" "Ljava/lang/String;" (.ref a_ISBN_m_sSubfieldCodes) := Fld.start ((fld_at ev_a_SUBJECT).symm.trans (own_eqR n25a ev_a_ISBN_m_sSubfieldCodes))
  obtain ⟨a_ANY_m_sSubfieldCodes, ev_a_ANY_m_sSubfieldCodes⟩ := exa_v n26a
  have F_a_ANY_m_sSubfieldCodes : Fld s s.heap a_ANY "com/example/tributary/tributary/target/AccessPoint" "m_sSubfieldCodes" "Ljava/lang/String;" (.ref a_ANY_m_sSubfieldCodes) := Fld.start ((fld_at ev_a_ANY).symm.trans ev_a_ANY_m_sSubfieldCodes)
  have X_a_ANY_m_sSubfieldCodes : Exa s s.heap a_ANY_m_sSubfieldCodes "java/lang/String" := Exa.start ev_a_ANY_m_sSubfieldCodes n26a
  have F_a_ANY_m_sSubfieldCodes_coder : Fld s s.heap a_ANY_m_sSubfieldCodes "java/lang/String" "coder" "B" (.int 0) := Fld.start ((fld_at ev_a_ANY_m_sSubfieldCodes).symm.trans (own_eqI n27a))
  obtain ⟨a_ANY_m_sSubfieldCodes_value, ev_a_ANY_m_sSubfieldCodes_value⟩ := arr_v n28a
  have F_a_ANY_m_sSubfieldCodes_value : Fld s s.heap a_ANY_m_sSubfieldCodes "java/lang/String" "value" "[B" (.ref a_ANY_m_sSubfieldCodes_value) := Fld.start ((fld_at ev_a_ANY_m_sSubfieldCodes).symm.trans ev_a_ANY_m_sSubfieldCodes_value)
  obtain ⟨cl_a_ANY_m_sSubfieldCodes_value, A_a_ANY_m_sSubfieldCodes_value⟩ := Arr.start ev_a_ANY_m_sSubfieldCodes_value n28a
  have el_a_TITLE_m_sSubfieldCodes_value_0 := (elem_in (own_eqI n9a) ev_a_TITLE_m_sSubfieldCodes_value (Term.int_eval (0 : Int32)) A_a_TITLE_m_sSubfieldCodes_value.1).2
  have el_a_TITLE_m_sSubfieldCodes_value_1 := (elem_in (own_eqI n10a) ev_a_TITLE_m_sSubfieldCodes_value (Term.int_eval (1 : Int32)) A_a_TITLE_m_sSubfieldCodes_value.1).2
  have el_a_TITLE_m_sSubfieldCodes_value_2 := (elem_in (own_eqI n11a) ev_a_TITLE_m_sSubfieldCodes_value (Term.int_eval (2 : Int32)) A_a_TITLE_m_sSubfieldCodes_value.1).2
  have el_a_TITLE_m_sSubfieldCodes_value_3 := (elem_in (own_eqI n12a) ev_a_TITLE_m_sSubfieldCodes_value (Term.int_eval (3 : Int32)) A_a_TITLE_m_sSubfieldCodes_value.1).2
  have V_a_TITLE_m_sSubfieldCodes_value : Arv s s.heap a_TITLE_m_sSubfieldCodes_value cl_a_TITLE_m_sSubfieldCodes_value.cls .byte 4 [(.int 97), (.int 98), (.int 110), (.int 112)] (.int 0) := own_arr hfit A_a_TITLE_m_sSubfieldCodes_value ev_a_TITLE_m_sSubfieldCodes_value (own_eqI n8a) (by decide) rfl ⟨el_a_TITLE_m_sSubfieldCodes_value_0, el_a_TITLE_m_sSubfieldCodes_value_1, el_a_TITLE_m_sSubfieldCodes_value_2, el_a_TITLE_m_sSubfieldCodes_value_3, trivial⟩
  have el_a_ISBN_m_sSubfieldCodes_value_0 := (elem_in (own_eqI n19a) ev_a_ISBN_m_sSubfieldCodes_value (Term.int_eval (0 : Int32)) A_a_ISBN_m_sSubfieldCodes_value.1).2
  have V_a_ISBN_m_sSubfieldCodes_value : Arv s s.heap a_ISBN_m_sSubfieldCodes_value cl_a_ISBN_m_sSubfieldCodes_value.cls .byte 1 [(.int 97)] (.int 0) := own_arr hfit A_a_ISBN_m_sSubfieldCodes_value ev_a_ISBN_m_sSubfieldCodes_value (own_eqI n18a) (by decide) rfl ⟨el_a_ISBN_m_sSubfieldCodes_value_0, trivial⟩
  have V_a_ANY_m_sSubfieldCodes_value : Arv s s.heap a_ANY_m_sSubfieldCodes_value cl_a_ANY_m_sSubfieldCodes_value.cls .byte 0 [] (.int 0) := own_arr hfit A_a_ANY_m_sSubfieldCodes_value ev_a_ANY_m_sSubfieldCodes_value (own_eqI n28b) (by decide) rfl trivial
  obtain ⟨hsets, -⟩ := atoms_of _ (rest_1_c_eq ▸ (show rest_1_c.before _ s = true from hrest))
  obtain ⟨cs, evc⟩ := is_v (Cond.before_iff.mp (hsets _ (List.mem_of_getElem? (i := 1) rfl)))
  have Cs : Sta s s.heap "java/lang/String" "COMPACT_STRINGS" "Z" (.int cs) := Sta.start evc (Or.inl (hsets _ (List.mem_of_getElem? (i := 0) rfl)))
  have Cn : ¬ cs = 0 := fun q => by
    have z := not_v (Cond.before_iff.mp (hsets _ (List.mem_of_getElem? (i := 2) rfl)))
    have y := eq_i evc (Term.int_eval (0 : Int32)) (congrArg Value.int q)
    exact absurd (y.symm.trans z) (by decide)
  obtain ⟨n, o, h1, h2, h3, _, L, rfl, ⟨N, -, -, rfl⟩, hq⟩ := rm_code (l := l) hw i0 i1 a_TITLE a_ANY a_TITLE_m_sSubfieldCodes a_TITLE_m_sSubfieldCodes_value a_ISBN a_ISBN_m_sSubfieldCodes a_ISBN_m_sSubfieldCodes_value a_AUTHOR a_SUBJECT a_ANY_m_sSubfieldCodes a_ANY_m_sSubfieldCodes_value cl_a_TITLE_m_sSubfieldCodes_value.cls cl_a_ISBN_m_sSubfieldCodes_value.cls cl_a_ANY_m_sSubfieldCodes_value.cls cs (h0 := s.heap) ⟨Nat.le_refl _, fun _ _ q => q⟩ St_TITLE X_a_TITLE St_ANY X_a_ANY F_a_TITLE_ordinal F_a_ANY_ordinal F_a_TITLE_m_sSubfieldCodes X_a_TITLE_m_sSubfieldCodes F_a_TITLE_m_sSubfieldCodes_coder F_a_TITLE_m_sSubfieldCodes_value St_ISBN X_a_ISBN F_a_ISBN_ordinal F_a_ISBN_m_sSubfieldCodes X_a_ISBN_m_sSubfieldCodes F_a_ISBN_m_sSubfieldCodes_coder F_a_ISBN_m_sSubfieldCodes_value St_AUTHOR X_a_AUTHOR F_a_AUTHOR_ordinal F_a_AUTHOR_m_sSubfieldCodes St_SUBJECT X_a_SUBJECT F_a_SUBJECT_ordinal F_a_SUBJECT_m_sSubfieldCodes F_a_ANY_m_sSubfieldCodes X_a_ANY_m_sSubfieldCodes F_a_ANY_m_sSubfieldCodes_coder F_a_ANY_m_sSubfieldCodes_value V_a_TITLE_m_sSubfieldCodes_value V_a_ISBN_m_sSubfieldCodes_value V_a_ANY_m_sSubfieldCodes_value Cs Cn tables_1 p e ha hc hk s m _ below hf ((Spec.applies_iff_loose hf).mp happ).1 ⟨rfl, State.Warmed39.refl s, rfl⟩ trivial
  refine ⟨n, _, h1, h2, h3, hpost _ _ _ _ _ _ ⟨Cond.after_iff.mpr rfl, Cond.after_iff.mpr (eq_i res_at (Term.int_eval (1)) rfl), trivial⟩ ⟨hq.1, hq.2.1, (hq.2.2.sift fun y hy => Or.inr (N y hy)).mono (by decide) (by decide)⟩⟩
theorem main_1_1 : Claimed_1_1 := comes_1 fun _ _ _ _ _ _ h hF => ⟨h.1, hF⟩
theorem main_1_2 : Claimed_1_2 := comes_1 fun _ _ _ _ _ _ h hF => ⟨h.2.1, hF⟩
end Jvm.Pilot.@@N@@
namespace Jvm.Pilot.@@N@@
open Jvm Jvm.ClassFile Sem Op Lib Jvm.Free Jvm.Stand Jvm.Pilot.@@N@@.Jvm.D
/-! MADE BY PROGRAM (witnessworld.py) out of the Statement's table words and the real class files: 18 classes; the members and pool entries that the words name. The judged class is class 1, her method 1. -/
namespace start1
open Jvm.ClassFile
def u (s : String) : CpInfo := .utf8 (stringToUtf16 s)
/-- a pool by its gaps: so many unusable entries, then the entry; so many at the end -/
def gap : Nat → List CpInfo → List CpInfo
  | 0, r => r
  | n + 1, r => .unusable :: gap n r
def poolList (es : List (Nat × CpInfo)) (last : Nat) : List CpInfo := es.foldr (fun e r => gap e.1 (e.2 :: r)) (gap last [])
def pool (es : List (Nat × CpInfo)) (last : Nat) : Array CpInfo := ⟨poolList es last⟩
def fileOf (pool : Array CpInfo) (this : Nat) (attrs : Array Attribute := #[]) (ms : Array MethodInfo := #[]) (fl : Nat := 33) (sup : Nat := 0) (ifs : Array Nat := #[]) (fds : Array FieldInfo := #[]) : ClassFile where
  minorVersion := 0
  majorVersion := 65
  constantPool := pool
  accessFlags := fl
  thisClass := this
  superClass := sup
  interfaces := ifs
  fields := fds
  methods := ms
  attributes := attrs
def plain (name : String) (sup : Option ClassId) : Class where
  name := name
  kind := .ordinary
  loader := none
  accessFlags := 33
  super := sup
  interfaces := #[]
  cf := none
  fields := #[]
  methods := #[]
  instanceTypes := #[]
  staticTypes := #[]
  resolved := #[]
  callSites := []
  init := .initialized
  statics := none
  mirror := none

def pool0 : Array CpInfo := pool [(5, u "<init>"), (0, u "()V"), (1, .class_ 10), (1, u "java/lang/Object")] 113

def k0c0 : Code := { maxStack := 0, maxLocals := 1, code := object_method_1_code, exceptionTable := #[], attributes := #[] }
def k0m0 : Method := { name := "<init>", desc := "()V", sig := { parameters := [], returnType := none }, accessFlags := 1, code := some k0c0 }
/-- java/lang/Object -/
def k0 : Class := { plain "java/lang/Object" none with
  accessFlags := 33
  interfaces := #[]
  cf := some (fileOf pool0 8 #[] #[{ accessFlags := 1, nameIndex := 5, descriptorIndex := 6, attributes := #[] }] 33 0 #[] #[])
  fields := #[]
  methods := #[k0m0]
  instanceTypes := #[]
  staticTypes := #[]
  resolved := Array.replicate 124 none
  statics := none }

def pool1 : Array CpInfo := pool [(2, .class_ 4), (1, u "java/lang/Object"), (0, u "<init>"), (0, u "()V"), (0, .integer 2147483647), (0, .methodref 9 10), (0, .class_ 11), (0, .nameAndType 12 13), (0, u "java/lang/String"), (0, u "valueOf"), (0, u "(C)Ljava/lang/String;"), (0, .fieldref 15 16), (0, .class_ 17), (0, .nameAndType 18 19), (0, u "com/example/tributary/tributary/target/AccessPoint"), (0, u "TITLE"), (0, u "Lcom/example/tributary/tributary/target/AccessPoint;"), (0, .fieldref 15 21), (0, .nameAndType 22 19), (0, u "AUTHOR"), (0, .fieldref 15 24), (0, .nameAndType 25 19), (0, u "SUBJECT"), (0, .fieldref 15 27), (0, .nameAndType 28 19), (0, u "ISBN"), (0, .fieldref 15 30), (0, .nameAndType 31 19), (0, u "ANY"), (0, .methodref 15 33), (0, .nameAndType 34 35), (0, u "coversSubfield"), (0, u "(Ljava/lang/String;)Z"), (0, .class_ 37), (0, u "com/example/tributary/tributary/target/AccessPointCoversSubfieldPinLaw"), (2, u "law"), (0, u "(II)Z")] 3

def k1m0 : Method := { name := "<init>", desc := "()V", sig := { parameters := [], returnType := none }, accessFlags := 1, code := none }
def k1c1 : Code := { maxStack := 2, maxLocals := 7, code := code, exceptionTable := #[], attributes := #[] }
def k1m1 : Method := { name := "law", desc := "(II)Z", sig := { parameters := [.int, .int], returnType := some .boolean }, accessFlags := 9, code := some k1c1 }
/-- com/example/tributary/tributary/target/AccessPointCoversSubfieldPinLaw -/
def k1 : Class := { plain "com/example/tributary/tributary/target/AccessPointCoversSubfieldPinLaw" (some 0) with
  accessFlags := 49
  interfaces := #[]
  cf := some (fileOf pool1 36 #[] #[{ accessFlags := 1, nameIndex := 5, descriptorIndex := 6, attributes := #[] }, { accessFlags := 9, nameIndex := 40, descriptorIndex := 41, attributes := #[] }] 49 2 #[] #[])
  fields := #[]
  methods := #[k1m0, k1m1]
  instanceTypes := #[]
  staticTypes := #[]
  resolved := Array.replicate 45 none
  statics := none }

def pool2 : Array CpInfo := pool [(1, .class_ 2), (0, u "java/io/Serializable"), (0, .class_ 4), (0, u "java/lang/Object")] 2

/-- java/io/Serializable -/
def k2 : Class := { plain "java/io/Serializable" (some 0) with
  accessFlags := 1537
  interfaces := #[]
  cf := some (fileOf pool2 1 #[] #[] 1537 3 #[] #[])
  fields := #[]
  methods := #[]
  instanceTypes := #[]
  staticTypes := #[]
  resolved := Array.replicate 7 none
  statics := none }

def pool3 : Array CpInfo := pool [(1, .class_ 2), (0, u "java/lang/Comparable"), (0, .class_ 4), (0, u "java/lang/Object")] 7

/-- java/lang/Comparable -/
def k3 : Class := { plain "java/lang/Comparable" (some 0) with
  accessFlags := 1537
  interfaces := #[]
  cf := some (fileOf pool3 1 #[] #[] 1537 3 #[] #[])
  fields := #[]
  methods := #[]
  instanceTypes := #[]
  staticTypes := #[]
  resolved := Array.replicate 12 none
  statics := none }

def pool4 : Array CpInfo := pool [(2, .class_ 4), (1, u "java/lang/CharSequence"), (42, .class_ 48), (0, u "java/lang/CharSequence$1CodePointIterator"), (10, .class_ 60), (0, u "java/lang/CharSequence$1CharIterator"), (5, .class_ 67), (0, u "java/lang/Object"), (10, u "toString"), (0, u "()Ljava/lang/String;")] 51

def k4m0 : Method := { name := "toString", desc := "()Ljava/lang/String;", sig := { parameters := [], returnType := some (.object "java/lang/String") }, accessFlags := 1025, code := none }
/-- java/lang/CharSequence -/
def k4 : Class := { plain "java/lang/CharSequence" (some 0) with
  accessFlags := 1537
  interfaces := #[]
  cf := some (fileOf pool4 2 #[.nestMembers #[47, 59]] #[{ accessFlags := 1025, nameIndex := 78, descriptorIndex := 79, attributes := #[] }] 1537 66 #[] #[])
  fields := #[]
  methods := #[k4m0]
  instanceTypes := #[]
  staticTypes := #[]
  resolved := Array.replicate 131 none
  statics := none }

def pool5 : Array CpInfo := pool [(1, .class_ 2), (0, u "java/lang/constant/Constable"), (0, .class_ 4), (0, u "java/lang/Object")] 6

/-- java/lang/constant/Constable -/
def k5 : Class := { plain "java/lang/constant/Constable" (some 0) with
  accessFlags := 1537
  interfaces := #[]
  cf := some (fileOf pool5 1 #[] #[] 1537 3 #[] #[])
  fields := #[]
  methods := #[]
  instanceTypes := #[]
  staticTypes := #[]
  resolved := Array.replicate 11 none
  statics := none }

def pool6 : Array CpInfo := pool [(1, .class_ 2), (0, u "java/lang/constant/ConstantDesc"), (0, .class_ 4), (0, u "java/lang/Object")] 32

/-- java/lang/constant/ConstantDesc -/
def k6 : Class := { plain "java/lang/constant/ConstantDesc" (some 0) with
  accessFlags := 1537
  interfaces := #[]
  cf := some (fileOf pool6 1 #[] #[] 1537 3 #[] #[])
  fields := #[]
  methods := #[]
  instanceTypes := #[]
  staticTypes := #[]
  resolved := Array.replicate 37 none
  statics := none }

def pool7 : Array CpInfo := pool [(1, .methodref 2 3), (0, .class_ 4), (0, .nameAndType 5 6), (0, u "java/lang/Object"), (0, u "<init>"), (0, u "()V"), (2, .fieldref 10 11), (0, .class_ 12), (0, .nameAndType 13 14), (0, u "java/lang/String"), (0, u "value"), (0, u "[B"), (0, .fieldref 10 16), (0, .nameAndType 17 18), (0, u "coder"), (0, u "B"), (2, u "hash"), (0, u "I"), (2, u "hashIsZero"), (0, u "Z"), (11, .fieldref 10 39), (0, .nameAndType 40 26), (0, u "COMPACT_STRINGS"), (12, u "toBytes"), (53, .class_ 109), (1, u "java/lang/StringLatin1"), (32, u "()Z"), (66, .methodref 10 210), (0, .nameAndType 5 211), (0, u "([BB)V"), (123, .methodref 10 336), (0, .nameAndType 17 337), (0, u "()B"), (31, u "(C)Z"), (92, .nameAndType 463 464), (0, u "toString"), (0, u "()Ljava/lang/String;"), (27, .methodref 10 493), (0, .nameAndType 494 142), (0, u "isLatin1"), (53, u "(Ljava/lang/CharSequence;)Z"), (26, .class_ 576), (0, u "java/lang/CharSequence"), (12, u "([B[B)I"), (9, u "CASE_INSENSITIVE_ORDER"), (0, u "Ljava/util/Comparator;"), (34, u "indexOf"), (11, .methodref 107 648), (0, .nameAndType 635 589), (61, .interfaceMethodref 575 462), (0, .methodref 10 712), (0, .nameAndType 635 713), (0, u "(Ljava/lang/String;)I"), (68, u "valueOf"), (0, u "(C)Ljava/lang/String;"), (231, .methodref 107 1016), (0, .nameAndType 1017 369), (0, u "canEncode"), (0, .methodref 107 1019), (0, .nameAndType 53 1020), (0, u "(C)[B"), (80, u "serialPersistentFields"), (0, u "[Ljava/io/ObjectStreamField;"), (0, .class_ 1104), (0, u "java/lang/String$CaseInsensitiveComparator"), (1, .class_ 1107), (0, u "java/io/Serializable"), (0, .class_ 1109), (0, u "java/lang/Comparable"), (0, .class_ 1111), (0, u "java/lang/constant/Constable"), (0, .class_ 1113), (0, u "java/lang/constant/ConstantDesc"), (2, u "serialVersionUID"), (0, u "J"), (3, u "REPL"), (0, u "C"), (2, u "LATIN1"), (1, u "UTF16"), (163, u "contains")] 159

def k7m0 : Method := { name := "<init>", desc := "()V", sig := { parameters := [], returnType := none }, accessFlags := 1, code := none }
def k7c1 : Code := { maxStack := 2, maxLocals := 3, code := jdk_42_method_84_code, exceptionTable := #[], attributes := #[] }
def k7m1 : Method := { name := "indexOf", desc := "(Ljava/lang/String;)I", sig := { parameters := [(.object "java/lang/String")], returnType := some .int }, accessFlags := 1, code := some k7c1 }
def k7c2 : Code := { maxStack := 2, maxLocals := 2, code := jdk_42_method_97_code, exceptionTable := #[], attributes := #[] }
def k7m2 : Method := { name := "contains", desc := "(Ljava/lang/CharSequence;)Z", sig := { parameters := [(.object "java/lang/CharSequence")], returnType := some .boolean }, accessFlags := 1, code := some k7c2 }
def k7c3 : Code := { maxStack := 1, maxLocals := 1, code := jdk_42_method_126_code, exceptionTable := #[], attributes := #[] }
def k7m3 : Method := { name := "toString", desc := "()Ljava/lang/String;", sig := { parameters := [], returnType := some (.object "java/lang/String") }, accessFlags := 1, code := some k7c3 }
def k7c4 : Code := { maxStack := 4, maxLocals := 1, code := jdk_42_method_139_code, exceptionTable := #[], attributes := #[] }
def k7m4 : Method := { name := "valueOf", desc := "(C)Ljava/lang/String;", sig := { parameters := [.char], returnType := some (.object "java/lang/String") }, accessFlags := 9, code := some k7c4 }
def k7c5 : Code := { maxStack := 2, maxLocals := 3, code := jdk_42_method_151_code, exceptionTable := #[], attributes := #[] }
def k7m5 : Method := { name := "<init>", desc := "([BB)V", sig := { parameters := [(.array .byte), .byte], returnType := none }, accessFlags := 0, code := some k7c5 }
def k7c6 : Code := { maxStack := 1, maxLocals := 1, code := jdk_42_method_152_code, exceptionTable := #[], attributes := #[] }
def k7m6 : Method := { name := "coder", desc := "()B", sig := { parameters := [], returnType := some .byte }, accessFlags := 0, code := some k7c6 }
def k7c7 : Code := { maxStack := 1, maxLocals := 1, code := jdk_42_method_154_code, exceptionTable := #[], attributes := #[] }
def k7m7 : Method := { name := "isLatin1", desc := "()Z", sig := { parameters := [], returnType := some .boolean }, accessFlags := 0, code := some k7c7 }
/-- java/lang/String -/
def k7 : Class := { plain "java/lang/String" (some 0) with
  accessFlags := 49
  interfaces := #[2, 3, 4, 5, 6]
  cf := some (fileOf pool7 10 #[.nestMembers #[1103]] #[{ accessFlags := 1, nameIndex := 5, descriptorIndex := 6, attributes := #[] }, { accessFlags := 1, nameIndex := 635, descriptorIndex := 713, attributes := #[] }, { accessFlags := 1, nameIndex := 1291, descriptorIndex := 548, attributes := #[] }, { accessFlags := 1, nameIndex := 463, descriptorIndex := 464, attributes := #[] }, { accessFlags := 9, nameIndex := 782, descriptorIndex := 783, attributes := #[] }, { accessFlags := 0, nameIndex := 5, descriptorIndex := 211, attributes := #[] }, { accessFlags := 0, nameIndex := 17, descriptorIndex := 337, attributes := #[] }, { accessFlags := 0, nameIndex := 494, descriptorIndex := 142, attributes := #[] }] 49 2 #[1106, 1108, 575, 1110, 1112] #[{ accessFlags := 18, nameIndex := 13, descriptorIndex := 14, attributes := #[] }, { accessFlags := 18, nameIndex := 17, descriptorIndex := 18, attributes := #[] }, { accessFlags := 2, nameIndex := 21, descriptorIndex := 22, attributes := #[] }, { accessFlags := 2, nameIndex := 25, descriptorIndex := 26, attributes := #[] }, { accessFlags := 26, nameIndex := 1116, descriptorIndex := 1117, attributes := #[] }, { accessFlags := 24, nameIndex := 40, descriptorIndex := 26, attributes := #[] }, { accessFlags := 26, nameIndex := 1101, descriptorIndex := 1102, attributes := #[] }, { accessFlags := 26, nameIndex := 1121, descriptorIndex := 1122, attributes := #[] }, { accessFlags := 25, nameIndex := 599, descriptorIndex := 600, attributes := #[] }, { accessFlags := 24, nameIndex := 1125, descriptorIndex := 18, attributes := #[] }, { accessFlags := 24, nameIndex := 1127, descriptorIndex := 18, attributes := #[] }])
  fields := #[{ name := "value", type := (.array .byte), accessFlags := 18, slot := 0, constantValue := 0 }, { name := "coder", type := .byte, accessFlags := 18, slot := 1, constantValue := 0 }, { name := "hash", type := .int, accessFlags := 2, slot := 2, constantValue := 0 }, { name := "hashIsZero", type := .boolean, accessFlags := 2, slot := 3, constantValue := 0 }, { name := "serialVersionUID", type := .long, accessFlags := 26, slot := 0, constantValue := 0 }, { name := "COMPACT_STRINGS", type := .boolean, accessFlags := 24, slot := 1, constantValue := 0 }, { name := "serialPersistentFields", type := (.array (.object "java/io/ObjectStreamField")), accessFlags := 26, slot := 2, constantValue := 0 }, { name := "REPL", type := .char, accessFlags := 26, slot := 3, constantValue := 0 }, { name := "CASE_INSENSITIVE_ORDER", type := (.object "java/util/Comparator"), accessFlags := 25, slot := 4, constantValue := 0 }, { name := "LATIN1", type := .byte, accessFlags := 24, slot := 5, constantValue := 0 }, { name := "UTF16", type := .byte, accessFlags := 24, slot := 6, constantValue := 0 }]
  methods := #[k7m0, k7m1, k7m2, k7m3, k7m4, k7m5, k7m6, k7m7]
  instanceTypes := #[(.array .byte), .byte, .int, .boolean]
  staticTypes := #[.long, .boolean, (.array (.object "java/io/ObjectStreamField")), .char, (.object "java/util/Comparator"), .byte, .byte]
  resolved := Array.replicate 1451 none
  statics := some 0 }

def pool8 : Array CpInfo := pool [(4, .class_ 6), (1, u "java/lang/Object"), (0, u "<init>"), (0, u "()V"), (5, .class_ 16), (1, u "java/lang/StringLatin1"), (73, u "canEncode"), (8, .methodref 14 100), (0, .nameAndType 101 102), (0, u "indexOf"), (0, u "([BI[BII)I"), (2, u "(C)Z"), (15, u "$assertionsDisabled"), (0, u "Z"), (98, .class_ 223), (1, u "java/lang/StringLatin1$LinesSpliterator"), (63, u "([B[B)I"), (92, u "toBytes"), (1, u "(C)[B"), (7, .class_ 391), (0, u "java/lang/StringLatin1$CharsSpliterator")] 3

def k8m0 : Method := { name := "<init>", desc := "()V", sig := { parameters := [], returnType := none }, accessFlags := 0, code := none }
def k8c1 : Code := { maxStack := 2, maxLocals := 1, code := jdk_43_method_3_code, exceptionTable := #[], attributes := #[] }
def k8m1 : Method := { name := "canEncode", desc := "(C)Z", sig := { parameters := [.char], returnType := some .boolean }, accessFlags := 9, code := some k8c1 }
def k8c2 : Code := { maxStack := 5, maxLocals := 2, code := jdk_43_method_24_code, exceptionTable := #[], attributes := #[] }
def k8m2 : Method := { name := "indexOf", desc := "([B[B)I", sig := { parameters := [(.array .byte), (.array .byte)], returnType := some .int }, accessFlags := 9, code := some k8c2 }
def k8c3 : Code := { maxStack := 3, maxLocals := 11, code := jdk_43_method_25_code, exceptionTable := #[], attributes := #[] }
def k8m3 : Method := { name := "indexOf", desc := "([BI[BII)I", sig := { parameters := [(.array .byte), .int, (.array .byte), .int, .int], returnType := some .int }, accessFlags := 9, code := some k8c3 }
def k8c4 : Code := { maxStack := 4, maxLocals := 1, code := jdk_43_method_46_code, exceptionTable := #[], attributes := #[] }
def k8m4 : Method := { name := "toBytes", desc := "(C)[B", sig := { parameters := [.char], returnType := some (.array .byte) }, accessFlags := 9, code := some k8c4 }
/-- java/lang/StringLatin1 -/
def k8 : Class := { plain "java/lang/StringLatin1" (some 0) with
  accessFlags := 48
  interfaces := #[]
  cf := some (fileOf pool8 14 #[.nestMembers #[390, 221]] #[{ accessFlags := 0, nameIndex := 7, descriptorIndex := 8, attributes := #[] }, { accessFlags := 9, nameIndex := 90, descriptorIndex := 105, attributes := #[] }, { accessFlags := 9, nameIndex := 101, descriptorIndex := 287, attributes := #[] }, { accessFlags := 9, nameIndex := 101, descriptorIndex := 102, attributes := #[] }, { accessFlags := 9, nameIndex := 380, descriptorIndex := 382, attributes := #[] }] 48 4 #[] #[{ accessFlags := 4120, nameIndex := 121, descriptorIndex := 122, attributes := #[] }])
  fields := #[{ name := "$assertionsDisabled", type := .boolean, accessFlags := 4120, slot := 0, constantValue := 0 }]
  methods := #[k8m0, k8m1, k8m2, k8m3, k8m4]
  instanceTypes := #[]
  staticTypes := #[.boolean]
  resolved := Array.replicate 395 none
  statics := none }

def pool9 : Array CpInfo := pool [(2, .class_ 4), (1, u "java/lang/Enum"), (0, u "name"), (0, u "Ljava/lang/String;"), (2, u "ordinal"), (0, u "I"), (1, .class_ 14), (1, u "java/lang/Object"), (4, u "hash"), (86, .class_ 108), (1, u "java/lang/Enum$EnumDesc"), (2, .class_ 112), (0, u "java/lang/constant/Constable"), (0, .class_ 114), (0, u "java/lang/Comparable"), (0, .class_ 116), (0, u "java/io/Serializable")] 87

/-- java/lang/Enum -/
def k9 : Class := { plain "java/lang/Enum" (some 0) with
  accessFlags := 1057
  interfaces := #[5, 3, 2]
  cf := some (fileOf pool9 2 #[.nestMembers #[106]] #[] 1057 12 #[111, 113, 115] #[{ accessFlags := 18, nameIndex := 5, descriptorIndex := 6, attributes := #[] }, { accessFlags := 18, nameIndex := 9, descriptorIndex := 10, attributes := #[] }, { accessFlags := 2, nameIndex := 19, descriptorIndex := 10, attributes := #[] }])
  fields := #[{ name := "name", type := (.object "java/lang/String"), accessFlags := 18, slot := 0, constantValue := 0 }, { name := "ordinal", type := .int, accessFlags := 18, slot := 1, constantValue := 0 }, { name := "hash", type := .int, accessFlags := 2, slot := 2, constantValue := 0 }]
  methods := #[]
  instanceTypes := #[(.object "java/lang/String"), .int, .int]
  staticTypes := #[]
  resolved := Array.replicate 204 none
  statics := none }

def pool10 : Array CpInfo := pool [(1, .class_ 2), (0, u "com/example/tributary/tributary/target/AccessPoint"), (2, u "TITLE"), (0, u "Lcom/example/tributary/tributary/target/AccessPoint;"), (2, u "AUTHOR"), (2, u "SUBJECT"), (2, u "ISBN"), (0, .fieldref 1 17), (0, .nameAndType 18 6), (0, u "ANY"), (2, u "$VALUES"), (0, u "[Lcom/example/tributary/tributary/target/AccessPoint;"), (6, .class_ 31), (1, u "java/lang/Enum"), (8, u "m_nUse"), (0, u "I"), (2, u "m_aTags"), (0, u "Ljava/util/Set;"), (0, .fieldref 1 47), (0, .nameAndType 48 49), (0, u "m_sSubfieldCodes"), (0, u "Ljava/lang/String;"), (24, u "contains"), (6, .class_ 83), (1, u "java/lang/String"), (12, .methodref 81 97), (0, .nameAndType 74 98), (0, u "(Ljava/lang/CharSequence;)Z"), (64, u "coversSubfield"), (0, u "(Ljava/lang/String;)Z")] 25

def k10c0 : Code := { maxStack := 2, maxLocals := 2, code := prog_47_method_6_code, exceptionTable := #[], attributes := #[] }
def k10m0 : Method := { name := "coversSubfield", desc := "(Ljava/lang/String;)Z", sig := { parameters := [(.object "java/lang/String")], returnType := some .boolean }, accessFlags := 0, code := some k10c0 }
/-- com/example/tributary/tributary/target/AccessPoint -/
def k10 : Class := { plain "com/example/tributary/tributary/target/AccessPoint" (some 9) with
  accessFlags := 16432
  interfaces := #[]
  cf := some (fileOf pool10 1 #[] #[{ accessFlags := 0, nameIndex := 163, descriptorIndex := 164, attributes := #[] }] 16432 29 #[] #[{ accessFlags := 16409, nameIndex := 5, descriptorIndex := 6, attributes := #[] }, { accessFlags := 16409, nameIndex := 9, descriptorIndex := 6, attributes := #[] }, { accessFlags := 16409, nameIndex := 12, descriptorIndex := 6, attributes := #[] }, { accessFlags := 16409, nameIndex := 15, descriptorIndex := 6, attributes := #[] }, { accessFlags := 16409, nameIndex := 18, descriptorIndex := 6, attributes := #[] }, { accessFlags := 18, nameIndex := 40, descriptorIndex := 41, attributes := #[] }, { accessFlags := 18, nameIndex := 44, descriptorIndex := 45, attributes := #[] }, { accessFlags := 18, nameIndex := 48, descriptorIndex := 49, attributes := #[] }, { accessFlags := 4122, nameIndex := 21, descriptorIndex := 22, attributes := #[] }])
  fields := #[{ name := "TITLE", type := (.object "com/example/tributary/tributary/target/AccessPoint"), accessFlags := 16409, slot := 0, constantValue := 0 }, { name := "AUTHOR", type := (.object "com/example/tributary/tributary/target/AccessPoint"), accessFlags := 16409, slot := 1, constantValue := 0 }, { name := "SUBJECT", type := (.object "com/example/tributary/tributary/target/AccessPoint"), accessFlags := 16409, slot := 2, constantValue := 0 }, { name := "ISBN", type := (.object "com/example/tributary/tributary/target/AccessPoint"), accessFlags := 16409, slot := 3, constantValue := 0 }, { name := "ANY", type := (.object "com/example/tributary/tributary/target/AccessPoint"), accessFlags := 16409, slot := 4, constantValue := 0 }, { name := "m_nUse", type := .int, accessFlags := 18, slot := 3, constantValue := 0 }, { name := "m_aTags", type := (.object "java/util/Set"), accessFlags := 18, slot := 4, constantValue := 0 }, { name := "m_sSubfieldCodes", type := (.object "java/lang/String"), accessFlags := 18, slot := 5, constantValue := 0 }, { name := "$VALUES", type := (.array (.object "com/example/tributary/tributary/target/AccessPoint")), accessFlags := 4122, slot := 5, constantValue := 0 }]
  methods := #[k10m0]
  instanceTypes := #[(.object "java/lang/String"), .int, .int, .int, (.object "java/util/Set"), (.object "java/lang/String")]
  staticTypes := #[(.object "com/example/tributary/tributary/target/AccessPoint"), (.object "com/example/tributary/tributary/target/AccessPoint"), (.object "com/example/tributary/tributary/target/AccessPoint"), (.object "com/example/tributary/tributary/target/AccessPoint"), (.object "com/example/tributary/tributary/target/AccessPoint"), (.array (.object "com/example/tributary/tributary/target/AccessPoint"))]
  resolved := Array.replicate 190 none
  statics := some 1 }

def pool11 : Array CpInfo := pool [(2, .class_ 4), (1, u "java/lang/Object"), (0, u "<init>"), (0, u "()V"), (17, .class_ 26), (1, u "jdk/internal/util/Preconditions"), (28, .class_ 56), (0, u "jdk/internal/util/Preconditions$4"), (57, .class_ 115), (0, u "jdk/internal/util/Preconditions$1"), (7, u "SIOOBE_FORMATTER"), (0, u "Ljava/util/function/BiFunction;"), (0, .class_ 126), (0, u "jdk/internal/util/Preconditions$2"), (3, u "AIOOBE_FORMATTER"), (0, .class_ 132), (0, u "jdk/internal/util/Preconditions$3"), (3, u "IOOBE_FORMATTER")] 57

def k11m0 : Method := { name := "<init>", desc := "()V", sig := { parameters := [], returnType := none }, accessFlags := 1, code := none }
/-- jdk/internal/util/Preconditions -/
def k11 : Class := { plain "jdk/internal/util/Preconditions" (some 0) with
  accessFlags := 33
  interfaces := #[]
  cf := some (fileOf pool11 24 #[.nestMembers #[55, 131, 125, 114]] #[{ accessFlags := 1, nameIndex := 5, descriptorIndex := 6, attributes := #[] }] 33 2 #[] #[{ accessFlags := 25, nameIndex := 123, descriptorIndex := 124, attributes := #[] }, { accessFlags := 25, nameIndex := 130, descriptorIndex := 124, attributes := #[] }, { accessFlags := 25, nameIndex := 136, descriptorIndex := 124, attributes := #[] }])
  fields := #[{ name := "SIOOBE_FORMATTER", type := (.object "java/util/function/BiFunction"), accessFlags := 25, slot := 0, constantValue := 0 }, { name := "AIOOBE_FORMATTER", type := (.object "java/util/function/BiFunction"), accessFlags := 25, slot := 1, constantValue := 0 }, { name := "IOOBE_FORMATTER", type := (.object "java/util/function/BiFunction"), accessFlags := 25, slot := 2, constantValue := 0 }]
  methods := #[k11m0]
  instanceTypes := #[]
  staticTypes := #[(.object "java/util/function/BiFunction"), (.object "java/util/function/BiFunction"), (.object "java/util/function/BiFunction")]
  resolved := Array.replicate 194 none
  statics := some 2 }

def pool12 : Array CpInfo := pool [(9, u "<init>"), (6, .class_ 18), (1, u "java/lang/Object"), (0, u "()V"), (1, .class_ 23), (1, u "jdk/internal/util/ArraysSupport"), (0, u "LOG2_ARRAY_LONG_INDEX_SCALE"), (0, u "I"), (2, u "U"), (0, u "Ljdk/internal/misc/Unsafe;"), (8, u "BIG_ENDIAN"), (0, u "Z"), (8, u "LOG2_BYTE_BIT_SIZE"), (4, u "LOG2_ARRAY_INT_INDEX_SCALE"), (54, u "JLA"), (0, u "Ljdk/internal/access/JavaLangAccess;"), (11, u "LOG2_ARRAY_BOOLEAN_INDEX_SCALE"), (9, u "LOG2_ARRAY_BYTE_INDEX_SCALE"), (5, u "LOG2_ARRAY_CHAR_INDEX_SCALE"), (5, u "LOG2_ARRAY_SHORT_INDEX_SCALE"), (18, u "LOG2_ARRAY_FLOAT_INDEX_SCALE"), (24, u "LOG2_ARRAY_DOUBLE_INDEX_SCALE"), (89, u "T_BOOLEAN"), (2, u "T_CHAR"), (1, u "T_FLOAT"), (1, u "T_DOUBLE"), (1, u "T_BYTE"), (1, u "T_SHORT"), (1, u "T_INT"), (1, u "T_LONG"), (1, u "SOFT_MAX_ARRAY_LENGTH")] 83

def k12m0 : Method := { name := "<init>", desc := "()V", sig := { parameters := [], returnType := none }, accessFlags := 2, code := none }
/-- jdk/internal/util/ArraysSupport -/
def k12 : Class := { plain "jdk/internal/util/ArraysSupport" (some 0) with
  accessFlags := 33
  interfaces := #[]
  cf := some (fileOf pool12 21 #[] #[{ accessFlags := 2, nameIndex := 9, descriptorIndex := 19, attributes := #[] }] 33 16 #[] #[{ accessFlags := 24, nameIndex := 28, descriptorIndex := 29, attributes := #[] }, { accessFlags := 26, nameIndex := 38, descriptorIndex := 39, attributes := #[] }, { accessFlags := 25, nameIndex := 121, descriptorIndex := 25, attributes := #[] }, { accessFlags := 25, nameIndex := 131, descriptorIndex := 25, attributes := #[] }, { accessFlags := 25, nameIndex := 137, descriptorIndex := 25, attributes := #[] }, { accessFlags := 25, nameIndex := 143, descriptorIndex := 25, attributes := #[] }, { accessFlags := 25, nameIndex := 53, descriptorIndex := 25, attributes := #[] }, { accessFlags := 25, nameIndex := 24, descriptorIndex := 25, attributes := #[] }, { accessFlags := 25, nameIndex := 162, descriptorIndex := 25, attributes := #[] }, { accessFlags := 25, nameIndex := 187, descriptorIndex := 25, attributes := #[] }, { accessFlags := 26, nameIndex := 48, descriptorIndex := 25, attributes := #[] }, { accessFlags := 25, nameIndex := 277, descriptorIndex := 25, attributes := #[] }, { accessFlags := 25, nameIndex := 280, descriptorIndex := 25, attributes := #[] }, { accessFlags := 25, nameIndex := 282, descriptorIndex := 25, attributes := #[] }, { accessFlags := 25, nameIndex := 284, descriptorIndex := 25, attributes := #[] }, { accessFlags := 25, nameIndex := 286, descriptorIndex := 25, attributes := #[] }, { accessFlags := 25, nameIndex := 288, descriptorIndex := 25, attributes := #[] }, { accessFlags := 25, nameIndex := 290, descriptorIndex := 25, attributes := #[] }, { accessFlags := 25, nameIndex := 292, descriptorIndex := 25, attributes := #[] }, { accessFlags := 26, nameIndex := 108, descriptorIndex := 109, attributes := #[] }, { accessFlags := 25, nameIndex := 294, descriptorIndex := 25, attributes := #[] }])
  fields := #[{ name := "U", type := (.object "jdk/internal/misc/Unsafe"), accessFlags := 24, slot := 0, constantValue := 0 }, { name := "BIG_ENDIAN", type := .boolean, accessFlags := 26, slot := 1, constantValue := 0 }, { name := "LOG2_ARRAY_BOOLEAN_INDEX_SCALE", type := .int, accessFlags := 25, slot := 2, constantValue := 0 }, { name := "LOG2_ARRAY_BYTE_INDEX_SCALE", type := .int, accessFlags := 25, slot := 3, constantValue := 0 }, { name := "LOG2_ARRAY_CHAR_INDEX_SCALE", type := .int, accessFlags := 25, slot := 4, constantValue := 0 }, { name := "LOG2_ARRAY_SHORT_INDEX_SCALE", type := .int, accessFlags := 25, slot := 5, constantValue := 0 }, { name := "LOG2_ARRAY_INT_INDEX_SCALE", type := .int, accessFlags := 25, slot := 6, constantValue := 0 }, { name := "LOG2_ARRAY_LONG_INDEX_SCALE", type := .int, accessFlags := 25, slot := 7, constantValue := 0 }, { name := "LOG2_ARRAY_FLOAT_INDEX_SCALE", type := .int, accessFlags := 25, slot := 8, constantValue := 0 }, { name := "LOG2_ARRAY_DOUBLE_INDEX_SCALE", type := .int, accessFlags := 25, slot := 9, constantValue := 0 }, { name := "LOG2_BYTE_BIT_SIZE", type := .int, accessFlags := 26, slot := 10, constantValue := 0 }, { name := "T_BOOLEAN", type := .int, accessFlags := 25, slot := 11, constantValue := 0 }, { name := "T_CHAR", type := .int, accessFlags := 25, slot := 12, constantValue := 0 }, { name := "T_FLOAT", type := .int, accessFlags := 25, slot := 13, constantValue := 0 }, { name := "T_DOUBLE", type := .int, accessFlags := 25, slot := 14, constantValue := 0 }, { name := "T_BYTE", type := .int, accessFlags := 25, slot := 15, constantValue := 0 }, { name := "T_SHORT", type := .int, accessFlags := 25, slot := 16, constantValue := 0 }, { name := "T_INT", type := .int, accessFlags := 25, slot := 17, constantValue := 0 }, { name := "T_LONG", type := .int, accessFlags := 25, slot := 18, constantValue := 0 }, { name := "JLA", type := (.object "jdk/internal/access/JavaLangAccess"), accessFlags := 26, slot := 19, constantValue := 0 }, { name := "SOFT_MAX_ARRAY_LENGTH", type := .int, accessFlags := 25, slot := 20, constantValue := 0 }]
  methods := #[k12m0]
  instanceTypes := #[]
  staticTypes := #[(.object "jdk/internal/misc/Unsafe"), .boolean, .int, .int, .int, .int, .int, .int, .int, .int, .int, .int, .int, .int, .int, .int, .int, .int, .int, (.object "jdk/internal/access/JavaLangAccess"), .int]
  resolved := Array.replicate 378 none
  statics := none }

def pool13 : Array CpInfo := pool [(1, u "java/lang/Cloneable"), (0, .class_ 1), (0, u "java/lang/Object"), (0, .class_ 3)] 3

/-- java/lang/Cloneable -/
def k13 : Class := { plain "java/lang/Cloneable" (some 0) with
  accessFlags := 1537
  interfaces := #[]
  cf := some (fileOf pool13 2 #[] #[] 1537 4 #[] #[])
  fields := #[]
  methods := #[]
  instanceTypes := #[]
  staticTypes := #[]
  resolved := Array.replicate 8 none
  statics := none }

/-- the primitive byte -/
def k14 : Class := { plain "byte" none with kind := .primitive 'B', accessFlags := 0x411 }
/-- [B -/
def k15 : Class := { plain "[B" (some 0) with kind := .array 14 .byte, interfaces := #[13, 2], accessFlags := 1041 }

/-- the primitive int -/
def k16 : Class := { plain "int" none with kind := .primitive 'I', accessFlags := 0x411 }
/-- [I -/
def k17 : Class := { plain "[I" (some 0) with kind := .array 16 .int, interfaces := #[13, 2], accessFlags := 1041 }

def heap : Heap := #[{ cls := 7, slots := #[.long 0, .int 1, .null, .int 0, .null, .int 0, .int 0], vm := .statics 7 },
  { cls := 10, slots := #[.ref 3, .ref 4, .ref 5, .ref 6, .ref 7, .null], vm := .statics 10 },
  { cls := 11, slots := #[.null, .null, .null], vm := .statics 11 },
  { cls := 10, slots := #[.null, .int 0, .int 0, .int 0, .null, .ref 8], vm := .none },
  { cls := 10, slots := #[.null, .int 1, .int 0, .int 0, .null, .ref 10], vm := .none },
  { cls := 10, slots := #[.null, .int 2, .int 0, .int 0, .null, .ref 10], vm := .none },
  { cls := 10, slots := #[.null, .int 3, .int 0, .int 0, .null, .ref 10], vm := .none },
  { cls := 10, slots := #[.null, .int 4, .int 0, .int 0, .null, .ref 12], vm := .none },
  { cls := 7, slots := #[.ref 9, .int 0, .int 0, .int 0], vm := .none },
  { cls := 15, slots := #[.int 97, .int 98, .int 110, .int 112], vm := .none },
  { cls := 7, slots := #[.ref 11, .int 0, .int 0, .int 0], vm := .none },
  { cls := 15, slots := #[.int 97], vm := .none },
  { cls := 7, slots := #[.ref 13, .int 0, .int 0, .int 0], vm := .none },
  { cls := 15, slots := #[], vm := .none }]
def classes : Array Class := #[k0, k1, k2, k3, k4, k5, k6, k7, k8, k9, k10, k11, k12, k13, k14, k15, k16, k17]
def interned : List (Array UInt16 × Addr) := []
def slotsUsed : Nat := 63
def theMethod : MethodId := ⟨1, 1⟩
def args0 : Array Value := #[.int 5, .int 7]
def aboutOver (below : List Frame) : State where
  vm := { classes := classes, interned := interned.toArray }
  heap := heap
  slotsUsed := slotsUsed
  threads := #[{ frames := .invoking theMethod args0 :: below }]
def below0 : List Frame := [.native { method := ⟨0, 0⟩, args := #[] }]
def about1 : State := aboutOver below0
def p0 : Program := .bare "" "" ""
def e0 : Env := launch0.env 0 0 0
theorem w_frames : about1.frames = Frame.invoking theMethod args0 :: below0 := rfl
set_option maxRecDepth 65536 in
theorem w_args : argsFit about1.vm theMethod args0 = true := by decide +kernel
set_option maxRecDepth 65536 in
theorem w_heap : heapFits about1 = true := by decide +kernel
set_option maxRecDepth 65536 in
theorem w_runnable : about1.curStatus? = some .runnable := by decide +kernel
set_option maxRecDepth 65536 in
theorem w_alone : about1.alone = true := by decide +kernel
set_option maxRecDepth 65536 in
theorem w_named : about1.methodNamed? x = some theMethod := by decide +kernel
set_option maxRecDepth 65536 in
theorem w_hears : about1.hears theMethod below0 = true := by decide +kernel
set_option maxRecDepth 65536 in
theorem w_ripe : about1.ripe theMethod args0 below0 = true := by decide +kernel
theorem w_running : about1.status = .running := rfl
set_option maxRecDepth 65536 in
theorem w_room : about1.hasRoom e0.platform room_1 = true :=
  launch0.hasRoom_least _ room_1 (by decide +kernel) (by decide +kernel) (by decide +kernel) (by decide +kernel) (by decide +kernel) (by decide +kernel)
theorem allAtoms_all (ts : List Jvm.Cond) (a : Array Jvm.Value) (st : Jvm.State) : (allAtoms ts).before a st = ts.all (fun c => c.before a st) := by
  induction ts with
  | nil => rfl
  | cons c t ih =>
    show (Jvm.Cond.and c (allAtoms t)).before a st = _
    rw [Jvm.Cond.before_and, ih, List.all_cons]
def words1 : List Jvm.Cond := Jvm.Cond.code x code maxLocals ret :: tables_1
/-- a 'code' word, met by the world's own term for the bytes: nothing is compared byte by byte -/
theorem code_word {y : MethodName} {bytes : ByteArray} {mx : Nat} {rt : Option FieldType} {a : Array Value} {s : State} {m : MethodId} {meth : Method} {c : Code} (h1 : s.methodNamed? y = some m) (h2 : s.vm.method? m = some meth) (h3 : meth.code = some c) (h4 : c.code = bytes)
    (h5 : (c.maxLocals == mx && c.exceptionTable.isEmpty && decide (c.maxStack ≤ mostOperands) && decide (meth.sig.returnType = rt) && !meth.locks && decide (parseMethodDescriptor y.desc = some meth.sig)) = true) : (Jvm.Cond.code y bytes mx rt).before a s = true := by
  simp only [Bool.and_eq_true, beq_iff_eq, Bool.not_eq_true', decide_eq_true_eq] at h5
  obtain ⟨⟨⟨⟨⟨g1, g2⟩, g3⟩, g4⟩, g5⟩, g6⟩ := h5
  simp [Cond.before, Cond.holds, Cond.value, h1, h2, h3, h4, g1, g2, g3, g4, g5, g6]
def isCode : Jvm.Cond → Bool
  | .code _ _ _ _ => true
  | _ => false
theorem all_split {L : List Jvm.Cond} {P : Jvm.Cond → Bool} (h1 : L.all (fun c => isCode c || P c) = true) (h2 : ∀ c ∈ L.filter isCode, P c = true) : L.all P = true := by
  refine List.all_eq_true.mpr fun c hc => ?_
  have h := List.all_eq_true.mp h1 c hc
  rcases Bool.eq_false_or_eq_true (isCode c) with hi | hi
  · exact h2 c (List.mem_filter.mpr ⟨hc, hi⟩)
  · simpa [hi] using h
set_option maxRecDepth 65536 in
theorem w_c0 : (Jvm.Cond.code x code maxLocals ret).before args0 about1 = true := code_word (m := ⟨1, 1⟩) (meth := k1m1) (c := k1c1) (by decide +kernel) rfl rfl rfl (by decide +kernel)
set_option maxRecDepth 65536 in
theorem w_c1 : (Jvm.Cond.code ({ cls := "java/lang/String", name := "valueOf", desc := "(C)Ljava/lang/String;" } : Jvm.MethodName) jdk_42_method_139_code (1 : Nat) (Option.some (Jvm.ClassFile.FieldType.object "java/lang/String"))).before args0 about1 = true := code_word (m := ⟨7, 4⟩) (meth := k7m4) (c := k7c4) (by decide +kernel) rfl rfl rfl (by decide +kernel)
set_option maxRecDepth 65536 in
theorem w_c2 : (Jvm.Cond.code ({ cls := "java/lang/StringLatin1", name := "canEncode", desc := "(C)Z" } : Jvm.MethodName) jdk_43_method_3_code (1 : Nat) (Option.some Jvm.ClassFile.FieldType.boolean)).before args0 about1 = true := code_word (m := ⟨8, 1⟩) (meth := k8m1) (c := k8c1) (by decide +kernel) rfl rfl rfl (by decide +kernel)
set_option maxRecDepth 65536 in
theorem w_c3 : (Jvm.Cond.code ({ cls := "java/lang/StringLatin1", name := "toBytes", desc := "(C)[B" } : Jvm.MethodName) jdk_43_method_46_code (1 : Nat) (Option.some (Jvm.ClassFile.FieldType.array Jvm.ClassFile.FieldType.byte))).before args0 about1 = true := code_word (m := ⟨8, 4⟩) (meth := k8m4) (c := k8c4) (by decide +kernel) rfl rfl rfl (by decide +kernel)
set_option maxRecDepth 65536 in
theorem w_c4 : (Jvm.Cond.code ({ cls := "java/lang/String", name := "<init>", desc := "([BB)V" } : Jvm.MethodName) jdk_42_method_151_code (3 : Nat) (Option.none : Option Jvm.ClassFile.FieldType)).before args0 about1 = true := code_word (m := ⟨7, 5⟩) (meth := k7m5) (c := k7c5) (by decide +kernel) rfl rfl rfl (by decide +kernel)
set_option maxRecDepth 65536 in
theorem w_c5 : (Jvm.Cond.code ({ cls := "java/lang/Object", name := "<init>", desc := "()V" } : Jvm.MethodName) object_method_1_code (1 : Nat) (Option.none : Option Jvm.ClassFile.FieldType)).before args0 about1 = true := code_word (m := ⟨0, 0⟩) (meth := k0m0) (c := k0c0) (by decide +kernel) rfl rfl rfl (by decide +kernel)
set_option maxRecDepth 65536 in
theorem w_c6 : (Jvm.Cond.code ({ cls := "com/example/tributary/tributary/target/AccessPoint", name := "coversSubfield", desc := "(Ljava/lang/String;)Z" } : Jvm.MethodName) prog_47_method_6_code (2 : Nat) (Option.some Jvm.ClassFile.FieldType.boolean)).before args0 about1 = true := code_word (m := ⟨10, 0⟩) (meth := k10m0) (c := k10c0) (by decide +kernel) rfl rfl rfl (by decide +kernel)
set_option maxRecDepth 65536 in
theorem w_c7 : (Jvm.Cond.code ({ cls := "java/lang/String", name := "contains", desc := "(Ljava/lang/CharSequence;)Z" } : Jvm.MethodName) jdk_42_method_97_code (2 : Nat) (Option.some Jvm.ClassFile.FieldType.boolean)).before args0 about1 = true := code_word (m := ⟨7, 2⟩) (meth := k7m2) (c := k7c2) (by decide +kernel) rfl rfl rfl (by decide +kernel)
set_option maxRecDepth 65536 in
theorem w_c8 : (Jvm.Cond.code ({ cls := "java/lang/String", name := "toString", desc := "()Ljava/lang/String;" } : Jvm.MethodName) jdk_42_method_126_code (1 : Nat) (Option.some (Jvm.ClassFile.FieldType.object "java/lang/String"))).before args0 about1 = true := code_word (m := ⟨7, 3⟩) (meth := k7m3) (c := k7c3) (by decide +kernel) rfl rfl rfl (by decide +kernel)
set_option maxRecDepth 65536 in
theorem w_c9 : (Jvm.Cond.code ({ cls := "java/lang/String", name := "indexOf", desc := "(Ljava/lang/String;)I" } : Jvm.MethodName) jdk_42_method_84_code (3 : Nat) (Option.some Jvm.ClassFile.FieldType.int)).before args0 about1 = true := code_word (m := ⟨7, 1⟩) (meth := k7m1) (c := k7c1) (by decide +kernel) rfl rfl rfl (by decide +kernel)
set_option maxRecDepth 65536 in
theorem w_c10 : (Jvm.Cond.code ({ cls := "java/lang/String", name := "coder", desc := "()B" } : Jvm.MethodName) jdk_42_method_152_code (1 : Nat) (Option.some Jvm.ClassFile.FieldType.byte)).before args0 about1 = true := code_word (m := ⟨7, 6⟩) (meth := k7m6) (c := k7c6) (by decide +kernel) rfl rfl rfl (by decide +kernel)
set_option maxRecDepth 65536 in
theorem w_c11 : (Jvm.Cond.code ({ cls := "java/lang/String", name := "isLatin1", desc := "()Z" } : Jvm.MethodName) jdk_42_method_154_code (1 : Nat) (Option.some Jvm.ClassFile.FieldType.boolean)).before args0 about1 = true := code_word (m := ⟨7, 7⟩) (meth := k7m7) (c := k7c7) (by decide +kernel) rfl rfl rfl (by decide +kernel)
set_option maxRecDepth 65536 in
theorem w_c12 : (Jvm.Cond.code ({ cls := "java/lang/StringLatin1", name := "indexOf", desc := "([B[B)I" } : Jvm.MethodName) jdk_43_method_24_code (2 : Nat) (Option.some Jvm.ClassFile.FieldType.int)).before args0 about1 = true := code_word (m := ⟨8, 2⟩) (meth := k8m2) (c := k8c2) (by decide +kernel) rfl rfl rfl (by decide +kernel)
set_option maxRecDepth 65536 in
theorem w_c13 : (Jvm.Cond.code ({ cls := "java/lang/StringLatin1", name := "indexOf", desc := "([BI[BII)I" } : Jvm.MethodName) jdk_43_method_25_code (11 : Nat) (Option.some Jvm.ClassFile.FieldType.int)).before args0 about1 = true := code_word (m := ⟨8, 3⟩) (meth := k8m3) (c := k8c3) (by decide +kernel) rfl rfl rfl (by decide +kernel)
def codes1 : List Jvm.Cond := [Jvm.Cond.code x code maxLocals ret, Jvm.Cond.code ({ cls := "java/lang/String", name := "valueOf", desc := "(C)Ljava/lang/String;" } : Jvm.MethodName) jdk_42_method_139_code (1 : Nat) (Option.some (Jvm.ClassFile.FieldType.object "java/lang/String")), Jvm.Cond.code ({ cls := "java/lang/StringLatin1", name := "canEncode", desc := "(C)Z" } : Jvm.MethodName) jdk_43_method_3_code (1 : Nat) (Option.some Jvm.ClassFile.FieldType.boolean), Jvm.Cond.code ({ cls := "java/lang/StringLatin1", name := "toBytes", desc := "(C)[B" } : Jvm.MethodName) jdk_43_method_46_code (1 : Nat) (Option.some (Jvm.ClassFile.FieldType.array Jvm.ClassFile.FieldType.byte)), Jvm.Cond.code ({ cls := "java/lang/String", name := "<init>", desc := "([BB)V" } : Jvm.MethodName) jdk_42_method_151_code (3 : Nat) (Option.none : Option Jvm.ClassFile.FieldType), Jvm.Cond.code ({ cls := "java/lang/Object", name := "<init>", desc := "()V" } : Jvm.MethodName) object_method_1_code (1 : Nat) (Option.none : Option Jvm.ClassFile.FieldType), Jvm.Cond.code ({ cls := "com/example/tributary/tributary/target/AccessPoint", name := "coversSubfield", desc := "(Ljava/lang/String;)Z" } : Jvm.MethodName) prog_47_method_6_code (2 : Nat) (Option.some Jvm.ClassFile.FieldType.boolean), Jvm.Cond.code ({ cls := "java/lang/String", name := "contains", desc := "(Ljava/lang/CharSequence;)Z" } : Jvm.MethodName) jdk_42_method_97_code (2 : Nat) (Option.some Jvm.ClassFile.FieldType.boolean), Jvm.Cond.code ({ cls := "java/lang/String", name := "toString", desc := "()Ljava/lang/String;" } : Jvm.MethodName) jdk_42_method_126_code (1 : Nat) (Option.some (Jvm.ClassFile.FieldType.object "java/lang/String")), Jvm.Cond.code ({ cls := "java/lang/String", name := "indexOf", desc := "(Ljava/lang/String;)I" } : Jvm.MethodName) jdk_42_method_84_code (3 : Nat) (Option.some Jvm.ClassFile.FieldType.int), Jvm.Cond.code ({ cls := "java/lang/String", name := "coder", desc := "()B" } : Jvm.MethodName) jdk_42_method_152_code (1 : Nat) (Option.some Jvm.ClassFile.FieldType.byte), Jvm.Cond.code ({ cls := "java/lang/String", name := "isLatin1", desc := "()Z" } : Jvm.MethodName) jdk_42_method_154_code (1 : Nat) (Option.some Jvm.ClassFile.FieldType.boolean), Jvm.Cond.code ({ cls := "java/lang/StringLatin1", name := "indexOf", desc := "([B[B)I" } : Jvm.MethodName) jdk_43_method_24_code (2 : Nat) (Option.some Jvm.ClassFile.FieldType.int), Jvm.Cond.code ({ cls := "java/lang/StringLatin1", name := "indexOf", desc := "([BI[BII)I" } : Jvm.MethodName) jdk_43_method_25_code (11 : Nat) (Option.some Jvm.ClassFile.FieldType.int)]
set_option maxRecDepth 65536 in
theorem codes_eq : words1.filter isCode = codes1 := rfl
theorem w_codes : ∀ c ∈ words1.filter isCode, c.before args0 about1 = true := by
  rw [codes_eq]
  intro c hc
  simp only [codes1, List.mem_cons, List.not_mem_nil, or_false] at hc
  rcases hc with rfl | rfl | rfl | rfl | rfl | rfl | rfl | rfl | rfl | rfl | rfl | rfl | rfl | rfl
  · exact w_c0
  · exact w_c1
  · exact w_c2
  · exact w_c3
  · exact w_c4
  · exact w_c5
  · exact w_c6
  · exact w_c7
  · exact w_c8
  · exact w_c9
  · exact w_c10
  · exact w_c11
  · exact w_c12
  · exact w_c13
set_option maxRecDepth 65536 in
theorem w_t1 : (words1.take 24).all (fun c => isCode c || c.before args0 about1) = true := by decide +kernel
set_option maxRecDepth 65536 in
theorem w_t2 : ((words1.drop 24).take 24).all (fun c => isCode c || c.before args0 about1) = true := by decide +kernel
set_option maxRecDepth 65536 in
theorem w_t3 : (((words1.drop 24).drop 24).take 24).all (fun c => isCode c || c.before args0 about1) = true := by decide +kernel
set_option maxRecDepth 65536 in
theorem w_t4 : (((words1.drop 24).drop 24).drop 24).all (fun c => isCode c || c.before args0 about1) = true := by decide +kernel
theorem w_tables : (allAtoms (Jvm.Cond.code x code maxLocals ret :: tables_1)).before args0 about1 = true := by
  rw [allAtoms_all]
  show words1.all (fun c => c.before args0 about1) = true
  refine all_split ?_ w_codes
  rw [← List.take_append_drop 24 words1, List.all_append, w_t1, ← List.take_append_drop 24 (words1.drop 24), List.all_append, w_t2, ← List.take_append_drop 24 ((words1.drop 24).drop 24), List.all_append, w_t3, w_t4]
  rfl
set_option maxRecDepth 65536 in
theorem w_rest : rest_1_c.before args0 about1 = true := by decide +kernel
set_option maxRecDepth 65536 in
theorem w_case : (Jvm.Cond.and given_1 narrow_1).before args0 about1 = true := by decide +kernel
theorem w_applies : (headSpec (Jvm.Cond.code x code maxLocals ret :: tables_1) room_1).applies x e0.platform about1 = true :=
  (Spec.applies_iff w_frames).mpr ⟨w_running, w_runnable, w_alone, w_named, w_hears, w_ripe, w_room, w_tables⟩
theorem atStart : AtStart classFile x code maxLocals ret World_1 tables_1 room_1 Calls_1 rest_1 Pre_1 launch0 p0 e0 about1 theMethod args0 below0 :=
  ⟨lists_1, trivial, launch0.admits_env _ _ _, launch0.least_env, fairChoices_fair.cas, fairChoices_fair.clock, w_frames, w_args, w_heap, w_applies, trivial, w_rest, w_case⟩
end start1
theorem witness_1 : WitnessClaimed_1 := ⟨start1.p0, start1.e0, start1.about1, start1.theMethod, start1.args0, start1.below0, start1.atStart⟩
end Jvm.Pilot.@@N@@
