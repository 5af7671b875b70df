import JvmDerived
import JvmDerived.Pilot.@@N@@Statement
import JvmDerived.Pilot.@@N@@Code
set_option linter.unusedVariables false
set_option linter.unusedSimpArgs false
namespace Jvm.Own
open Sem ClassFile Op Lib Jvm.Stand Jvm.Free Jvm.LawKit Jvm.RoadKit
/-- the run goes on from the frame g over T and comes to an end of which P holds -/
def Go (p : Program) (e : Env) (below : List Frame) (P : Outcome → State → Prop) (T : State) (g : JFrame) : Prop :=
  ∃ U o, Steps p.tables e below (T.setTop g) U ∧ U.status = .running ∧ Ended U below o ∧ P o U
/-- what a body's end says: it returned v; it wrote in new cells alone, kept the heap h0 but for ws and the start's heap whole; Q of what it returned and of the heap -/
def PostOf (Z s : State) (h0 : Heap) (ws : List Addr) (kc ks : Nat) (Q : Option Value → Heap → Prop) (o : Outcome) (U : State) : Prop :=
  ∃ v L, o = .returned v ∧ (Fr Z.heap.size L ∧ Keep h0 U.heap ws ∧ Ext Z.heap U.heap ∧ Q v U.heap) ∧ FrameEnd s o U L kc ks
/-- a body's contract for the arguments as at the heap h0 -/
def OMeets (l : Launch) (Z : State) (y : MethodName) (bytes : ByteArray) (nl : Nat) (ret : Option FieldType) (R : Room) (as : Array Value) (h0 : Heap) (ws : List Addr) (Q : Option Value → Heap → Prop) : Prop :=
  ∀ wd : List Jvm.Cond, MetFree l y (head1 (Jvm.Cond.code y bytes nl ret :: wd) R) (fun a U => a = as ∧ Z.Warmed39 U.vm ∧ U.heap = h0) (fun _ _ _ _ _ => True)
    (fun _ U o U' => PostOf Z U h0 ws R.cells R.slots Q o U')
/-- where the run of one body stands: what is fixed, the library's Stand, the heap, what was written, what is kept -/
def St (p : Program) (l : Launch) (e : Env) (R : Room) (s : State) (m : MethodId) (args : Array Value) (below : List Frame) (meth : Method) (c : Code) (Z : State) (own : String) (bytes : ByteArray) (nl : Nat) (ret : Option FieldType) (nm : String)
    (h0 : Heap) (ws : List Addr) (T : State) (h : Heap) (locs : List Loc) (cells slots : Nat) : Prop :=
  (p.tables.exec = Jvm.exec ∧ c.code = bytes ∧ c.maxLocals = nl ∧ Z.Warmed39 s.vm ∧ s.vm.findClass own = some m.cls ∧ meth.sig.returnType = ret ∧ meth.locks = false ∧ meth.name = nm) ∧
  Stand p l e R s m args below meth c T locs cells slots ∧ T.heap = h ∧ Fr Z.heap.size locs ∧ Keep h0 h ws ∧ Ext Z.heap h
section Steps
variable {p : Program} {l : Launch} {e : Env} {R : Room} {s : State} {m : MethodId} {args : Array Value} {below : List Frame} {meth : Method} {c : Code} {Z : State} {own : String} {bytes : ByteArray} {nl : Nat} {ret : Option FieldType} {nm : String}
  {h0 : Heap} {ws : List Addr} {T : State} {h : Heap} {locs : List Loc} {cells slots : Nat} {P : Outcome → State → Prop} {pc pc' : Nat} {Ls Ls' : Array Slot} {st : List Value} {a0 : Array Value}
theorem off0 {a b : Nat} {o : Int} (h : (a : Int) + o = (b : Int)) : 0 ≤ (a : Int) + o := by omega
theorem off1 {a b : Nat} {o : Int} (h : (a : Int) + o = (b : Int)) : ((a : Int) + o).toNat = b := by omega
theorem Go.of {T' : State} {g g' : JFrame} (k : Go p e below P T' g') (f : ∀ t, Steps p.tables e below (T'.setTop g') t → Steps p.tables e below (T.setTop g) t) : Go p e below P T g := by
  obtain ⟨U, o, h1, h2⟩ := k
  exact ⟨U, o, f _ h1, h2⟩
theorem Go.imp {g : JFrame} {P' : Outcome → State → Prop} (k : Go p e below P T g) (f : ∀ o U, P o U → P' o U) : Go p e below P' T g := by
  obtain ⟨U, o, h1, h2, h3, h4⟩ := k
  exact ⟨U, o, h1, h2, h3, f _ _ h4⟩
theorem St.ex (S : St p l e R s m args below meth c Z own bytes nl ret nm h0 ws T h locs cells slots) : p.tables.exec = Jvm.exec := S.1.1
theorem St.hd (S : St p l e R s m args below meth c Z own bytes nl ret nm h0 ws T h locs cells slots) {r : Except DecodeError (Instr × Nat)} (h2 : decode bytes pc = r) : decode c.code pc = r := S.1.2.1 ▸ h2
theorem St.hnl (S : St p l e R s m args below meth c Z own bytes nl ret nm h0 ws T h locs cells slots) : c.maxLocals = nl := S.1.2.2.1
theorem St.hZ (S : St p l e R s m args below meth c Z own bytes nl ret nm h0 ws T h locs cells slots) : Z.Warmed39 s.vm := S.1.2.2.2.1
theorem St.hown (S : St p l e R s m args below meth c Z own bytes nl ret nm h0 ws T h locs cells slots) : s.vm.findClass own = some m.cls := S.1.2.2.2.2.1
theorem St.hret (S : St p l e R s m args below meth c Z own bytes nl ret nm h0 ws T h locs cells slots) : meth.sig.returnType = ret := S.1.2.2.2.2.2.1
theorem St.locks (S : St p l e R s m args below meth c Z own bytes nl ret nm h0 ws T h locs cells slots) : meth.locks = false := S.1.2.2.2.2.2.2.1
theorem St.hnm (S : St p l e R s m args below meth c Z own bytes nl ret nm h0 ws T h locs cells slots) : meth.name = nm := S.1.2.2.2.2.2.2.2
theorem St.X (S : St p l e R s m args below meth c Z own bytes nl ret nm h0 ws T h locs cells slots) : Stand p l e R s m args below meth c T locs cells slots := S.2.1
theorem St.eT (S : St p l e R s m args below meth c Z own bytes nl ret nm h0 ws T h locs cells slots) : T.heap = h := S.2.2.1
theorem St.fr (S : St p l e R s m args below meth c Z own bytes nl ret nm h0 ws T h locs cells slots) : Fr Z.heap.size locs := S.2.2.2.1
theorem St.keep (S : St p l e R s m args below meth c Z own bytes nl ret nm h0 ws T h locs cells slots) : Keep h0 h ws := S.2.2.2.2.1
theorem St.ext (S : St p l e R s m args below meth c Z own bytes nl ret nm h0 ws T h locs cells slots) : Ext Z.heap h := S.2.2.2.2.2
theorem St.more (S : St p l e R s m args below meth c Z own bytes nl ret nm h0 ws T h locs cells slots) {cells' slots' : Nat} (hc : cells ≤ cells') (hs : slots ≤ slots') : St p l e R s m args below meth c Z own bytes nl ret nm h0 ws T h locs cells' slots' := ⟨S.1, S.X.more hc hs, S.2.2⟩
theorem St.next (S : St p l e R s m args below meth c Z own bytes nl ret nm h0 ws T h locs cells slots) {T' : State} {h' : Heap} {locs' : List Loc} {cells' slots' : Nat} (X : Stand p l e R s m args below meth c T' locs' cells' slots') (e1 : T'.heap = h') (N : Fr Z.heap.size locs') (K : Keep h0 h' ws) (E : Ext Z.heap h') : St p l e R s m args below meth c Z own bytes nl ret nm h0 ws T' h' locs' cells' slots' := ⟨S.1, X, e1, N, K, E⟩
theorem Go.iloadN (S : St p l e R s m args below meth c Z own bytes nl ret nm h0 ws T h locs cells slots) {k : Fin 4} {v : Int32} (hd : decode bytes pc = .ok (.iload_n k, 1)) (hl : Ls[k.val]? = some (.val (.int v))) (hp : pc + 1 = pc') (k : Go p e below P T (mkF m pc' Ls (.int v :: st))) : Go p e below P T (mkF m pc Ls st) := by
  subst hp
  exact k.of fun t q => XS.iloadN S.X.here S.ex rfl (S.hd hd) hl q
theorem Go.iload (S : St p l e R s m args below meth c Z own bytes nl ret nm h0 ws T h locs cells slots) {k : Nat} {v : Int32} (hd : decode bytes pc = .ok (.iload k, 2)) (hl : Ls[k]? = some (.val (.int v))) (hp : pc + 2 = pc') (k : Go p e below P T (mkF m pc' Ls (.int v :: st))) : Go p e below P T (mkF m pc Ls st) := by
  subst hp
  exact k.of fun t q => XS.iload S.X.here S.ex rfl (S.hd hd) hl q
theorem Go.istoreN (S : St p l e R s m args below meth c Z own bytes nl ret nm h0 ws T h locs cells slots) {k : Fin 4} {v : Int32} (hd : decode bytes pc = .ok (.istore_n k, 1)) (hl : storeLocals Ls k.val (.int v) = some Ls') (hp : pc + 1 = pc') (k : Go p e below P T (mkF m pc' Ls' st)) : Go p e below P T (mkF m pc Ls (.int v :: st)) := by
  subst hp
  exact k.of fun t q => XS.istoreN S.X.here S.ex rfl (S.hd hd) rfl hl q
theorem Go.istore (S : St p l e R s m args below meth c Z own bytes nl ret nm h0 ws T h locs cells slots) {k : Nat} {v : Int32} (hd : decode bytes pc = .ok (.istore k, 2)) (hl : storeLocals Ls k (.int v) = some Ls') (hp : pc + 2 = pc') (k : Go p e below P T (mkF m pc' Ls' st)) : Go p e below P T (mkF m pc Ls (.int v :: st)) := by
  subst hp
  exact k.of fun t q => XS.istore S.X.here S.ex rfl (S.hd hd) rfl hl q
theorem Go.lloadN (S : St p l e R s m args below meth c Z own bytes nl ret nm h0 ws T h locs cells slots) {k : Fin 4} {v : Int64} (hd : decode bytes pc = .ok (.lload_n k, 1)) (hl : Ls[k.val]? = some (.val (.long v))) (hp : pc + 1 = pc') (k : Go p e below P T (mkF m pc' Ls (.long v :: st))) : Go p e below P T (mkF m pc Ls st) := by
  subst hp
  exact k.of fun t q => XS.lloadN S.X.here S.ex rfl (S.hd hd) hl q
theorem Go.lload (S : St p l e R s m args below meth c Z own bytes nl ret nm h0 ws T h locs cells slots) {k : Nat} {v : Int64} (hd : decode bytes pc = .ok (.lload k, 2)) (hl : Ls[k]? = some (.val (.long v))) (hp : pc + 2 = pc') (k : Go p e below P T (mkF m pc' Ls (.long v :: st))) : Go p e below P T (mkF m pc Ls st) := by
  subst hp
  exact k.of fun t q => XS.lload S.X.here S.ex rfl (S.hd hd) hl q
theorem Go.lstoreN (S : St p l e R s m args below meth c Z own bytes nl ret nm h0 ws T h locs cells slots) {k : Fin 4} {v : Int64} (hd : decode bytes pc = .ok (.lstore_n k, 1)) (hl : storeLocals Ls k.val (.long v) = some Ls') (hp : pc + 1 = pc') (k : Go p e below P T (mkF m pc' Ls' st)) : Go p e below P T (mkF m pc Ls (.long v :: st)) := by
  subst hp
  exact k.of fun t q => XS.lstoreN S.X.here S.ex rfl (S.hd hd) rfl hl q
theorem Go.lstore (S : St p l e R s m args below meth c Z own bytes nl ret nm h0 ws T h locs cells slots) {k : Nat} {v : Int64} (hd : decode bytes pc = .ok (.lstore k, 2)) (hl : storeLocals Ls k (.long v) = some Ls') (hp : pc + 2 = pc') (k : Go p e below P T (mkF m pc' Ls' st)) : Go p e below P T (mkF m pc Ls (.long v :: st)) := by
  subst hp
  exact k.of fun t q => XS.lstore S.X.here S.ex rfl (S.hd hd) rfl hl q
theorem Go.aloadN (S : St p l e R s m args below meth c Z own bytes nl ret nm h0 ws T h locs cells slots) {k : Fin 4} {v : Value} (hd : decode bytes pc = .ok (.aload_n k, 1)) (hl : Ls[k.val]? = some (.val v)) (hr : v.isRef = true) (hp : pc + 1 = pc') (k : Go p e below P T (mkF m pc' Ls (v :: st))) : Go p e below P T (mkF m pc Ls st) := by
  subst hp
  exact k.of fun t q => XS.aloadN S.X.here S.ex rfl (S.hd hd) hl hr q
theorem Go.aload (S : St p l e R s m args below meth c Z own bytes nl ret nm h0 ws T h locs cells slots) {k : Nat} {v : Value} (hd : decode bytes pc = .ok (.aload k, 2)) (hl : Ls[k]? = some (.val v)) (hr : v.isRef = true) (hp : pc + 2 = pc') (k : Go p e below P T (mkF m pc' Ls (v :: st))) : Go p e below P T (mkF m pc Ls st) := by
  subst hp
  exact k.of fun t q => XS.aload S.X.here S.ex rfl (S.hd hd) hl hr q
theorem Go.astoreN (S : St p l e R s m args below meth c Z own bytes nl ret nm h0 ws T h locs cells slots) {k : Fin 4} {v : Value} (hd : decode bytes pc = .ok (.astore_n k, 1)) (hr : v.isRef = true) (hl : storeLocals Ls k.val v = some Ls') (hp : pc + 1 = pc') (k : Go p e below P T (mkF m pc' Ls' st)) : Go p e below P T (mkF m pc Ls (v :: st)) := by
  subst hp
  exact k.of fun t q => XS.astoreN S.X.here S.ex rfl (S.hd hd) rfl hr hl q
theorem Go.astore (S : St p l e R s m args below meth c Z own bytes nl ret nm h0 ws T h locs cells slots) {k : Nat} {v : Value} (hd : decode bytes pc = .ok (.astore k, 2)) (hr : v.isRef = true) (hl : storeLocals Ls k v = some Ls') (hp : pc + 2 = pc') (k : Go p e below P T (mkF m pc' Ls' st)) : Go p e below P T (mkF m pc Ls (v :: st)) := by
  subst hp
  exact k.of fun t q => XS.astore S.X.here S.ex rfl (S.hd hd) rfl hr hl q
theorem Go.iconst (S : St p l e R s m args below meth c Z own bytes nl ret nm h0 ws T h locs cells slots) {i : Int} {v : Int32} (hd : decode bytes pc = .ok (.iconst i, 1)) (hv : Int32.ofInt i = v) (hp : pc + 1 = pc') (k : Go p e below P T (mkF m pc' Ls (.int v :: st))) : Go p e below P T (mkF m pc Ls st) := by
  subst hp hv
  exact k.of fun t q => XS.iconst S.X.here S.ex rfl (S.hd hd) q
theorem Go.bipush (S : St p l e R s m args below meth c Z own bytes nl ret nm h0 ws T h locs cells slots) {i : Int} {v : Int32} (hd : decode bytes pc = .ok (.bipush i, 2)) (hv : (Int8.ofInt i).toInt32 = v) (hp : pc + 2 = pc') (k : Go p e below P T (mkF m pc' Ls (.int v :: st))) : Go p e below P T (mkF m pc Ls st) := by
  subst hp hv
  exact k.of fun t q => XS.bipush S.X.here S.ex rfl (S.hd hd) q
theorem Go.sipush (S : St p l e R s m args below meth c Z own bytes nl ret nm h0 ws T h locs cells slots) {i : Int} {v : Int32} (hd : decode bytes pc = .ok (.sipush i, 3)) (hv : (Int16.ofInt i).toInt32 = v) (hp : pc + 3 = pc') (k : Go p e below P T (mkF m pc' Ls (.int v :: st))) : Go p e below P T (mkF m pc Ls st) := by
  subst hp hv
  exact k.of fun t q => XS.sipush S.X.here S.ex rfl (S.hd hd) q
theorem Go.lconst (S : St p l e R s m args below meth c Z own bytes nl ret nm h0 ws T h locs cells slots) {i : Fin 2} {v : Int64} (hd : decode bytes pc = .ok (.lconst i, 1)) (hv : Int64.ofNat i = v) (hp : pc + 1 = pc') (k : Go p e below P T (mkF m pc' Ls (.long v :: st))) : Go p e below P T (mkF m pc Ls st) := by
  subst hp hv
  exact k.of fun t q => XS.lconst S.X.here S.ex rfl (S.hd hd) q
theorem Go.aconst_null (S : St p l e R s m args below meth c Z own bytes nl ret nm h0 ws T h locs cells slots)  (hd : decode bytes pc = .ok (.aconst_null, 1)) (hp : pc + 1 = pc') (k : Go p e below P T (mkF m pc' Ls (.null :: st))) : Go p e below P T (mkF m pc Ls st) := by
  subst hp
  exact k.of fun t q => XS.aconstNull S.X.here S.ex rfl (S.hd hd) q
theorem Go.iadd (S : St p l e R s m args below meth c Z own bytes nl ret nm h0 ws T h locs cells slots) {x y : Int32} (hd : decode bytes pc = .ok (.iadd, 1)) (hp : pc + 1 = pc') (k : Go p e below P T (mkF m pc' Ls (.int (x + y) :: st))) : Go p e below P T (mkF m pc Ls (.int y :: .int x :: st)) := by
  subst hp
  exact k.of fun t q => XS.iadd S.X.here S.ex rfl (S.hd hd) rfl q
theorem Go.ladd (S : St p l e R s m args below meth c Z own bytes nl ret nm h0 ws T h locs cells slots) {x y : Int64} (hd : decode bytes pc = .ok (.ladd, 1)) (hp : pc + 1 = pc') (k : Go p e below P T (mkF m pc' Ls (.long (x + y) :: st))) : Go p e below P T (mkF m pc Ls (.long y :: .long x :: st)) := by
  subst hp
  exact k.of fun t q => XS.ladd S.X.here S.ex rfl (S.hd hd) rfl q
theorem Go.isub (S : St p l e R s m args below meth c Z own bytes nl ret nm h0 ws T h locs cells slots) {x y : Int32} (hd : decode bytes pc = .ok (.isub, 1)) (hp : pc + 1 = pc') (k : Go p e below P T (mkF m pc' Ls (.int (x - y) :: st))) : Go p e below P T (mkF m pc Ls (.int y :: .int x :: st)) := by
  subst hp
  exact k.of fun t q => XS.isub S.X.here S.ex rfl (S.hd hd) rfl q
theorem Go.lsub (S : St p l e R s m args below meth c Z own bytes nl ret nm h0 ws T h locs cells slots) {x y : Int64} (hd : decode bytes pc = .ok (.lsub, 1)) (hp : pc + 1 = pc') (k : Go p e below P T (mkF m pc' Ls (.long (x - y) :: st))) : Go p e below P T (mkF m pc Ls (.long y :: .long x :: st)) := by
  subst hp
  exact k.of fun t q => XS.lsub S.X.here S.ex rfl (S.hd hd) rfl q
theorem Go.imul (S : St p l e R s m args below meth c Z own bytes nl ret nm h0 ws T h locs cells slots) {x y : Int32} (hd : decode bytes pc = .ok (.imul, 1)) (hp : pc + 1 = pc') (k : Go p e below P T (mkF m pc' Ls (.int (x * y) :: st))) : Go p e below P T (mkF m pc Ls (.int y :: .int x :: st)) := by
  subst hp
  exact k.of fun t q => XS.imul S.X.here S.ex rfl (S.hd hd) rfl q
theorem Go.lmul (S : St p l e R s m args below meth c Z own bytes nl ret nm h0 ws T h locs cells slots) {x y : Int64} (hd : decode bytes pc = .ok (.lmul, 1)) (hp : pc + 1 = pc') (k : Go p e below P T (mkF m pc' Ls (.long (x * y) :: st))) : Go p e below P T (mkF m pc Ls (.long y :: .long x :: st)) := by
  subst hp
  exact k.of fun t q => XS.lmul S.X.here S.ex rfl (S.hd hd) rfl q
theorem Go.iand (S : St p l e R s m args below meth c Z own bytes nl ret nm h0 ws T h locs cells slots) {x y : Int32} (hd : decode bytes pc = .ok (.iand, 1)) (hp : pc + 1 = pc') (k : Go p e below P T (mkF m pc' Ls (.int (x &&& y) :: st))) : Go p e below P T (mkF m pc Ls (.int y :: .int x :: st)) := by
  subst hp
  exact k.of fun t q => XS.iand S.X.here S.ex rfl (S.hd hd) rfl q
theorem Go.land (S : St p l e R s m args below meth c Z own bytes nl ret nm h0 ws T h locs cells slots) {x y : Int64} (hd : decode bytes pc = .ok (.land, 1)) (hp : pc + 1 = pc') (k : Go p e below P T (mkF m pc' Ls (.long (x &&& y) :: st))) : Go p e below P T (mkF m pc Ls (.long y :: .long x :: st)) := by
  subst hp
  exact k.of fun t q => XS.land S.X.here S.ex rfl (S.hd hd) rfl q
theorem Go.ior (S : St p l e R s m args below meth c Z own bytes nl ret nm h0 ws T h locs cells slots) {x y : Int32} (hd : decode bytes pc = .ok (.ior, 1)) (hp : pc + 1 = pc') (k : Go p e below P T (mkF m pc' Ls (.int (x ||| y) :: st))) : Go p e below P T (mkF m pc Ls (.int y :: .int x :: st)) := by
  subst hp
  exact k.of fun t q => XS.ior S.X.here S.ex rfl (S.hd hd) rfl q
theorem Go.lor (S : St p l e R s m args below meth c Z own bytes nl ret nm h0 ws T h locs cells slots) {x y : Int64} (hd : decode bytes pc = .ok (.lor, 1)) (hp : pc + 1 = pc') (k : Go p e below P T (mkF m pc' Ls (.long (x ||| y) :: st))) : Go p e below P T (mkF m pc Ls (.long y :: .long x :: st)) := by
  subst hp
  exact k.of fun t q => XS.lor S.X.here S.ex rfl (S.hd hd) rfl q
theorem Go.ixor (S : St p l e R s m args below meth c Z own bytes nl ret nm h0 ws T h locs cells slots) {x y : Int32} (hd : decode bytes pc = .ok (.ixor, 1)) (hp : pc + 1 = pc') (k : Go p e below P T (mkF m pc' Ls (.int (x ^^^ y) :: st))) : Go p e below P T (mkF m pc Ls (.int y :: .int x :: st)) := by
  subst hp
  exact k.of fun t q => XS.ixor S.X.here S.ex rfl (S.hd hd) rfl q
theorem Go.lxor (S : St p l e R s m args below meth c Z own bytes nl ret nm h0 ws T h locs cells slots) {x y : Int64} (hd : decode bytes pc = .ok (.lxor, 1)) (hp : pc + 1 = pc') (k : Go p e below P T (mkF m pc' Ls (.long (x ^^^ y) :: st))) : Go p e below P T (mkF m pc Ls (.long y :: .long x :: st)) := by
  subst hp
  exact k.of fun t q => XS.lxor S.X.here S.ex rfl (S.hd hd) rfl q
theorem Go.ishl (S : St p l e R s m args below meth c Z own bytes nl ret nm h0 ws T h locs cells slots) {x : Int32} {y : Int32} (hd : decode bytes pc = .ok (.ishl, 1)) (hp : pc + 1 = pc') (k : Go p e below P T (mkF m pc' Ls (.int (x <<< (y &&& 31)) :: st))) : Go p e below P T (mkF m pc Ls (.int y :: .int x :: st)) := by
  subst hp
  exact k.of fun t q => XS.ishl S.X.here S.ex rfl (S.hd hd) rfl q
theorem Go.ishr (S : St p l e R s m args below meth c Z own bytes nl ret nm h0 ws T h locs cells slots) {x : Int32} {y : Int32} (hd : decode bytes pc = .ok (.ishr, 1)) (hp : pc + 1 = pc') (k : Go p e below P T (mkF m pc' Ls (.int (x >>> (y &&& 31)) :: st))) : Go p e below P T (mkF m pc Ls (.int y :: .int x :: st)) := by
  subst hp
  exact k.of fun t q => XS.ishr S.X.here S.ex rfl (S.hd hd) rfl q
theorem Go.iushr (S : St p l e R s m args below meth c Z own bytes nl ret nm h0 ws T h locs cells slots) {x : Int32} {y : Int32} (hd : decode bytes pc = .ok (.iushr, 1)) (hp : pc + 1 = pc') (k : Go p e below P T (mkF m pc' Ls (.int ((x.toUInt32 >>> (y &&& 31).toUInt32).toInt32) :: st))) : Go p e below P T (mkF m pc Ls (.int y :: .int x :: st)) := by
  subst hp
  exact k.of fun t q => XS.iushr S.X.here S.ex rfl (S.hd hd) rfl q
theorem Go.lshl (S : St p l e R s m args below meth c Z own bytes nl ret nm h0 ws T h locs cells slots) {x : Int64} {y : Int32} (hd : decode bytes pc = .ok (.lshl, 1)) (hp : pc + 1 = pc') (k : Go p e below P T (mkF m pc' Ls (.long (x <<< (y &&& 0x3f).toInt64) :: st))) : Go p e below P T (mkF m pc Ls (.int y :: .long x :: st)) := by
  subst hp
  exact k.of fun t q => XS.lshl S.X.here S.ex rfl (S.hd hd) rfl q
theorem Go.lshr (S : St p l e R s m args below meth c Z own bytes nl ret nm h0 ws T h locs cells slots) {x : Int64} {y : Int32} (hd : decode bytes pc = .ok (.lshr, 1)) (hp : pc + 1 = pc') (k : Go p e below P T (mkF m pc' Ls (.long (x >>> (y &&& 0x3f).toInt64) :: st))) : Go p e below P T (mkF m pc Ls (.int y :: .long x :: st)) := by
  subst hp
  exact k.of fun t q => XS.lshr S.X.here S.ex rfl (S.hd hd) rfl q
theorem Go.lushr (S : St p l e R s m args below meth c Z own bytes nl ret nm h0 ws T h locs cells slots) {x : Int64} {y : Int32} (hd : decode bytes pc = .ok (.lushr, 1)) (hp : pc + 1 = pc') (k : Go p e below P T (mkF m pc' Ls (.long ((x.toUInt64 >>> (y &&& 0x3f).toInt64.toUInt64).toInt64) :: st))) : Go p e below P T (mkF m pc Ls (.int y :: .long x :: st)) := by
  subst hp
  exact k.of fun t q => XS.lushr S.X.here S.ex rfl (S.hd hd) rfl q
theorem Go.i2l (S : St p l e R s m args below meth c Z own bytes nl ret nm h0 ws T h locs cells slots) {x : Int32} (hd : decode bytes pc = .ok (.i2l, 1)) (hp : pc + 1 = pc') (k : Go p e below P T (mkF m pc' Ls (.long (x.toInt64) :: st))) : Go p e below P T (mkF m pc Ls (.int x :: st)) := by
  subst hp
  exact k.of fun t q => XS.i2l S.X.here S.ex rfl (S.hd hd) rfl q
theorem Go.l2i (S : St p l e R s m args below meth c Z own bytes nl ret nm h0 ws T h locs cells slots) {x : Int64} (hd : decode bytes pc = .ok (.l2i, 1)) (hp : pc + 1 = pc') (k : Go p e below P T (mkF m pc' Ls (.int (x.toInt32) :: st))) : Go p e below P T (mkF m pc Ls (.long x :: st)) := by
  subst hp
  exact k.of fun t q => XS.l2i S.X.here S.ex rfl (S.hd hd) rfl q
theorem Go.i2b (S : St p l e R s m args below meth c Z own bytes nl ret nm h0 ws T h locs cells slots) {x : Int32} (hd : decode bytes pc = .ok (.i2b, 1)) (hp : pc + 1 = pc') (k : Go p e below P T (mkF m pc' Ls (.int (x.toInt8.toInt32) :: st))) : Go p e below P T (mkF m pc Ls (.int x :: st)) := by
  subst hp
  exact k.of fun t q => XS.i2b S.X.here S.ex rfl (S.hd hd) rfl q
theorem Go.i2s (S : St p l e R s m args below meth c Z own bytes nl ret nm h0 ws T h locs cells slots) {x : Int32} (hd : decode bytes pc = .ok (.i2s, 1)) (hp : pc + 1 = pc') (k : Go p e below P T (mkF m pc' Ls (.int (x.toInt16.toInt32) :: st))) : Go p e below P T (mkF m pc Ls (.int x :: st)) := by
  subst hp
  exact k.of fun t q => XS.i2s S.X.here S.ex rfl (S.hd hd) rfl q
theorem Go.i2c (S : St p l e R s m args below meth c Z own bytes nl ret nm h0 ws T h locs cells slots) {x : Int32} (hd : decode bytes pc = .ok (.i2c, 1)) (hp : pc + 1 = pc') (k : Go p e below P T (mkF m pc' Ls (.int (x.toUInt32.toUInt16.toUInt32.toInt32) :: st))) : Go p e below P T (mkF m pc Ls (.int x :: st)) := by
  subst hp
  exact k.of fun t q => XS.i2c S.X.here S.ex rfl (S.hd hd) rfl q
theorem Go.ineg (S : St p l e R s m args below meth c Z own bytes nl ret nm h0 ws T h locs cells slots) {x : Int32} (hd : decode bytes pc = .ok (.ineg, 1)) (hp : pc + 1 = pc') (k : Go p e below P T (mkF m pc' Ls (.int (-x) :: st))) : Go p e below P T (mkF m pc Ls (.int x :: st)) := by
  subst hp
  exact k.of fun t q => XS.ineg S.X.here S.ex rfl (S.hd hd) rfl q
theorem Go.lneg (S : St p l e R s m args below meth c Z own bytes nl ret nm h0 ws T h locs cells slots) {x : Int64} (hd : decode bytes pc = .ok (.lneg, 1)) (hp : pc + 1 = pc') (k : Go p e below P T (mkF m pc' Ls (.long (-x) :: st))) : Go p e below P T (mkF m pc Ls (.long x :: st)) := by
  subst hp
  exact k.of fun t q => XS.lneg S.X.here S.ex rfl (S.hd hd) rfl q
theorem Go.idiv (S : St p l e R s m args below meth c Z own bytes nl ret nm h0 ws T h locs cells slots) {x y : Int32} (hd : decode bytes pc = .ok (.idiv, 1)) (hy : y ≠ 0) (hp : pc + 1 = pc') (k : Go p e below P T (mkF m pc' Ls (.int (x / y) :: st))) : Go p e below P T (mkF m pc Ls (.int y :: .int x :: st)) := by
  subst hp
  exact k.of fun t q => XS.idiv S.X.here S.ex rfl (S.hd hd) rfl hy q
theorem Go.ldiv (S : St p l e R s m args below meth c Z own bytes nl ret nm h0 ws T h locs cells slots) {x y : Int64} (hd : decode bytes pc = .ok (.ldiv, 1)) (hy : y ≠ 0) (hp : pc + 1 = pc') (k : Go p e below P T (mkF m pc' Ls (.long (x / y) :: st))) : Go p e below P T (mkF m pc Ls (.long y :: .long x :: st)) := by
  subst hp
  exact k.of fun t q => XS.ldiv S.X.here S.ex rfl (S.hd hd) rfl hy q
theorem Go.irem (S : St p l e R s m args below meth c Z own bytes nl ret nm h0 ws T h locs cells slots) {x y : Int32} (hd : decode bytes pc = .ok (.irem, 1)) (hy : y ≠ 0) (hp : pc + 1 = pc') (k : Go p e below P T (mkF m pc' Ls (.int (x % y) :: st))) : Go p e below P T (mkF m pc Ls (.int y :: .int x :: st)) := by
  subst hp
  exact k.of fun t q => Jvm.RoadKit.iremM S.X S.ex rfl (S.hd hd) rfl hy q
theorem Go.lrem (S : St p l e R s m args below meth c Z own bytes nl ret nm h0 ws T h locs cells slots) {x y : Int64} (hd : decode bytes pc = .ok (.lrem, 1)) (hy : y ≠ 0) (hp : pc + 1 = pc') (k : Go p e below P T (mkF m pc' Ls (.long (x % y) :: st))) : Go p e below P T (mkF m pc Ls (.long y :: .long x :: st)) := by
  subst hp
  rw [← lrem_mod] at k
  exact k.of fun t q => XS.lrem S.X.here S.ex rfl (S.hd hd) rfl hy q
theorem Go.iinc (S : St p l e R s m args below meth c Z own bytes nl ret nm h0 ws T h locs cells slots) {k : Nat} {cst : Int} {x : Int32} (hd : decode bytes pc = .ok (.iinc k cst, 3)) (hl : Ls[k]? = some (.val (.int x))) (hl' : storeLocals Ls k (.int (x + Int32.ofInt cst)) = some Ls') (hp : pc + 3 = pc') (k : Go p e below P T (mkF m pc' Ls' st)) : Go p e below P T (mkF m pc Ls st) := by
  subst hp
  exact k.of fun t q => XS.iinc S.X.here S.ex rfl (S.hd hd) hl hl' q
theorem Go.dup (S : St p l e R s m args below meth c Z own bytes nl ret nm h0 ws T h locs cells slots) {x : Value} (hd : decode bytes pc = .ok (.dup, 1)) (hc : x.category = 1) (hp : pc + 1 = pc') (k : Go p e below P T (mkF m pc' Ls (x :: x :: st))) : Go p e below P T (mkF m pc Ls (x :: st)) := by
  subst hp
  exact k.of fun t q => XS.dup S.X.here S.ex rfl (S.hd hd) rfl hc q
theorem Go.pop (S : St p l e R s m args below meth c Z own bytes nl ret nm h0 ws T h locs cells slots) {x : Value} (hd : decode bytes pc = .ok (.pop, 1)) (hc : x.category = 1) (hp : pc + 1 = pc') (k : Go p e below P T (mkF m pc' Ls st)) : Go p e below P T (mkF m pc Ls (x :: st)) := by
  subst hp
  exact k.of fun t q => XS.pop S.X.here S.ex rfl (S.hd hd) rfl hc q
theorem Go.dup_x1 (S : St p l e R s m args below meth c Z own bytes nl ret nm h0 ws T h locs cells slots) {x y : Value} (hd : decode bytes pc = .ok (.dup_x1, 1)) (hc : x.category = 1) (hc' : y.category = 1) (hp : pc + 1 = pc') (k : Go p e below P T (mkF m pc' Ls (x :: y :: x :: st))) : Go p e below P T (mkF m pc Ls (x :: y :: st)) := by
  subst hp
  exact k.of fun t q => XS.dupX1 S.X.here S.ex rfl (S.hd hd) rfl hc hc' q
theorem Go.goto (S : St p l e R s m args below meth c Z own bytes nl ret nm h0 ws T h locs cells slots) {o : Int} (hd : decode bytes pc = .ok (.goto o, 3)) (hp : (pc : Int) + o = (pc' : Int)) (k : Go p e below P T (mkF m pc' Ls st)) : Go p e below P T (mkF m pc Ls st) :=
  k.of fun t q => XS.goto S.X.here S.ex rfl (pc0 := pc) rfl (S.hd hd) (off0 hp) (off1 hp) q
theorem Go.if_eq (S : St p l e R s m args below meth c Z own bytes nl ret nm h0 ws T h locs cells slots) {x : Int32} {o : Int} {pt : Nat} (hd : decode bytes pc = .ok (.ifCond .eq o, 3)) (ht : (pc : Int) + o = (pt : Int)) (hf : pc + 3 = pc') (ky : x = 0 → Go p e below P T (mkF m pt Ls st)) (kn : ¬ x = 0 → Go p e below P T (mkF m pc' Ls st)) : Go p e below P T (mkF m pc Ls (.int x :: st)) := by
  subst hf
  by_cases q : x = 0
  · exact (ky q).of fun t q' => XS.ifYes S.X.here S.ex rfl (pc0 := pc) rfl (S.hd hd) rfl (Jvm.Free.XT.i0_eq_t q) (off0 ht) (off1 ht) q'
  · exact (kn q).of fun t q' => XS.ifNo S.X.here S.ex rfl (S.hd hd) rfl (Jvm.Free.XT.i0_eq_f q) q'
theorem Go.icmp_eq (S : St p l e R s m args below meth c Z own bytes nl ret nm h0 ws T h locs cells slots) {x y : Int32} {o : Int} {pt : Nat} (hd : decode bytes pc = .ok (.if_icmp .eq o, 3)) (ht : (pc : Int) + o = (pt : Int)) (hf : pc + 3 = pc') (ky : x = y → Go p e below P T (mkF m pt Ls st)) (kn : ¬ x = y → Go p e below P T (mkF m pc' Ls st)) : Go p e below P T (mkF m pc Ls (.int y :: .int x :: st)) := by
  subst hf
  by_cases q : x = y
  · exact (ky q).of fun t q' => XS.icmpYes S.X.here S.ex rfl (pc0 := pc) rfl (S.hd hd) rfl (Jvm.Free.XT.ii_eq_t q) (off0 ht) (off1 ht) q'
  · exact (kn q).of fun t q' => XS.icmpNo S.X.here S.ex rfl (S.hd hd) rfl (Jvm.Free.XT.ii_eq_f q) q'
theorem Go.lcmp_eq (S : St p l e R s m args below meth c Z own bytes nl ret nm h0 ws T h locs cells slots) {x y : Int64} {o : Int} {pt : Nat} {pc1 : Nat} (hd1 : decode bytes pc = .ok (.lcmp, 1)) (h1 : pc + 1 = pc1) (hd : decode bytes pc1 = .ok (.ifCond .eq o, 3)) (ht : (pc1 : Int) + o = (pt : Int)) (hf : pc1 + 3 = pc') (ky : x = y → Go p e below P T (mkF m pt Ls st)) (kn : ¬ x = y → Go p e below P T (mkF m pc' Ls st)) : Go p e below P T (mkF m pc Ls (.long y :: .long x :: st)) := by
  subst hf h1
  by_cases q : x = y
  · exact (ky q).of fun t q' => Jvm.Free.XT.lcmp S.X.here S.ex rfl (S.hd hd1) rfl (XS.ifYes S.X.here S.ex rfl (pc0 := pc + 1) rfl (S.hd hd) rfl (Jvm.Free.XT.ll_eq_t q) (off0 ht) (off1 ht) q')
  · exact (kn q).of fun t q' => Jvm.Free.XT.lcmp S.X.here S.ex rfl (S.hd hd1) rfl (XS.ifNo S.X.here S.ex rfl (S.hd hd) rfl (Jvm.Free.XT.ll_eq_f q) q')
theorem Go.if_ne (S : St p l e R s m args below meth c Z own bytes nl ret nm h0 ws T h locs cells slots) {x : Int32} {o : Int} {pt : Nat} (hd : decode bytes pc = .ok (.ifCond .ne o, 3)) (ht : (pc : Int) + o = (pt : Int)) (hf : pc + 3 = pc') (ky : ¬ x = 0 → Go p e below P T (mkF m pt Ls st)) (kn : x = 0 → Go p e below P T (mkF m pc' Ls st)) : Go p e below P T (mkF m pc Ls (.int x :: st)) := by
  subst hf
  by_cases q : x = 0
  · exact (kn q).of fun t q' => XS.ifNo S.X.here S.ex rfl (S.hd hd) rfl (Jvm.Free.XT.i0_ne_f q) q'
  · exact (ky q).of fun t q' => XS.ifYes S.X.here S.ex rfl (pc0 := pc) rfl (S.hd hd) rfl (Jvm.Free.XT.i0_ne_t q) (off0 ht) (off1 ht) q'
theorem Go.icmp_ne (S : St p l e R s m args below meth c Z own bytes nl ret nm h0 ws T h locs cells slots) {x y : Int32} {o : Int} {pt : Nat} (hd : decode bytes pc = .ok (.if_icmp .ne o, 3)) (ht : (pc : Int) + o = (pt : Int)) (hf : pc + 3 = pc') (ky : ¬ x = y → Go p e below P T (mkF m pt Ls st)) (kn : x = y → Go p e below P T (mkF m pc' Ls st)) : Go p e below P T (mkF m pc Ls (.int y :: .int x :: st)) := by
  subst hf
  by_cases q : x = y
  · exact (kn q).of fun t q' => XS.icmpNo S.X.here S.ex rfl (S.hd hd) rfl (Jvm.Free.XT.ii_ne_f q) q'
  · exact (ky q).of fun t q' => XS.icmpYes S.X.here S.ex rfl (pc0 := pc) rfl (S.hd hd) rfl (Jvm.Free.XT.ii_ne_t q) (off0 ht) (off1 ht) q'
theorem Go.lcmp_ne (S : St p l e R s m args below meth c Z own bytes nl ret nm h0 ws T h locs cells slots) {x y : Int64} {o : Int} {pt : Nat} {pc1 : Nat} (hd1 : decode bytes pc = .ok (.lcmp, 1)) (h1 : pc + 1 = pc1) (hd : decode bytes pc1 = .ok (.ifCond .ne o, 3)) (ht : (pc1 : Int) + o = (pt : Int)) (hf : pc1 + 3 = pc') (ky : ¬ x = y → Go p e below P T (mkF m pt Ls st)) (kn : x = y → Go p e below P T (mkF m pc' Ls st)) : Go p e below P T (mkF m pc Ls (.long y :: .long x :: st)) := by
  subst hf h1
  by_cases q : x = y
  · exact (kn q).of fun t q' => Jvm.Free.XT.lcmp S.X.here S.ex rfl (S.hd hd1) rfl (XS.ifNo S.X.here S.ex rfl (S.hd hd) rfl (Jvm.Free.XT.ll_ne_f q) q')
  · exact (ky q).of fun t q' => Jvm.Free.XT.lcmp S.X.here S.ex rfl (S.hd hd1) rfl (XS.ifYes S.X.here S.ex rfl (pc0 := pc + 1) rfl (S.hd hd) rfl (Jvm.Free.XT.ll_ne_t q) (off0 ht) (off1 ht) q')
theorem Go.if_lt (S : St p l e R s m args below meth c Z own bytes nl ret nm h0 ws T h locs cells slots) {x : Int32} {o : Int} {pt : Nat} (hd : decode bytes pc = .ok (.ifCond .lt o, 3)) (ht : (pc : Int) + o = (pt : Int)) (hf : pc + 3 = pc') (ky : x < 0 → Go p e below P T (mkF m pt Ls st)) (kn : ¬ x < 0 → Go p e below P T (mkF m pc' Ls st)) : Go p e below P T (mkF m pc Ls (.int x :: st)) := by
  subst hf
  by_cases q : x < 0
  · exact (ky q).of fun t q' => XS.ifYes S.X.here S.ex rfl (pc0 := pc) rfl (S.hd hd) rfl (Jvm.Free.XT.i0_lt_t q) (off0 ht) (off1 ht) q'
  · exact (kn q).of fun t q' => XS.ifNo S.X.here S.ex rfl (S.hd hd) rfl (Jvm.Free.XT.i0_lt_f q) q'
theorem Go.icmp_lt (S : St p l e R s m args below meth c Z own bytes nl ret nm h0 ws T h locs cells slots) {x y : Int32} {o : Int} {pt : Nat} (hd : decode bytes pc = .ok (.if_icmp .lt o, 3)) (ht : (pc : Int) + o = (pt : Int)) (hf : pc + 3 = pc') (ky : x < y → Go p e below P T (mkF m pt Ls st)) (kn : ¬ x < y → Go p e below P T (mkF m pc' Ls st)) : Go p e below P T (mkF m pc Ls (.int y :: .int x :: st)) := by
  subst hf
  by_cases q : x < y
  · exact (ky q).of fun t q' => XS.icmpYes S.X.here S.ex rfl (pc0 := pc) rfl (S.hd hd) rfl (Jvm.Free.XT.ii_lt_t q) (off0 ht) (off1 ht) q'
  · exact (kn q).of fun t q' => XS.icmpNo S.X.here S.ex rfl (S.hd hd) rfl (Jvm.Free.XT.ii_lt_f q) q'
theorem Go.lcmp_lt (S : St p l e R s m args below meth c Z own bytes nl ret nm h0 ws T h locs cells slots) {x y : Int64} {o : Int} {pt : Nat} {pc1 : Nat} (hd1 : decode bytes pc = .ok (.lcmp, 1)) (h1 : pc + 1 = pc1) (hd : decode bytes pc1 = .ok (.ifCond .lt o, 3)) (ht : (pc1 : Int) + o = (pt : Int)) (hf : pc1 + 3 = pc') (ky : x < y → Go p e below P T (mkF m pt Ls st)) (kn : ¬ x < y → Go p e below P T (mkF m pc' Ls st)) : Go p e below P T (mkF m pc Ls (.long y :: .long x :: st)) := by
  subst hf h1
  by_cases q : x < y
  · exact (ky q).of fun t q' => Jvm.Free.XT.lcmp S.X.here S.ex rfl (S.hd hd1) rfl (XS.ifYes S.X.here S.ex rfl (pc0 := pc + 1) rfl (S.hd hd) rfl (Jvm.Free.XT.ll_lt_t q) (off0 ht) (off1 ht) q')
  · exact (kn q).of fun t q' => Jvm.Free.XT.lcmp S.X.here S.ex rfl (S.hd hd1) rfl (XS.ifNo S.X.here S.ex rfl (S.hd hd) rfl (Jvm.Free.XT.ll_lt_f q) q')
theorem Go.if_ge (S : St p l e R s m args below meth c Z own bytes nl ret nm h0 ws T h locs cells slots) {x : Int32} {o : Int} {pt : Nat} (hd : decode bytes pc = .ok (.ifCond .ge o, 3)) (ht : (pc : Int) + o = (pt : Int)) (hf : pc + 3 = pc') (ky : ¬ x < 0 → Go p e below P T (mkF m pt Ls st)) (kn : x < 0 → Go p e below P T (mkF m pc' Ls st)) : Go p e below P T (mkF m pc Ls (.int x :: st)) := by
  subst hf
  by_cases q : x < 0
  · exact (kn q).of fun t q' => XS.ifNo S.X.here S.ex rfl (S.hd hd) rfl (Jvm.Free.XT.i0_ge_f q) q'
  · exact (ky q).of fun t q' => XS.ifYes S.X.here S.ex rfl (pc0 := pc) rfl (S.hd hd) rfl (Jvm.Free.XT.i0_ge_t q) (off0 ht) (off1 ht) q'
theorem Go.icmp_ge (S : St p l e R s m args below meth c Z own bytes nl ret nm h0 ws T h locs cells slots) {x y : Int32} {o : Int} {pt : Nat} (hd : decode bytes pc = .ok (.if_icmp .ge o, 3)) (ht : (pc : Int) + o = (pt : Int)) (hf : pc + 3 = pc') (ky : ¬ x < y → Go p e below P T (mkF m pt Ls st)) (kn : x < y → Go p e below P T (mkF m pc' Ls st)) : Go p e below P T (mkF m pc Ls (.int y :: .int x :: st)) := by
  subst hf
  by_cases q : x < y
  · exact (kn q).of fun t q' => XS.icmpNo S.X.here S.ex rfl (S.hd hd) rfl (Jvm.Free.XT.ii_ge_f q) q'
  · exact (ky q).of fun t q' => XS.icmpYes S.X.here S.ex rfl (pc0 := pc) rfl (S.hd hd) rfl (Jvm.Free.XT.ii_ge_t q) (off0 ht) (off1 ht) q'
theorem Go.lcmp_ge (S : St p l e R s m args below meth c Z own bytes nl ret nm h0 ws T h locs cells slots) {x y : Int64} {o : Int} {pt : Nat} {pc1 : Nat} (hd1 : decode bytes pc = .ok (.lcmp, 1)) (h1 : pc + 1 = pc1) (hd : decode bytes pc1 = .ok (.ifCond .ge o, 3)) (ht : (pc1 : Int) + o = (pt : Int)) (hf : pc1 + 3 = pc') (ky : ¬ x < y → Go p e below P T (mkF m pt Ls st)) (kn : x < y → Go p e below P T (mkF m pc' Ls st)) : Go p e below P T (mkF m pc Ls (.long y :: .long x :: st)) := by
  subst hf h1
  by_cases q : x < y
  · exact (kn q).of fun t q' => Jvm.Free.XT.lcmp S.X.here S.ex rfl (S.hd hd1) rfl (XS.ifNo S.X.here S.ex rfl (S.hd hd) rfl (Jvm.Free.XT.ll_ge_f q) q')
  · exact (ky q).of fun t q' => Jvm.Free.XT.lcmp S.X.here S.ex rfl (S.hd hd1) rfl (XS.ifYes S.X.here S.ex rfl (pc0 := pc + 1) rfl (S.hd hd) rfl (Jvm.Free.XT.ll_ge_t q) (off0 ht) (off1 ht) q')
theorem Go.if_gt (S : St p l e R s m args below meth c Z own bytes nl ret nm h0 ws T h locs cells slots) {x : Int32} {o : Int} {pt : Nat} (hd : decode bytes pc = .ok (.ifCond .gt o, 3)) (ht : (pc : Int) + o = (pt : Int)) (hf : pc + 3 = pc') (ky : 0 < x → Go p e below P T (mkF m pt Ls st)) (kn : ¬ 0 < x → Go p e below P T (mkF m pc' Ls st)) : Go p e below P T (mkF m pc Ls (.int x :: st)) := by
  subst hf
  by_cases q : 0 < x
  · exact (ky q).of fun t q' => XS.ifYes S.X.here S.ex rfl (pc0 := pc) rfl (S.hd hd) rfl (Jvm.Free.XT.i0_gt_t q) (off0 ht) (off1 ht) q'
  · exact (kn q).of fun t q' => XS.ifNo S.X.here S.ex rfl (S.hd hd) rfl (Jvm.Free.XT.i0_gt_f q) q'
theorem Go.icmp_gt (S : St p l e R s m args below meth c Z own bytes nl ret nm h0 ws T h locs cells slots) {x y : Int32} {o : Int} {pt : Nat} (hd : decode bytes pc = .ok (.if_icmp .gt o, 3)) (ht : (pc : Int) + o = (pt : Int)) (hf : pc + 3 = pc') (ky : y < x → Go p e below P T (mkF m pt Ls st)) (kn : ¬ y < x → Go p e below P T (mkF m pc' Ls st)) : Go p e below P T (mkF m pc Ls (.int y :: .int x :: st)) := by
  subst hf
  by_cases q : y < x
  · exact (ky q).of fun t q' => XS.icmpYes S.X.here S.ex rfl (pc0 := pc) rfl (S.hd hd) rfl (Jvm.Free.XT.ii_gt_t q) (off0 ht) (off1 ht) q'
  · exact (kn q).of fun t q' => XS.icmpNo S.X.here S.ex rfl (S.hd hd) rfl (Jvm.Free.XT.ii_gt_f q) q'
theorem Go.lcmp_gt (S : St p l e R s m args below meth c Z own bytes nl ret nm h0 ws T h locs cells slots) {x y : Int64} {o : Int} {pt : Nat} {pc1 : Nat} (hd1 : decode bytes pc = .ok (.lcmp, 1)) (h1 : pc + 1 = pc1) (hd : decode bytes pc1 = .ok (.ifCond .gt o, 3)) (ht : (pc1 : Int) + o = (pt : Int)) (hf : pc1 + 3 = pc') (ky : y < x → Go p e below P T (mkF m pt Ls st)) (kn : ¬ y < x → Go p e below P T (mkF m pc' Ls st)) : Go p e below P T (mkF m pc Ls (.long y :: .long x :: st)) := by
  subst hf h1
  by_cases q : y < x
  · exact (ky q).of fun t q' => Jvm.Free.XT.lcmp S.X.here S.ex rfl (S.hd hd1) rfl (XS.ifYes S.X.here S.ex rfl (pc0 := pc + 1) rfl (S.hd hd) rfl (Jvm.Free.XT.ll_gt_t q) (off0 ht) (off1 ht) q')
  · exact (kn q).of fun t q' => Jvm.Free.XT.lcmp S.X.here S.ex rfl (S.hd hd1) rfl (XS.ifNo S.X.here S.ex rfl (S.hd hd) rfl (Jvm.Free.XT.ll_gt_f q) q')
theorem Go.if_le (S : St p l e R s m args below meth c Z own bytes nl ret nm h0 ws T h locs cells slots) {x : Int32} {o : Int} {pt : Nat} (hd : decode bytes pc = .ok (.ifCond .le o, 3)) (ht : (pc : Int) + o = (pt : Int)) (hf : pc + 3 = pc') (ky : ¬ 0 < x → Go p e below P T (mkF m pt Ls st)) (kn : 0 < x → Go p e below P T (mkF m pc' Ls st)) : Go p e below P T (mkF m pc Ls (.int x :: st)) := by
  subst hf
  by_cases q : 0 < x
  · exact (kn q).of fun t q' => XS.ifNo S.X.here S.ex rfl (S.hd hd) rfl (Jvm.Free.XT.i0_le_f q) q'
  · exact (ky q).of fun t q' => XS.ifYes S.X.here S.ex rfl (pc0 := pc) rfl (S.hd hd) rfl (Jvm.Free.XT.i0_le_t q) (off0 ht) (off1 ht) q'
theorem Go.icmp_le (S : St p l e R s m args below meth c Z own bytes nl ret nm h0 ws T h locs cells slots) {x y : Int32} {o : Int} {pt : Nat} (hd : decode bytes pc = .ok (.if_icmp .le o, 3)) (ht : (pc : Int) + o = (pt : Int)) (hf : pc + 3 = pc') (ky : ¬ y < x → Go p e below P T (mkF m pt Ls st)) (kn : y < x → Go p e below P T (mkF m pc' Ls st)) : Go p e below P T (mkF m pc Ls (.int y :: .int x :: st)) := by
  subst hf
  by_cases q : y < x
  · exact (kn q).of fun t q' => XS.icmpNo S.X.here S.ex rfl (S.hd hd) rfl (Jvm.Free.XT.ii_le_f q) q'
  · exact (ky q).of fun t q' => XS.icmpYes S.X.here S.ex rfl (pc0 := pc) rfl (S.hd hd) rfl (Jvm.Free.XT.ii_le_t q) (off0 ht) (off1 ht) q'
theorem Go.lcmp_le (S : St p l e R s m args below meth c Z own bytes nl ret nm h0 ws T h locs cells slots) {x y : Int64} {o : Int} {pt : Nat} {pc1 : Nat} (hd1 : decode bytes pc = .ok (.lcmp, 1)) (h1 : pc + 1 = pc1) (hd : decode bytes pc1 = .ok (.ifCond .le o, 3)) (ht : (pc1 : Int) + o = (pt : Int)) (hf : pc1 + 3 = pc') (ky : ¬ y < x → Go p e below P T (mkF m pt Ls st)) (kn : y < x → Go p e below P T (mkF m pc' Ls st)) : Go p e below P T (mkF m pc Ls (.long y :: .long x :: st)) := by
  subst hf h1
  by_cases q : y < x
  · exact (kn q).of fun t q' => Jvm.Free.XT.lcmp S.X.here S.ex rfl (S.hd hd1) rfl (XS.ifNo S.X.here S.ex rfl (S.hd hd) rfl (Jvm.Free.XT.ll_le_f q) q')
  · exact (ky q).of fun t q' => Jvm.Free.XT.lcmp S.X.here S.ex rfl (S.hd hd1) rfl (XS.ifYes S.X.here S.ex rfl (pc0 := pc + 1) rfl (S.hd hd) rfl (Jvm.Free.XT.ll_le_t q) (off0 ht) (off1 ht) q')
theorem Go.acmp_eq (S : St p l e R s m args below meth c Z own bytes nl ret nm h0 ws T h locs cells slots) {x y : Value} {o : Int} {pt : Nat} (hd : decode bytes pc = .ok (.if_acmp .eq o, 3)) (ht : (pc : Int) + o = (pt : Int)) (hf : pc + 3 = pc') (rx : x.isRef = true) (ry : y.isRef = true) (ky : x = y → Go p e below P T (mkF m pt Ls st)) (kn : ¬ x = y → Go p e below P T (mkF m pc' Ls st)) : Go p e below P T (mkF m pc Ls (y :: x :: st)) := by
  subst hf
  by_cases q : x = y
  · exact (ky q).of fun t q' => Jvm.RoadKit.acmp (g := mkF m pc Ls (y :: x :: st)) S.X S.ex rfl rx ry (pc0 := pc) (same := true) rfl (S.hd hd) rfl (decide_eq_true q) (off0 ht) ((off1 ht).symm.trans (if_pos rfl).symm) q'
  · exact (kn q).of fun t q' => Jvm.RoadKit.acmp (g := mkF m pc Ls (y :: x :: st)) S.X S.ex rfl rx ry (pc0 := pc) (same := false) rfl (S.hd hd) rfl (decide_eq_false q) (off0 ht) ((if_neg (fun z => nomatch z)).symm) q'
theorem Go.acmp_ne (S : St p l e R s m args below meth c Z own bytes nl ret nm h0 ws T h locs cells slots) {x y : Value} {o : Int} {pt : Nat} (hd : decode bytes pc = .ok (.if_acmp .ne o, 3)) (ht : (pc : Int) + o = (pt : Int)) (hf : pc + 3 = pc') (rx : x.isRef = true) (ry : y.isRef = true) (ky : ¬ x = y → Go p e below P T (mkF m pt Ls st)) (kn : x = y → Go p e below P T (mkF m pc' Ls st)) : Go p e below P T (mkF m pc Ls (y :: x :: st)) := by
  subst hf
  by_cases q : x = y
  · exact (kn q).of fun t q' => Jvm.RoadKit.acmp (g := mkF m pc Ls (y :: x :: st)) S.X S.ex rfl rx ry (pc0 := pc) (same := true) rfl (S.hd hd) rfl (decide_eq_true q) (off0 ht) ((if_neg (fun z => nomatch z)).symm) q'
  · exact (ky q).of fun t q' => Jvm.RoadKit.acmp (g := mkF m pc Ls (y :: x :: st)) S.X S.ex rfl rx ry (pc0 := pc) (same := false) rfl (S.hd hd) rfl (decide_eq_false q) (off0 ht) ((off1 ht).symm.trans (if_pos rfl).symm) q'
theorem Go.ifnullY (S : St p l e R s m args below meth c Z own bytes nl ret nm h0 ws T h locs cells slots) {o : Int} {pt : Nat} (hd : decode bytes pc = .ok (.ifnull o, 3)) (ht : (pc : Int) + o = (pt : Int)) (k : Go p e below P T (mkF m pt Ls st)) : Go p e below P T (mkF m pc Ls (.null :: st)) :=
  k.of fun t q => XS.ifnullYes S.X.here S.ex rfl (pc0 := pc) rfl (S.hd hd) rfl (off0 ht) (off1 ht) q
theorem Go.ifnullN (S : St p l e R s m args below meth c Z own bytes nl ret nm h0 ws T h locs cells slots) {o : Int} {b : Addr} (hd : decode bytes pc = .ok (.ifnull o, 3)) (hf : pc + 3 = pc') (k : Go p e below P T (mkF m pc' Ls st)) : Go p e below P T (mkF m pc Ls (.ref b :: st)) := by
  subst hf
  exact k.of fun t q => XS.ifnullNo S.X.here S.ex rfl (S.hd hd) rfl q
theorem Go.ifnonnullY (S : St p l e R s m args below meth c Z own bytes nl ret nm h0 ws T h locs cells slots) {o : Int} {pt : Nat} {b : Addr} (hd : decode bytes pc = .ok (.ifnonnull o, 3)) (ht : (pc : Int) + o = (pt : Int)) (k : Go p e below P T (mkF m pt Ls st)) : Go p e below P T (mkF m pc Ls (.ref b :: st)) :=
  k.of fun t q => XS.ifnonnullYes S.X.here S.ex rfl (pc0 := pc) rfl (S.hd hd) rfl (off0 ht) (off1 ht) q
theorem Go.ifnonnullN (S : St p l e R s m args below meth c Z own bytes nl ret nm h0 ws T h locs cells slots) {o : Int} (hd : decode bytes pc = .ok (.ifnonnull o, 3)) (hf : pc + 3 = pc') (k : Go p e below P T (mkF m pc' Ls st)) : Go p e below P T (mkF m pc Ls (.null :: st)) := by
  subst hf
  exact k.of fun t q => XS.ifnonnullNo S.X.here S.ex rfl (S.hd hd) rfl q
theorem Go.ldc (S : St p l e R s m args below meth c Z own bytes nl ret nm h0 ws T h locs cells slots) {index : Nat} {v : Int32} (w : (Jvm.Cond.constant own index v).before a0 Z = true) (hd : decode bytes pc = .ok (.ldc index, 2)) (hp : pc + 2 = pc') (k : Go p e below P T (mkF m pc' Ls (.int v :: st))) : Go p e below P T (mkF m pc Ls st) := by
  subst hp
  exact k.of fun t q => S.X.ldcInt S.ex S.hown (mvT S.hZ w) (g := mkF m pc Ls st) rfl (S.hd hd) _ q
theorem Go.ldc2 (S : St p l e R s m args below meth c Z own bytes nl ret nm h0 ws T h locs cells slots) {index : Nat} {v : Int64} (w : (Jvm.Cond.constantLong own index v).before a0 Z = true) (hd : decode bytes pc = .ok (.ldc2_w index, 3)) (hp : pc + 3 = pc') (k : Go p e below P T (mkF m pc' Ls (.long v :: st))) : Go p e below P T (mkF m pc Ls st) := by
  subst hp
  exact k.of fun t q => S.X.ldc2Long S.ex S.hown (mvT S.hZ w) (g := mkF m pc Ls st) rfl (S.hd hd) _ q
theorem Go.leaves (S : St p l e R s m args below meth c Z own bytes nl ret nm h0 ws T h locs cells slots) {kc ks : Nat} {Q : Option Value → Heap → Prop} {g : JFrame} {v : Option Value} (hv : ret = none → v = none) (hc : cells ≤ kc) (hs : slots ≤ ks)
    (step : ∀ fs : List Frame, (∀ (f : JFrame) (acts : List Action), f.method = m → f.locked = none → f.entered = [] → (doReturn e (T.setTop f) acts v).1 = T.setFrames fs) → Steps p.tables e below (T.setTop g) (T.setFrames fs)) (q : Q v h) : Go p e below (PostOf Z s h0 ws kc ks Q) T g := by
  obtain ⟨fs, hr, hrun, hended, hW, hsame⟩ := S.X.leave (v := v) (fun q => hv (S.hret ▸ q)) S.locks
  refine ⟨_, _, step fs hr, hrun, hended, v, locs, rfl, ⟨S.fr, ?_, ?_, ?_⟩, ⟨_, rfl⟩, hW, hsame.mono hc hs⟩
  · show Keep h0 T.heap ws
    rw [S.eT]; exact S.keep
  · show Ext Z.heap T.heap
    rw [S.eT]; exact S.ext
  · show Q v T.heap
    rw [S.eT]; exact q
theorem St.leaves0 (S : St p l e R s m args below meth c Z own bytes nl ret nm h0 ws T h locs cells slots) {kc ks : Nat} {Q : Option Value → Heap → Prop} {g : JFrame} {w : Value} {t : FieldType} (hret : ret = some t) (hc : cells ≤ kc) (hs : slots ≤ ks) (q : Q (some w) h)
    (step : ∀ fs : List Frame, (∀ (f : JFrame) (acts : List Action), f.method = m → f.locked = none → f.entered = [] → (doReturn e (T.setTop f) acts (some w)).1 = T.setFrames fs) → Steps p.tables e below (T.setTop g) (T.setFrames fs)) : Go p e below (PostOf Z s h0 ws kc ks Q) T g :=
  Go.leaves S (fun q => by rw [hret] at q; cases q) hc hs step q
theorem narrow_ref {t : FieldType} {w : Value} (ht : t.isReference = true) (hw : w.isRef = true) : narrow t w = w := by
  rcases ref_cases hw with rfl | ⟨a, rfl⟩ <;> cases t <;> rfl
theorem Go.ireturn (S : St p l e R s m args below meth c Z own bytes nl ret nm h0 ws T h locs cells slots) {kc ks : Nat} {Q : Option Value → Heap → Prop} {z : Int32} (hret : ret = some .int) (hd : decode bytes pc = .ok (.ireturn, 1)) (hc : cells ≤ kc) (hs : slots ≤ ks) (q : Q (some (.int z)) h) : Go p e below (PostOf Z s h0 ws kc ks Q) T (mkF m pc Ls (.int z :: st)) :=
  S.leaves0 hret hc hs q fun fs hr => retOut S.X S.ex (t := .int) (i := .ireturn) (S.hret.trans hret) rfl (Or.inl ⟨rfl, Or.inl rfl, z, rfl⟩) (S.hd hd) hr
theorem Go.lreturn (S : St p l e R s m args below meth c Z own bytes nl ret nm h0 ws T h locs cells slots) {kc ks : Nat} {Q : Option Value → Heap → Prop} {z : Int64} (hret : ret = some .long) (hd : decode bytes pc = .ok (.lreturn, 1)) (hc : cells ≤ kc) (hs : slots ≤ ks) (q : Q (some (.long z)) h) : Go p e below (PostOf Z s h0 ws kc ks Q) T (mkF m pc Ls (.long z :: st)) :=
  S.leaves0 hret hc hs q fun fs hr => retOut S.X S.ex (t := .long) (i := .lreturn) (S.hret.trans hret) rfl (Or.inr (Or.inl ⟨rfl, rfl, z, rfl⟩)) (S.hd hd) hr
theorem Go.areturn (S : St p l e R s m args below meth c Z own bytes nl ret nm h0 ws T h locs cells slots) {kc ks : Nat} {Q : Option Value → Heap → Prop} {w : Value} {t : FieldType} (hret : ret = some t) (ht : t.isReference = true) (hw : w.isRef = true) (hd : decode bytes pc = .ok (.areturn, 1)) (hc : cells ≤ kc) (hs : slots ≤ ks) (q : Q (some w) h) : Go p e below (PostOf Z s h0 ws kc ks Q) T (mkF m pc Ls (w :: st)) :=
  S.leaves0 hret hc hs q fun fs hr => retOut S.X S.ex (i := .areturn) (S.hret.trans hret) (narrow_ref ht hw) (Or.inr (Or.inr (Or.inr (Or.inr ⟨rfl, ht, hw⟩)))) (S.hd hd) hr
theorem Go.zreturn (S : St p l e R s m args below meth c Z own bytes nl ret nm h0 ws T h locs cells slots) {kc ks : Nat} {Q : Option Value → Heap → Prop} {z z' : Int32} {t : FieldType} (hret : ret = some t) (ht : t = .boolean ∨ t = .byte ∨ t = .char ∨ t = .short) (hd : decode bytes pc = .ok (.ireturn, 1)) (hz : nar t z = z') (hc : cells ≤ kc) (hs : slots ≤ ks) (q : Q (some (.int z')) h) : Go p e below (PostOf Z s h0 ws kc ks Q) T (mkF m pc Ls (.int z :: st)) := by
  subst hz
  exact S.leaves0 hret hc hs q fun fs hr => retN S.X S.ex (S.hret.trans hret) ht (S.hd hd) hr
theorem Go.vreturn (S : St p l e R s m args below meth c Z own bytes nl ret nm h0 ws T h locs cells slots) {kc ks : Nat} {Q : Option Value → Heap → Prop} (hret : ret = none) (hd : decode bytes pc = .ok (.return_, 1)) (hc : cells ≤ kc) (hs : slots ≤ ks) (q : Q none h) : Go p e below (PostOf Z s h0 ws kc ks Q) T (mkF m pc Ls []) :=
  Go.leaves S (fun _ => rfl) hc hs (fun fs hr => S.X.returnOut S.ex (S.hret.trans hret) (S.hd hd) hr) q
theorem Go.getfield (S : St p l e R s m args below meth c Z own bytes nl ret nm h0 ws T h locs cells slots) {R0 O n d host : String} {index : Nat} {a : Addr} {v : Value} (w : ((Jvm.Cond.fieldLink own index R0 n d).before a0 Z = true ∨ (Jvm.Cond.fieldLinkNest own index R0 n d host).before a0 Z = true)) (via : Via Z R0 O n d) (F : Fld Z h a O n d v) (hd : decode bytes pc = .ok (.getfield index, 3)) (hp : pc + 3 = pc')
    (k : ∀ T', St p l e R s m args below meth c Z own bytes nl ret nm h0 ws T' h locs cells slots → Go p e below P T' (mkF m pc' Ls (v :: st))) : Go p e below P T (mkF m pc Ls (.ref a :: st)) := by
  subst hp
  obtain ⟨T', X', e', f⟩ := getF S.X S.ex S.hZ S.hown w via S.eT F (g := mkF m pc Ls (.ref a :: st)) rfl rfl (S.hd hd)
  exact (k T' (S.next X' e' S.fr S.keep S.ext)).of f
theorem Go.getstatic (S : St p l e R s m args below meth c Z own bytes nl ret nm h0 ws T h locs cells slots) {R0 O n d host : String} {index : Nat} {v : Value} (w : ((Jvm.Cond.fieldLink own index R0 n d).before a0 Z = true ∨ (Jvm.Cond.fieldLinkNest own index R0 n d host).before a0 Z = true)) (via : Via Z R0 O n d) (F : Sta Z Z.heap O n d v) (hd : decode bytes pc = .ok (.getstatic index, 3)) (hp : pc + 3 = pc')
    (k : ∀ T', St p l e R s m args below meth c Z own bytes nl ret nm h0 ws T' h locs cells slots → Go p e below P T' (mkF m pc' Ls (v :: st))) : Go p e below P T (mkF m pc Ls st) := by
  subst hp
  obtain ⟨T', X', e', f⟩ := getS2 S.X S.ex S.hZ S.hown w via S.eT (F.ext S.ext) (g := mkF m pc Ls st) rfl (S.hd hd)
  exact (k T' (S.next X' e' S.fr S.keep S.ext)).of f
theorem St.wrote (S : St p l e R s m args below meth c Z own bytes nl ret nm h0 ws T h locs cells slots) {T' : State} {h' : Heap} {a : Addr} {sl : Nat} {v : Value} (X : Stand p l e R s m args below meth c T' (locs ++ [⟨a, sl⟩]) cells slots) (e1 : T'.heap = h') (W : Wr h h' a sl v) (hz : Z.heap.size ≤ a) (hws : a ∈ ws ∨ h0.size ≤ a) : St p l e R s m args below meth c Z own bytes nl ret nm h0 ws T' h' (locs ++ [⟨a, sl⟩]) cells slots :=
  S.next X e1 (Fr.snoc X S.fr hz) (S.keep.wr W hws) (Old.wr (n0 := Z.heap.size) ⟨rfl, S.ext⟩ W hz).2
theorem Go.putfield (S : St p l e R s m args below meth c Z own bytes nl ret nm h0 ws T h locs cells slots) {R0 O n d host C : String} {index kk : Nat} {ty : FieldType} {a : Addr} {v old : Value} (w : ((Jvm.Cond.fieldLink own index R0 n d).before a0 Z = true ∨ (Jvm.Cond.fieldLinkNest own index R0 n d host).before a0 Z = true)) (via : Via Z R0 O n d) (F : Fld Z h a O n d old) (E : Exa Z h a C)
    (L : (Jvm.Cond.lays C O n d).before a0 Z = true ∨ ((Jvm.Cond.laysFinal C O n d).before a0 Z = true ∧ own = O ∧ nm = "<init>")) (wi : (Jvm.Cond.instantiable C kk).before a0 Z = true) (hty : parseFieldDescriptor d = some ty) (hn : narrow ty v = v) (hf : fits ty v = true)
    (hz : Z.heap.size ≤ a) (hws : a ∈ ws ∨ h0.size ≤ a) (hd : decode bytes pc = .ok (.putfield index, 3)) (hp : pc + 3 = pc')
    (k : ∀ T' h' locs', St p l e R s m args below meth c Z own bytes nl ret nm h0 ws T' h' locs' cells slots → Wr h h' a (Jvm.RoadKit.slotOf Z O n d) v → Go p e below P T' (mkF m pc' Ls st)) : Go p e below P T (mkF m pc Ls (v :: .ref a :: st)) := by
  subst hp
  obtain ⟨T', h', X', e', W, f⟩ := putF S.X S.ex S.hZ S.hown w via S.eT F E (L.imp id fun q => ⟨q.1, q.2.1, S.hnm.trans q.2.2⟩) wi hty hn hf (g := mkF m pc Ls (v :: .ref a :: st)) rfl rfl (S.hd hd)
  exact (k T' h' _ (S.wrote X' e' W hz hws) W).of f
theorem Go.putfieldN (S : St p l e R s m args below meth c Z own bytes nl ret nm h0 ws T h locs cells slots) {R0 O n d C : String} {index kk : Nat} {ty : FieldType} {a : Addr} {v v' old : Value} (w : (Jvm.Cond.fieldLink own index R0 n d).before a0 Z = true) (via : Via Z R0 O n d) (F : Fld Z h a O n d old) (E : Exa Z h a C)
    (L : (Jvm.Cond.lays C O n d).before a0 Z = true ∨ ((Jvm.Cond.laysFinal C O n d).before a0 Z = true ∧ own = O ∧ nm = "<init>")) (wi : (Jvm.Cond.instantiable C kk).before a0 Z = true) (hty : parseFieldDescriptor d = some ty) (hn : narrow ty v = v') (hf : fits ty v' = true)
    (hz : Z.heap.size ≤ a) (hws : a ∈ ws ∨ h0.size ≤ a) (hd : decode bytes pc = .ok (.putfield index, 3)) (hp : pc + 3 = pc')
    (k : ∀ T' h' locs', St p l e R s m args below meth c Z own bytes nl ret nm h0 ws T' h' locs' cells slots → Wr h h' a (Jvm.RoadKit.slotOf Z O n d) v' → Go p e below P T' (mkF m pc' Ls st)) : Go p e below P T (mkF m pc Ls (v :: .ref a :: st)) := by
  subst hp
  obtain ⟨T', h', X', e', W, f⟩ := putFN S.X S.ex S.hZ S.hown w via S.eT F E (L.imp id fun q => ⟨q.1, q.2.1, S.hnm.trans q.2.2⟩) wi hty hn hf (g := mkF m pc Ls (v :: .ref a :: st)) rfl rfl (S.hd hd)
  exact (k T' h' _ (S.wrote X' e' W hz hws) W).of f
theorem St.made (S : St p l e R s m args below meth c Z own bytes nl ret nm h0 ws T h locs cells slots) {T' : State} {h' : Heap} {cells' slots' : Nat} (X : Stand p l e R s m args below meth c T' locs cells' slots') (e1 : T'.heap = h') (E : Ext h h') : St p l e R s m args below meth c Z own bytes nl ret nm h0 ws T' h' locs cells' slots' :=
  S.next X e1 S.fr (S.keep.ext E) (Old.ext (n0 := Z.heap.size) ⟨rfl, S.ext⟩ E).2
theorem Go.new (S : St p l e R s m args below meth c Z own bytes nl ret nm h0 ws T h locs cells slots) {C : String} {index n : Nat} (w : (Jvm.Cond.classLink own index C).before a0 Z = true) (wi : (Jvm.Cond.instantiable C n).before a0 Z = true) (wz : (Jvm.Cond.initialized C).before a0 Z = true) (hd : decode bytes pc = .ok (.new index, 3)) (hc : cells + 1 ≤ R.cells) (hl : slots + n ≤ R.slots) (hp : pc + 3 = pc')
    (k : ∀ T' h' a, St p l e R s m args below meth c Z own bytes nl ret nm h0 ws T' h' locs (cells + 1) (slots + n) → Ext h h' → h.size = a → Z.heap.size ≤ a → h0.size ≤ a → Exa Z h' a C → (∀ {O nm d : String} {ty : FieldType}, Laid Z a0 C O nm d → parseFieldDescriptor d = some ty → Fld Z h' a O nm d (defaultValue ty)) → Go p e below P T' (mkF m pc' Ls (.ref a :: st))) : Go p e below P T (mkF m pc Ls st) := by
  subst hp
  obtain ⟨T', h', X', e', E, A, D, -, f⟩ := newO S.X S.ex S.hZ S.hown w wi wz S.eT (g := mkF m pc Ls st) rfl (S.hd hd) hc hl
  exact (k T' h' h.size (S.made X' e' E) E rfl S.ext.1 S.keep.1 A D).of f
theorem Go.newarray (S : St p l e R s m args below meth c Z own bytes nl ret nm h0 ws T h locs cells slots) {aty : ArrayType} {n : Int32} {cap : Nat} {ty : FieldType} {dv : Value} (hty : newarray.typeOf aty = ty) (hdv : defaultValue ty = dv) (w : (Jvm.Cond.arrayClass ty).before a0 Z = true) (hd : decode bytes pc = .ok (.newarray aty, 2)) (hn : ¬ n < 0) (hcap : n.toNatClampNeg ≤ cap) (hb : cap * 8 ≤ 536870912) (hc : cells + 1 ≤ R.cells) (hl : slots + cap ≤ R.slots) (hp : pc + 2 = pc')
    (k : ∀ T' h' a cA, St p l e R s m args below meth c Z own bytes nl ret nm h0 ws T' h' locs (cells + 1) (slots + cap) → Ext h h' → h.size = a → Z.heap.size ≤ a → h0.size ≤ a → Arv Z h' a cA ty n (List.replicate cap dv) dv → Go p e below P T' (mkF m pc' Ls (.ref a :: st))) : Go p e below P T (mkF m pc Ls (.int n :: st)) := by
  subst hp hty hdv
  obtain ⟨T', h', cA, X', e', E, A, f⟩ := newP S.X S.ex S.hZ w S.eT (g := mkF m pc Ls (.int n :: st)) rfl (S.hd hd) rfl hn hcap hb hc hl
  exact (k T' h' h.size cA (S.made X' e' E) E rfl S.ext.1 S.keep.1 ((Arv.new A hn).pad (pad_rep [] _ cap))).of f
theorem Go.anewarray (S : St p l e R s m args below meth c Z own bytes nl ret nm h0 ws T h locs cells slots) {C : String} {index : Nat} {n : Int32} {cap : Nat} (w1 : (Jvm.Cond.classLink own index C).before a0 Z = true) (w2 : (Jvm.Cond.arrayOver (.object C)).before a0 Z = true) (hd : decode bytes pc = .ok (.anewarray index, 3)) (hn : ¬ n < 0) (hcap : n.toNatClampNeg ≤ cap) (hb : cap * 8 ≤ 536870912) (hc : cells + 1 ≤ R.cells) (hl : slots + cap ≤ R.slots) (hp : pc + 3 = pc')
    (k : ∀ T' h' a cA, St p l e R s m args below meth c Z own bytes nl ret nm h0 ws T' h' locs (cells + 1) (slots + cap) → Ext h h' → h.size = a → Z.heap.size ≤ a → h0.size ≤ a → Arv Z h' a cA (.object C) n (List.replicate cap .null) .null → Ovr Z cA C → Go p e below P T' (mkF m pc' Ls (.ref a :: st))) : Go p e below P T (mkF m pc Ls (.int n :: st)) := by
  subst hp
  obtain ⟨T', h', cA, X', e', E, A, O, f⟩ := newR S.X S.ex S.hZ S.hown w1 w2 S.eT (g := mkF m pc Ls (.int n :: st)) rfl (S.hd hd) rfl hn hcap hb hc hl
  exact (k T' h' h.size cA (S.made X' e' E) E rfl S.ext.1 S.keep.1 ((Arv.new A hn).pad (pad_rep [] _ cap)) O).of f
theorem Go.iastore (S : St p l e R s m args below meth c Z own bytes nl ret nm h0 ws T h locs cells slots) {a : Addr} {kA : ClassId} {n j : Int32} {x : Int32} {vs : List Value} {dv : Value} {i : Nat} (V : Arv Z h a kA .int n vs dv) (hj : ¬ j < 0 ∧ j < n) (hi : j.toNatClampNeg = i) (hl : i < vs.length) (hz : Z.heap.size ≤ a) (hws : a ∈ ws ∨ h0.size ≤ a) (hd : decode bytes pc = .ok (.iastore, 1)) (hp : pc + 1 = pc')
    (k : ∀ T' h' locs', St p l e R s m args below meth c Z own bytes nl ret nm h0 ws T' h' locs' cells slots → Wr h h' a j.toNatClampNeg (.int x) → Arv Z h' a kA .int n (vs.set i (.int x)) dv → Go p e below P T' (mkF m pc' Ls st)) : Go p e below P T (mkF m pc Ls (.int x :: .int j :: .ref a :: st)) := by
  subst hp
  obtain ⟨cl, A, q1, q2, q3, H, F⟩ := V
  obtain ⟨T', h', X', e', W, f⟩ := stI S.X S.ex S.hZ S.eT A (j := j) (x := x) (inb_of q2 hj) (g := mkF m pc Ls (.int x :: .int j :: .ref a :: st)) rfl rfl (S.hd hd)
  exact (k T' h' _ (S.wrote X' e' W hz hws) W (Arv.set A q1 q2 q3 H F rfl W i hi hl)).of f
theorem Go.castore (S : St p l e R s m args below meth c Z own bytes nl ret nm h0 ws T h locs cells slots) {a : Addr} {kA : ClassId} {n j : Int32} {x : Int32} {vs : List Value} {dv : Value} {i : Nat} (V : Arv Z h a kA .char n vs dv) (hj : ¬ j < 0 ∧ j < n) (hi : j.toNatClampNeg = i) (hl : i < vs.length) (hz : Z.heap.size ≤ a) (hws : a ∈ ws ∨ h0.size ≤ a) (hd : decode bytes pc = .ok (.castore, 1)) (hp : pc + 1 = pc')
    (k : ∀ T' h' locs', St p l e R s m args below meth c Z own bytes nl ret nm h0 ws T' h' locs' cells slots → Wr h h' a j.toNatClampNeg (.int (nar .char x)) → Arv Z h' a kA .char n (vs.set i (.int (nar .char x))) dv → Go p e below P T' (mkF m pc' Ls st)) : Go p e below P T (mkF m pc Ls (.int x :: .int j :: .ref a :: st)) := by
  subst hp
  obtain ⟨cl, A, q1, q2, q3, H, F⟩ := V
  obtain ⟨T', h', X', e', W, f⟩ := stC S.X S.ex S.hZ S.eT A (j := j) (x := x) (inb_of q2 hj) (g := mkF m pc Ls (.int x :: .int j :: .ref a :: st)) rfl rfl (S.hd hd)
  exact (k T' h' _ (S.wrote X' e' W hz hws) W (Arv.set A q1 q2 q3 H F (fits_nar_char _) W i hi hl)).of f
theorem Go.bastore (S : St p l e R s m args below meth c Z own bytes nl ret nm h0 ws T h locs cells slots) {a : Addr} {kA : ClassId} {n j : Int32} {x : Int32} {vs : List Value} {dv : Value} {i : Nat} (V : Arv Z h a kA .byte n vs dv) (hj : ¬ j < 0 ∧ j < n) (hi : j.toNatClampNeg = i) (hl : i < vs.length) (hz : Z.heap.size ≤ a) (hws : a ∈ ws ∨ h0.size ≤ a) (hd : decode bytes pc = .ok (.bastore, 1)) (hp : pc + 1 = pc')
    (k : ∀ T' h' locs', St p l e R s m args below meth c Z own bytes nl ret nm h0 ws T' h' locs' cells slots → Wr h h' a j.toNatClampNeg (.int (nar .byte x)) → Arv Z h' a kA .byte n (vs.set i (.int (nar .byte x))) dv → Go p e below P T' (mkF m pc' Ls st)) : Go p e below P T (mkF m pc Ls (.int x :: .int j :: .ref a :: st)) := by
  subst hp
  obtain ⟨cl, A, q1, q2, q3, H, F⟩ := V
  obtain ⟨T', h', X', e', W, f⟩ := stB S.X S.ex S.hZ S.eT A (j := j) (x := x) (inb_of q2 hj) (g := mkF m pc Ls (.int x :: .int j :: .ref a :: st)) rfl rfl (S.hd hd)
  exact (k T' h' _ (S.wrote X' e' W hz hws) W (Arv.set A q1 q2 q3 H F (fits_nar_byte _) W i hi hl)).of f
theorem Go.lastore (S : St p l e R s m args below meth c Z own bytes nl ret nm h0 ws T h locs cells slots) {a : Addr} {kA : ClassId} {n j : Int32} {x : Int64} {vs : List Value} {dv : Value} {i : Nat} (V : Arv Z h a kA .long n vs dv) (hj : ¬ j < 0 ∧ j < n) (hi : j.toNatClampNeg = i) (hl : i < vs.length) (hz : Z.heap.size ≤ a) (hws : a ∈ ws ∨ h0.size ≤ a) (hd : decode bytes pc = .ok (.lastore, 1)) (hp : pc + 1 = pc')
    (k : ∀ T' h' locs', St p l e R s m args below meth c Z own bytes nl ret nm h0 ws T' h' locs' cells slots → Wr h h' a j.toNatClampNeg (.long x) → Arv Z h' a kA .long n (vs.set i (.long x)) dv → Go p e below P T' (mkF m pc' Ls st)) : Go p e below P T (mkF m pc Ls (.long x :: .int j :: .ref a :: st)) := by
  subst hp
  obtain ⟨cl, A, q1, q2, q3, H, F⟩ := V
  obtain ⟨T', h', X', e', W, f⟩ := stJ S.X S.ex S.hZ S.eT A (j := j) (x := x) (inb_of q2 hj) (g := mkF m pc Ls (.long x :: .int j :: .ref a :: st)) rfl rfl (S.hd hd)
  exact (k T' h' _ (S.wrote X' e' W hz hws) W (Arv.set A q1 q2 q3 H F rfl W i hi hl)).of f
theorem Go.aastore (S : St p l e R s m args below meth c Z own bytes nl ret nm h0 ws T h locs cells slots) {a : Addr} {kA : ClassId} {ty : FieldType} {n j : Int32} {v : Value} {vs : List Value} {dv : Value} {i : Nat} (V : Arv Z h a kA ty n vs dv) (hty : ty.isReference = true) (hj : ¬ j < 0 ∧ j < n) (hi : j.toNatClampNeg = i) (hl : i < vs.length) (hfit : fits ty v = true) (F : Sto Z h a v) (hz : Z.heap.size ≤ a) (hws : a ∈ ws ∨ h0.size ≤ a) (hd : decode bytes pc = .ok (.aastore, 1)) (hp : pc + 1 = pc')
    (k : ∀ T' h' locs', St p l e R s m args below meth c Z own bytes nl ret nm h0 ws T' h' locs' cells slots → Wr h h' a j.toNatClampNeg v → Arv Z h' a kA ty n (vs.set i v) dv → Go p e below P T' (mkF m pc' Ls st)) : Go p e below P T (mkF m pc Ls (v :: .int j :: .ref a :: st)) := by
  subst hp
  obtain ⟨cl, A, q1, q2, q3, H, F'⟩ := V
  obtain ⟨T', h', X', e', W, f⟩ := stR S.X S.ex S.hZ S.eT A (j := j) (v := v) (inb_of q2 hj) hty F (g := mkF m pc Ls (v :: .int j :: .ref a :: st)) rfl rfl (S.hd hd)
  exact (k T' h' _ (S.wrote X' e' W hz hws) W (Arv.set A q1 q2 q3 H F' hfit W i hi hl)).of f
theorem Go.iaload (S : St p l e R s m args below meth c Z own bytes nl ret nm h0 ws T h locs cells slots) {a : Addr} {kA : ClassId} {n j : Int32} {v : Value} {vs : List Value} {dv : Value} (V : Arv Z h a kA .int n vs dv) (hj : ¬ j < 0 ∧ j < n) (hv : vs.getD j.toNatClampNeg dv = v) (hd : decode bytes pc = .ok (.iaload, 1)) (hp : pc + 1 = pc') (k : Go p e below P T (mkF m pc' Ls (v :: st))) : Go p e below P T (mkF m pc Ls (.int j :: .ref a :: st)) := by
  subst hp
  obtain ⟨cl, A, q1, q2, q3, H, F⟩ := V
  exact k.of fun t q => S.X.iaload S.ex (j := j) (v := v) (by rw [S.eT]; exact A.1) (State.isArrayOf_alike S.hZ.alike A.2.1) A.2.2 (inb_of q2 hj) (H.at (inb_of q2 hj) hv) (g := mkF m pc Ls (.int j :: .ref a :: st)) rfl rfl (S.hd hd) _ q
theorem Go.laload (S : St p l e R s m args below meth c Z own bytes nl ret nm h0 ws T h locs cells slots) {a : Addr} {kA : ClassId} {n j : Int32} {v : Value} {vs : List Value} {dv : Value} (V : Arv Z h a kA .long n vs dv) (hj : ¬ j < 0 ∧ j < n) (hv : vs.getD j.toNatClampNeg dv = v) (hd : decode bytes pc = .ok (.laload, 1)) (hp : pc + 1 = pc') (k : Go p e below P T (mkF m pc' Ls (v :: st))) : Go p e below P T (mkF m pc Ls (.int j :: .ref a :: st)) := by
  subst hp
  obtain ⟨cl, A, q1, q2, q3, H, F⟩ := V
  exact k.of fun t q => S.X.laload S.ex (j := j) (v := v) (by rw [S.eT]; exact A.1) (State.isArrayOf_alike S.hZ.alike A.2.1) A.2.2 (inb_of q2 hj) (H.at (inb_of q2 hj) hv) (g := mkF m pc Ls (.int j :: .ref a :: st)) rfl rfl (S.hd hd) _ q
theorem Go.caload (S : St p l e R s m args below meth c Z own bytes nl ret nm h0 ws T h locs cells slots) {a : Addr} {kA : ClassId} {n j : Int32} {v : Value} {vs : List Value} {dv : Value} (V : Arv Z h a kA .char n vs dv) (hj : ¬ j < 0 ∧ j < n) (hv : vs.getD j.toNatClampNeg dv = v) (hd : decode bytes pc = .ok (.caload, 1)) (hp : pc + 1 = pc') (k : Go p e below P T (mkF m pc' Ls (v :: st))) : Go p e below P T (mkF m pc Ls (.int j :: .ref a :: st)) := by
  subst hp
  obtain ⟨cl, A, q1, q2, q3, H, F⟩ := V
  exact k.of fun t q => S.X.caload S.ex (j := j) (v := v) (by rw [S.eT]; exact A.1) (State.isArrayOf_alike S.hZ.alike A.2.1) A.2.2 (inb_of q2 hj) (H.at (inb_of q2 hj) hv) (g := mkF m pc Ls (.int j :: .ref a :: st)) rfl rfl (S.hd hd) _ q
theorem Go.baload (S : St p l e R s m args below meth c Z own bytes nl ret nm h0 ws T h locs cells slots) {a : Addr} {kA : ClassId} {n j : Int32} {v : Value} {vs : List Value} {dv : Value} (V : Arv Z h a kA .byte n vs dv) (hj : ¬ j < 0 ∧ j < n) (hv : vs.getD j.toNatClampNeg dv = v) (hd : decode bytes pc = .ok (.baload, 1)) (hp : pc + 1 = pc') (k : Go p e below P T (mkF m pc' Ls (v :: st))) : Go p e below P T (mkF m pc Ls (.int j :: .ref a :: st)) := by
  subst hp
  obtain ⟨cl, A, q1, q2, q3, H, F⟩ := V
  exact k.of fun t q => S.X.baloadBytes S.ex (j := j) (v := v) (by rw [S.eT]; exact A.1) (State.isArrayOf_alike S.hZ.alike A.2.1) A.2.2 (inb_of q2 hj) (H.at (inb_of q2 hj) hv) (g := mkF m pc Ls (.int j :: .ref a :: st)) rfl rfl (S.hd hd) _ q
theorem Go.aaload (S : St p l e R s m args below meth c Z own bytes nl ret nm h0 ws T h locs cells slots) {a : Addr} {kA : ClassId} {ty : FieldType} {n j : Int32} {v : Value} {vs : List Value} {dv : Value} (V : Arv Z h a kA ty n vs dv) (hty : ty.isReference = true) (hj : ¬ j < 0 ∧ j < n) (hv : vs.getD j.toNatClampNeg dv = v) (hd : decode bytes pc = .ok (.aaload, 1)) (hp : pc + 1 = pc') (k : Go p e below P T (mkF m pc' Ls (v :: st))) : Go p e below P T (mkF m pc Ls (.int j :: .ref a :: st)) := by
  subst hp
  obtain ⟨cl, A, q1, q2, q3, H, F⟩ := V
  exact k.of fun t q => S.X.aaload S.ex (j := j) (v := v) (by rw [S.eT]; exact A.1) (State.isArrayOf_alike S.hZ.alike A.2.1) hty A.2.2 (inb_of q2 hj) (H.at (inb_of q2 hj) hv) (g := mkF m pc Ls (.int j :: .ref a :: st)) rfl rfl (S.hd hd) _ q
theorem Go.arraylength (S : St p l e R s m args below meth c Z own bytes nl ret nm h0 ws T h locs cells slots) {a : Addr} {kA : ClassId} {ty : FieldType} {n : Int32} {vs : List Value} {dv : Value} (V : Arv Z h a kA ty n vs dv) (hd : decode bytes pc = .ok (.arraylength, 1)) (hp : pc + 1 = pc') (k : Go p e below P T (mkF m pc' Ls (.int n :: st))) : Go p e below P T (mkF m pc Ls (.ref a :: st)) := by
  subst hp
  obtain ⟨cl, A, q1, q2, q3, H, F⟩ := V
  exact k.of fun t q => S.X.arraylength S.ex (by rw [S.eT]; exact A.1) (State.isArrayOf_alike S.hZ.alike A.2.1) (g := mkF m pc Ls (.ref a :: st)) rfl rfl (S.hd hd) _ (by rw [len_of q2 q3]; exact q)
theorem Go.initObject (S : St p l e R s m args below meth c Z own bytes nl ret nm h0 ws T h locs cells slots) {idx : Nat} {a : Addr} {W : Nat} (w1 : (Jvm.Cond.methodLink own idx Lib.objectInit).before a0 Z = true) (w2 : (Jvm.Cond.instanceMethod Lib.objectInit).before a0 Z = true) (w3 : (Jvm.Cond.code Lib.objectInit ⟨#[0xb1]⟩ 1 none).before a0 Z = true) (hd : decode bytes pc = .ok (.invokespecial idx, 3)) (hsz : Ls.size = nl) (hf : 1 ≤ R.frames) (hW : (st.map fun v => v.category).sum = W) (hl : W + 12 ≤ R.locals) (hp : pc + 3 = pc')
    (k : ∀ T', St p l e R s m args below meth c Z own bytes nl ret nm h0 ws T' h locs cells slots → Go p e below P T' (mkF m pc' Ls st)) : Go p e below P T (mkF m pc Ls (.ref a :: st)) := by
  subst hp
  obtain ⟨T', X', e', f⟩ := initO S.X S.ex S.hZ S.hown w1 w2 w3 S.eT (g := mkF m pc Ls (.ref a :: st)) rfl (hsz.trans S.hnl.symm) rfl (S.hd hd) hf (W := W) (by show 2 * 0 + _ ≤ _; rw [hW]; omega) hl
  exact (k T' (S.next X' e' S.fr S.keep S.ext)).of f
theorem Go.checkcast (S : St p l e R s m args below meth c Z own bytes nl ret nm h0 ws T h locs cells slots) {C : String} {index : Nat} {a : Addr} (w : (Jvm.Cond.classLink own index C).before a0 Z = true) (F : Ins Z h a C true) (hd : decode bytes pc = .ok (.checkcast index, 3)) (hp : pc + 3 = pc')
    (k : ∀ T', St p l e R s m args below meth c Z own bytes nl ret nm h0 ws T' h locs cells slots → Go p e below P T' (mkF m pc' Ls (.ref a :: st))) : Go p e below P T (mkF m pc Ls (.ref a :: st)) := by
  subst hp
  obtain ⟨T', X', e', f⟩ := castY S.X S.ex S.hZ S.hown w S.eT F (g := mkF m pc Ls (.ref a :: st)) rfl rfl (S.hd hd)
  exact (k T' (S.next X' e' S.fr S.keep S.ext)).of f
theorem Go.instanceofY (S : St p l e R s m args below meth c Z own bytes nl ret nm h0 ws T h locs cells slots) {C : String} {index : Nat} {a : Addr} (w : (Jvm.Cond.classLink own index C).before a0 Z = true) (F : Ins Z h a C true) (hd : decode bytes pc = .ok (.instanceof index, 3)) (hp : pc + 3 = pc')
    (k : ∀ T', St p l e R s m args below meth c Z own bytes nl ret nm h0 ws T' h locs cells slots → Go p e below P T' (mkF m pc' Ls (.int 1 :: st))) : Go p e below P T (mkF m pc Ls (.ref a :: st)) := by
  subst hp
  obtain ⟨T', X', e', f⟩ := instY S.X S.ex S.hZ S.hown w S.eT F (g := mkF m pc Ls (.ref a :: st)) rfl rfl (S.hd hd)
  exact (k T' (S.next X' e' S.fr S.keep S.ext)).of f
theorem Go.invokestatic (S : St p l e R s m args below meth c Z own bytes nl ret nm h0 ws T h locs cells slots) {y : MethodName} {bytes' : ByteArray} {nl' : Nat} {ret' : Option FieldType} {rm : Room} {as' : Array Value} {ws' : List Addr} {Q' : Option Value → Heap → Prop} {index W : Nat} {ps : List FieldType} {r : Option FieldType} {argsL : List Value} (M : OMeets l Z y bytes' nl' ret' rm as' h ws' Q') (w1 : (Jvm.Cond.methodLink own index y).before a0 Z = true) (w2 : (Jvm.Cond.static y).before a0 Z = true) (w3 : (Jvm.Cond.initialized y.cls).before a0 Z = true) (w4 : (Jvm.Cond.code y bytes' nl' ret').before a0 Z = true) (hy : y.cls ≠ "java/lang/invoke/MethodHandle" ∧ y.cls ≠ "java/lang/invoke/VarHandle") (hd : decode bytes pc = .ok (.invokestatic index, 3)) (hsz : Ls.size = nl) (hlen : parseMethodDescriptor y.desc = some ⟨ps, r⟩) (hn : argsL.length = ps.length) (has : argsL.toArray = as') {stk : List Value} (hstk : stk = argsL.reverse ++ st) (hf : rm.frames + 1 ≤ R.frames) (hW : (st.map fun v => v.category).sum = W) (hl : W + (nl' + 11) + rm.locals ≤ R.locals) (hc : cells + rm.cells ≤ R.cells) (hs : slots + rm.slots ≤ R.slots) (hws : ∀ x ∈ ws', x ∈ ws ∨ h0.size ≤ x) (hp : pc + 3 = pc')
    (k : ∀ v T' h' locs', St p l e R s m args below meth c Z own bytes nl ret nm h0 ws T' h' locs' (cells + rm.cells) (slots + rm.slots) → Keep h h' ws' → Q' v h' → Go p e below P T' (mkF m pc' Ls (v.toList ++ st))) : Go p e below P T (mkF m pc Ls stk) := by
  subst hp hstk
  obtain ⟨v, _, ⟨T', L', k', n'⟩, -, X', ⟨L, hQ, l1, l2, l3⟩, f⟩ := Jvm.LawKit.callS S.X S.ex S.hown (mvT S.hZ w1) (mvT S.hZ w2) (mvT S.hZ w3) (mvT S.hZ w4) hy (backOf (Q := fun v U L => Fr Z.heap.size L ∧ Keep h U ws' ∧ Ext Z.heap U ∧ Q' v U) (W := W) (M []) S.hZ w4 w3 hf hl) (g := mkF m pc Ls (argsL.reverse ++ st)) rfl (hsz.trans S.hnl.symm) (argsL := argsL) (rest := st) (lenOf hlen hn) rfl (by show 2 * 0 + _ ≤ _; rw [hW]; omega) (S.hd hd) (fun _ _ => ⟨has, S.eT, hc, hs⟩)
  dsimp only [Pt.U, Pt.locs, Pt.cells, Pt.slots] at X' l1 l2 l3 hQ f
  subst l1 l2 l3
  obtain ⟨N, K', E', q⟩ := hQ
  exact (k v T' T'.heap _ (S.next X' rfl (S.fr.app N) (S.keep.trans K' hws) E') K' q).of f
theorem Go.invokespecial (S : St p l e R s m args below meth c Z own bytes nl ret nm h0 ws T h locs cells slots) {y : MethodName} {bytes' : ByteArray} {nl' : Nat} {ret' : Option FieldType} {rm : Room} {as' : Array Value} {ws' : List Addr} {Q' : Option Value → Heap → Prop} {index W : Nat} {ps : List FieldType} {r : Option FieldType} {argsL : List Value} {a : Addr} (M : OMeets l Z y bytes' nl' ret' rm as' h ws' Q') (hi : y.name = "<init>") (hr0 : ret' = none) (w1 : (Jvm.Cond.methodLink own index y).before a0 Z = true) (w2 : (Jvm.Cond.instanceMethod y).before a0 Z = true) (w3 : (Jvm.Cond.initialized y.cls).before a0 Z = true) (w4 : (Jvm.Cond.code y bytes' nl' ret').before a0 Z = true) (hy : y.cls ≠ "java/lang/invoke/MethodHandle" ∧ y.cls ≠ "java/lang/invoke/VarHandle") (hd : decode bytes pc = .ok (.invokespecial index, 3)) (hsz : Ls.size = nl) (hlen : parseMethodDescriptor y.desc = some ⟨ps, r⟩) (hn : argsL.length = ps.length) (has : (.ref a :: argsL).toArray = as') {stk : List Value} (hstk : stk = argsL.reverse ++ .ref a :: st) (hf : rm.frames + 1 ≤ R.frames) (hW : (st.map fun v => v.category).sum = W) (hl : W + (nl' + 11) + rm.locals ≤ R.locals) (hc : cells + rm.cells ≤ R.cells) (hs : slots + rm.slots ≤ R.slots) (hws : ∀ x ∈ ws', x ∈ ws ∨ h0.size ≤ x) (hp : pc + 3 = pc')
    (k : ∀ v T' h' locs', St p l e R s m args below meth c Z own bytes nl ret nm h0 ws T' h' locs' (cells + rm.cells) (slots + rm.slots) → Keep h h' ws' → Q' v h' → Go p e below P T' (mkF m pc' Ls (v.toList ++ st))) : Go p e below P T (mkF m pc Ls stk) := by
  subst hp hstk hr0
  obtain ⟨v, _, ⟨T', L', k', n'⟩, -, X', ⟨L, hQ, l1, l2, l3⟩, f⟩ := S.X.specialBack S.ex hi S.hown (mvT S.hZ w1) (mvT S.hZ w2) (mvT S.hZ w4) hy (backOf (Q := fun v U L => Fr Z.heap.size L ∧ Keep h U ws' ∧ Ext Z.heap U ∧ Q' v U) (W := W) (M []) S.hZ w4 w3 hf hl) (g := mkF m pc Ls (argsL.reverse ++ .ref a :: st)) rfl (hsz.trans S.hnl.symm) (Steps.refl _) (a := a) (argsL := argsL) (rest := st) (lenOf hlen hn) rfl (by show 2 * 0 + _ ≤ _; rw [hW]; omega) (S.hd hd) (fun _ _ => ⟨has, S.eT, hc, hs⟩)
  dsimp only [Pt.U, Pt.locs, Pt.cells, Pt.slots] at X' l1 l2 l3 hQ f
  subst l1 l2 l3
  obtain ⟨N, K', E', q⟩ := hQ
  exact (k v T' T'.heap _ (S.next X' rfl (S.fr.app N) (S.keep.trans K' hws) E') K' q).of fun t q => f.trans q
theorem Go.invokevirtual (S : St p l e R s m args below meth c Z own bytes nl ret nm h0 ws T h locs cells slots) {y : MethodName} {bytes' : ByteArray} {nl' : Nat} {ret' : Option FieldType} {rm : Room} {as' : Array Value} {ws' : List Addr} {Q' : Option Value → Heap → Prop} {index W : Nat} {ps : List FieldType} {r : Option FieldType} {argsL : List Value} {a : Addr} {x : MethodName} {C : String} (M : OMeets l Z y bytes' nl' ret' rm as' h ws' Q') (w1 : (Jvm.Cond.methodLink own index x).before a0 Z = true) (w2 : (Jvm.Cond.declares x).before a0 Z = true) (hnf : NotFace s x) (w5 : (Jvm.Cond.selects C x y).before a0 Z = true) (w6 : (Jvm.Cond.instanceMethod y).before a0 Z = true) (w3 : (Jvm.Cond.initialized y.cls).before a0 Z = true) (w4 : (Jvm.Cond.code y bytes' nl' ret').before a0 Z = true) (hy : x.cls ≠ "java/lang/invoke/MethodHandle" ∧ x.cls ≠ "java/lang/invoke/VarHandle") (E : Exa Z h a C) (hd : decode bytes pc = .ok (.invokevirtual index, 3)) (hsz : Ls.size = nl) (hlen : parseMethodDescriptor x.desc = some ⟨ps, r⟩) (hn : argsL.length = ps.length) (has : (.ref a :: argsL).toArray = as') {stk : List Value} (hstk : stk = argsL.reverse ++ .ref a :: st) (hf : rm.frames + 1 ≤ R.frames) (hW : (st.map fun v => v.category).sum = W) (hl : W + (nl' + 11) + rm.locals ≤ R.locals) (hc : cells + rm.cells ≤ R.cells) (hs : slots + rm.slots ≤ R.slots) (hws : ∀ x ∈ ws', x ∈ ws ∨ h0.size ≤ x) (hp : pc + 3 = pc')
    (k : ∀ v T' h' locs', St p l e R s m args below meth c Z own bytes nl ret nm h0 ws T' h' locs' (cells + rm.cells) (slots + rm.slots) → Keep h h' ws' → Q' v h' → Go p e below P T' (mkF m pc' Ls (v.toList ++ st))) : Go p e below P T (mkF m pc Ls stk) := by
  subst hp hstk
  obtain ⟨cq, kq, q1, q2, q3⟩ := isOf S.hZ S.eT E
  obtain ⟨v, _, ⟨T', L', k', n'⟩, -, X', ⟨L, hQ, l1, l2, l3⟩, f⟩ := S.X.virtualBack S.ex S.hown (mvT S.hZ w1) (mvT S.hZ w2) hnf (mvT S.hZ w5) (mvT S.hZ w6) hy (backOf (Q := fun v U L => Fr Z.heap.size L ∧ Keep h U ws' ∧ Ext Z.heap U ∧ Q' v U) (W := W) (M []) S.hZ w4 w3 hf hl) q1 q3 (g := mkF m pc Ls (argsL.reverse ++ .ref a :: st)) rfl (hsz.trans S.hnl.symm) (Steps.refl _) (argsL := argsL) (rest := st) (lenOf hlen hn) rfl (by show 2 * 0 + _ ≤ _; rw [hW]; omega) (S.hd hd) (fun _ _ => ⟨has, S.eT, hc, hs⟩)
  dsimp only [Pt.U, Pt.locs, Pt.cells, Pt.slots] at X' l1 l2 l3 hQ f
  subst l1 l2 l3
  obtain ⟨N, K', E', q⟩ := hQ
  exact (k v T' T'.heap _ (S.next X' rfl (S.fr.app N) (S.keep.trans K' hws) E') K' q).of fun t q => f.trans q
theorem St.nf (S : St p l e R s m args below meth c Z own bytes nl ret nm h0 ws T h locs cells slots) {C : String} {x : MethodName} (w : (Jvm.Cond.selects C x x).before a0 Z = true) : NotFace s x := notFace_of_selects (args := #[]) (mvT S.hZ w)
theorem Go.invokevirtualUp (S : St p l e R s m args below meth c Z own bytes nl ret nm h0 ws T h locs cells slots) {y : MethodName} {bytes' : ByteArray} {nl' : Nat} {ret' : Option FieldType} {rm : Room} {as' : Array Value} {ws' : List Addr} {Q' : Option Value → Heap → Prop} {index W : Nat} {ps : List FieldType} {r : Option FieldType} {argsL : List Value} {a : Addr} {x : MethodName} {C owner : String} (M : OMeets l Z y bytes' nl' ret' rm as' h ws' Q') (w1 : (Jvm.Cond.methodLink own index x).before a0 Z = true) (w2 : (Jvm.Cond.declares ⟨owner, x.name, x.desc⟩).before a0 Z = true) (w7 : (Jvm.Cond.sameMethod x.cls owner x.name x.desc).before a0 Z = true) (w5 : (Jvm.Cond.selects C x y).before a0 Z = true) (w6 : (Jvm.Cond.instanceMethod y).before a0 Z = true) (w3 : (Jvm.Cond.initialized y.cls).before a0 Z = true) (w4 : (Jvm.Cond.code y bytes' nl' ret').before a0 Z = true) (hy : owner ≠ "java/lang/invoke/MethodHandle" ∧ owner ≠ "java/lang/invoke/VarHandle") (E : Exa Z h a C) (hd : decode bytes pc = .ok (.invokevirtual index, 3)) (hsz : Ls.size = nl) (hlen : parseMethodDescriptor x.desc = some ⟨ps, r⟩) (hn : argsL.length = ps.length) (has : (.ref a :: argsL).toArray = as') {stk : List Value} (hstk : stk = argsL.reverse ++ .ref a :: st) (hf : rm.frames + 1 ≤ R.frames) (hW : (st.map fun v => v.category).sum = W) (hl : W + (nl' + 11) + rm.locals ≤ R.locals) (hc : cells + rm.cells ≤ R.cells) (hs : slots + rm.slots ≤ R.slots) (hws : ∀ x ∈ ws', x ∈ ws ∨ h0.size ≤ x) (hp : pc + 3 = pc')
    (k : ∀ v T' h' locs', St p l e R s m args below meth c Z own bytes nl ret nm h0 ws T' h' locs' (cells + rm.cells) (slots + rm.slots) → Keep h h' ws' → Q' v h' → Go p e below P T' (mkF m pc' Ls (v.toList ++ st))) : Go p e below P T (mkF m pc Ls stk) := by
  subst hp hstk
  obtain ⟨cq, kq, q1, q2, q3⟩ := isOf S.hZ S.eT E
  obtain ⟨v, _, ⟨T', L', k', n'⟩, -, X', ⟨L, hQ, l1, l2, l3⟩, f⟩ := S.X.virtualBackUp S.ex S.hown (mvT S.hZ w1) (mvT S.hZ w7) (mvT S.hZ w2) hy (mvT S.hZ w5) (mvT S.hZ w6) (backOf (Q := fun v U L => Fr Z.heap.size L ∧ Keep h U ws' ∧ Ext Z.heap U ∧ Q' v U) (W := W) (M []) S.hZ w4 w3 hf hl) q1 q3 (g := mkF m pc Ls (argsL.reverse ++ .ref a :: st)) rfl (hsz.trans S.hnl.symm) (Steps.refl _) (argsL := argsL) (rest := st) (lenOf hlen hn) rfl (by show 2 * 0 + _ ≤ _; rw [hW]; omega) (S.hd hd) (fun _ _ => ⟨has, S.eT, hc, hs⟩)
  dsimp only [Pt.U, Pt.locs, Pt.cells, Pt.slots] at X' l1 l2 l3 hQ f
  subst l1 l2 l3
  obtain ⟨N, K', E', q⟩ := hQ
  exact (k v T' T'.heap _ (S.next X' rfl (S.fr.app N) (S.keep.trans K' hws) E') K' q).of fun t q => f.trans q
theorem Go.tableswitch (S : St p l e R s m args below meth c Z own bytes nl ret nm h0 ws T h locs cells slots) {dflt low high : Int} {offs : Array Int} {len : Nat} {o : Int} {i : Int32} (hd : decode bytes pc = .ok (.tableswitch dflt low high offs, len)) (hin : ¬ (i.toInt < low ∨ i.toInt > high)) (hoff : offs[(i.toInt - low).toNat]? = some o) (hp : (pc : Int) + o = (pc' : Int)) (k : Go p e below P T (mkF m pc' Ls st)) : Go p e below P T (mkF m pc Ls (.int i :: st)) :=
  k.of fun t q => XS.tswIn S.X.here S.ex rfl (pc0 := pc) rfl (S.hd hd) rfl hin hoff (off0 hp) (off1 hp) q
theorem Go.instanceofN (S : St p l e R s m args below meth c Z own bytes nl ret nm h0 ws T h locs cells slots) {C K : String} {index : Nat} {a : Addr} (w : (Jvm.Cond.classLink own index K).before a0 Z = true) (E : Exa Z h a C) (F : ∃ c t, Z.vm.findClass C = some c ∧ Z.vm.findClass K = some t ∧ Z.vm.assignable c t = false) (hd : decode bytes pc = .ok (.instanceof index, 3)) (hp : pc + 3 = pc')
    (k : ∀ T', St p l e R s m args below meth c Z own bytes nl ret nm h0 ws T' h locs cells slots → Go p e below P T' (mkF m pc' Ls (.int 0 :: st))) : Go p e below P T (mkF m pc Ls (.ref a :: st)) := by
  subst hp
  obtain ⟨T', X', e', f⟩ := instNo S.X S.ex S.hZ S.hown w S.eT E F (g := mkF m pc Ls (.ref a :: st)) rfl rfl (S.hd hd)
  exact (k T' (S.next X' e' S.fr S.keep S.ext)).of f
theorem Go.instanceofNull (S : St p l e R s m args below meth c Z own bytes nl ret nm h0 ws T h locs cells slots) {index : Nat} (hd : decode bytes pc = .ok (.instanceof index, 3)) (hp : pc + 3 = pc') (k : Go p e below P T (mkF m pc' Ls (.int 0 :: st))) : Go p e below P T (mkF m pc Ls (.null :: st)) := by
  subst hp
  exact k.of fun t q => S.X.instanceofNull S.ex (g := mkF m pc Ls (.null :: st)) rfl rfl (S.hd hd) _ q
theorem Go.checkcastNull (S : St p l e R s m args below meth c Z own bytes nl ret nm h0 ws T h locs cells slots) {index : Nat} (hd : decode bytes pc = .ok (.checkcast index, 3)) (hp : pc + 3 = pc') (k : Go p e below P T (mkF m pc' Ls (.null :: st))) : Go p e below P T (mkF m pc Ls (.null :: st)) := by
  subst hp
  exact k.of fun t q => S.X.checkcastNull S.ex (g := mkF m pc Ls (.null :: st)) rfl rfl (S.hd hd) _ q
theorem Go.aaloadA (S : St p l e R s m args below meth c Z own bytes nl ret nm h0 ws T h locs cells slots) {a : Addr} {cl : Cell} {ty : FieldType} {j : Int32} {v : Value} (A : Arr Z h a cl ty) (hty : ty.isReference = true) (hj : ¬ (j < 0 ∨ cl.slots.size ≤ j.toNatClampNeg)) (hv : cl.slots[j.toNatClampNeg]? = some v) (hd : decode bytes pc = .ok (.aaload, 1)) (hp : pc + 1 = pc') (k : Go p e below P T (mkF m pc' Ls (v :: st))) : Go p e below P T (mkF m pc Ls (.int j :: .ref a :: st)) := by
  subst hp
  exact k.of fun t q => S.X.aaload S.ex (j := j) (v := v) (by rw [S.eT]; exact A.1) (State.isArrayOf_alike S.hZ.alike A.2.1) hty A.2.2 hj hv (g := mkF m pc Ls (.int j :: .ref a :: st)) rfl rfl (S.hd hd) _ q
theorem Go.clone (S : St p l e R s m args below meth c Z own bytes nl ret nm h0 ws T h locs cells slots) {ad : String} {index : Nat} {a : Addr} {kA : ClassId} {ty : FieldType} {n : Int32} {vs : List Value} {dv : Value} {W cap : Nat} (w1 : (Jvm.Cond.methodLink own index ⟨ad, "clone", "()Ljava/lang/Object;"⟩).before a0 Z = true) (w2 : (Jvm.Cond.sameMethod ad "java/lang/Object" "clone" "()Ljava/lang/Object;").before a0 Z = true) (w3 : (Jvm.Cond.native ⟨"java/lang/Object", "clone", "()Ljava/lang/Object;"⟩).before a0 Z = true) (w4 : (Jvm.Cond.instanceMethod ⟨"java/lang/Object", "clone", "()Ljava/lang/Object;"⟩).before a0 Z = true) (w5 : (Jvm.Cond.selects ad ⟨ad, "clone", "()Ljava/lang/Object;"⟩ ⟨"java/lang/Object", "clone", "()Ljava/lang/Object;"⟩).before a0 Z = true) (w6 : (Jvm.Cond.castable ad "java/lang/Cloneable").before a0 Z = true)
    (V : Arv Z Z.heap a kA ty n vs dv) (hfit : Fit Z) (E : Exa Z Z.heap a ad) (hd : decode bytes pc = .ok (.invokevirtual index, 3)) (hsz : Ls.size = nl) (hf : 1 ≤ R.frames) (hW : (st.map fun v => v.category).sum = W) (hl : W + 14 ≤ R.locals) (hcap : n.toNatClampNeg ≤ cap) (hc : cells + 1 ≤ R.cells) (hsl : slots + cap ≤ R.slots) (hp : pc + 3 = pc')
    (k : ∀ T' h' b, St p l e R s m args below meth c Z own bytes nl ret nm h0 ws T' h' locs (cells + 1) (slots + cap) → Ext h h' → h.size = b → Arv Z h' b kA ty n vs dv → Exa Z h' b ad → Go p e below P T' (mkF m pc' Ls (.ref b :: st))) : Go p e below P T (mkF m pc Ls (.ref a :: st)) := by
  subst hp
  obtain ⟨cl, A, q1, q2, q3, H, F⟩ := V
  obtain ⟨T', h', X', e', E', A', EA, f⟩ := cloneA S.X S.ex S.hZ S.hown w1 w2 w3 w4 w5 w6 S.eT (A.ext S.ext) (E.ext S.ext) (FitC.start hfit A) (g := mkF m pc Ls (.ref a :: st)) rfl (hsz.trans S.hnl.symm) rfl (S.hd hd) hf (W := W) (by show 2 * 0 + _ ≤ _; rw [hW]; omega) hl (cap := cap) (by rw [q2]; exact hcap) hc hsl
  exact (k T' h' h.size (S.made X' e' E') E' rfl ⟨_, A', q1, q2, q3, H, F⟩ EA).of f
theorem OMeets.body {y : MethodName} {Q : Option Value → Heap → Prop} {as : Array Value} (hpl : plainFor y = true) (hE : Ext Z.heap h0) (Ls : Array Slot) (hef : ∀ m : MethodId, entryFrame m as nl = mkF m 0 Ls [])
    (H : ∀ p e s m below meth c T, St p l e R s m as below meth c Z y.cls bytes nl ret y.name h0 ws T h0 [] 0 0 → Go p e below (PostOf Z s h0 ws R.cells R.slots Q) T (mkF m 0 Ls [])) : OMeets l Z y bytes nl ret R as h0 ws Q := by
  intro wd
  refine MetFree.of_bodySF hpl hisR ?_
  intro p e s m args below meth c s₁ Bd hml hP _
  obtain ⟨rfl, hZ, hh⟩ := hP
  have X0 : Stand p l e R s m args below meth c s₁ [] 0 0 := Stand.of_body Bd
  have e0 : s₁.heap = h0 := by rw [← hh, Bd.state]; rfl
  have hg := H p e s m below meth c s₁ ⟨⟨Bd.exec, Bd.bytes, hml, hZ, findClass_of_methodNamed Bd.named, Bd.returns, Bd.notSynchronized, (name_of_methodNamed Bd.named Bd.method).1⟩, X0, e0, Fr.nil _, Keep.refl _ _, hE⟩
  rw [hef]
  exact hg
end Steps
end Jvm.Own
namespace Jvm.Pilot.@@N@@
open Jvm Jvm.ClassFile Sem Op Lib Jvm.Free Jvm.Stand Jvm.LawKit Jvm.RoadKit Jvm.Own Bundle Jvm.Pilot.@@N@@.Jvm.D
abbrev HW (Z : State) (a0 : Array Value) : Prop := ∀ d ∈ tables_1, d.before a0 Z = true
theorem wd0 {Z : State} {a0 : Array Value} (hw : HW Z a0) : Jvm.Cond.before (Jvm.Cond.methodLink "com/example/tributary/tributary/target/AccessPointOfUsePinLaw" (35 : Nat) ({ cls := "com/example/tributary/tributary/target/AccessPointOfUsePinLaw", name := "useOf", desc := "(I)J" } : Jvm.MethodName)) a0 Z = true := hw _ (List.mem_of_getElem? (i := 0) rfl)
theorem wd1 {Z : State} {a0 : Array Value} (hw : HW Z a0) : Jvm.Cond.before (Jvm.Cond.static ({ cls := "com/example/tributary/tributary/target/AccessPointOfUsePinLaw", name := "useOf", desc := "(I)J" } : Jvm.MethodName)) a0 Z = true := hw _ (List.mem_of_getElem? (i := 1) rfl)
theorem wd2 {Z : State} {a0 : Array Value} (hw : HW Z a0) : Jvm.Cond.before (Jvm.Cond.initialized "com/example/tributary/tributary/target/AccessPointOfUsePinLaw") a0 Z = true := hw _ (List.mem_of_getElem? (i := 2) rfl)
theorem wd3 {Z : State} {a0 : Array Value} (hw : HW Z a0) : Jvm.Cond.before (Jvm.Cond.code ({ cls := "com/example/tributary/tributary/target/AccessPointOfUsePinLaw", name := "useOf", desc := "(I)J" } : Jvm.MethodName) method_2_code (1 : Nat) (Option.some Jvm.ClassFile.FieldType.long)) a0 Z = true := hw _ (List.mem_of_getElem? (i := 3) rfl)
theorem wd4 {Z : State} {a0 : Array Value} (hw : HW Z a0) : Jvm.Cond.before (Jvm.Cond.constantLong "com/example/tributary/tributary/target/AccessPointOfUsePinLaw" (7 : Nat) (4 : Int64)) a0 Z = true := hw _ (List.mem_of_getElem? (i := 4) rfl)
theorem wd5 {Z : State} {a0 : Array Value} (hw : HW Z a0) : Jvm.Cond.before (Jvm.Cond.methodLink "com/example/tributary/tributary/target/AccessPointOfUsePinLaw" (45 : Nat) ({ cls := "com/example/tributary/tributary/target/AccessPoint", name := "ofUse", desc := "(J)Ljava/util/Optional;" } : Jvm.MethodName)) a0 Z = true := hw _ (List.mem_of_getElem? (i := 5) rfl)
theorem wd6 {Z : State} {a0 : Array Value} (hw : HW Z a0) : Jvm.Cond.before (Jvm.Cond.static ({ cls := "com/example/tributary/tributary/target/AccessPoint", name := "ofUse", desc := "(J)Ljava/util/Optional;" } : Jvm.MethodName)) a0 Z = true := hw _ (List.mem_of_getElem? (i := 6) rfl)
theorem wd7 {Z : State} {a0 : Array Value} (hw : HW Z a0) : Jvm.Cond.before (Jvm.Cond.initialized "com/example/tributary/tributary/target/AccessPoint") a0 Z = true := hw _ (List.mem_of_getElem? (i := 7) rfl)
theorem wd8 {Z : State} {a0 : Array Value} (hw : HW Z a0) : Jvm.Cond.before (Jvm.Cond.code ({ cls := "com/example/tributary/tributary/target/AccessPoint", name := "ofUse", desc := "(J)Ljava/util/Optional;" } : Jvm.MethodName) prog_47_method_4_code (6 : Nat) (Option.some (Jvm.ClassFile.FieldType.object "java/util/Optional"))) a0 Z = true := hw _ (List.mem_of_getElem? (i := 8) rfl)
theorem wd9 {Z : State} {a0 : Array Value} (hw : HW Z a0) : Jvm.Cond.before (Jvm.Cond.methodLink "com/example/tributary/tributary/target/AccessPoint" (50 : Nat) ({ cls := "com/example/tributary/tributary/target/AccessPoint", name := "values", desc := "()[Lcom/example/tributary/tributary/target/AccessPoint;" } : Jvm.MethodName)) a0 Z = true := hw _ (List.mem_of_getElem? (i := 9) rfl)
theorem wd10 {Z : State} {a0 : Array Value} (hw : HW Z a0) : Jvm.Cond.before (Jvm.Cond.static ({ cls := "com/example/tributary/tributary/target/AccessPoint", name := "values", desc := "()[Lcom/example/tributary/tributary/target/AccessPoint;" } : Jvm.MethodName)) a0 Z = true := hw _ (List.mem_of_getElem? (i := 10) rfl)
theorem wd11 {Z : State} {a0 : Array Value} (hw : HW Z a0) : Jvm.Cond.before (Jvm.Cond.code ({ cls := "com/example/tributary/tributary/target/AccessPoint", name := "values", desc := "()[Lcom/example/tributary/tributary/target/AccessPoint;" } : Jvm.MethodName) prog_47_method_1_code (0 : Nat) (Option.some (Jvm.ClassFile.FieldType.array (Jvm.ClassFile.FieldType.object "com/example/tributary/tributary/target/AccessPoint")))) a0 Z = true := hw _ (List.mem_of_getElem? (i := 11) rfl)
theorem wd12 {Z : State} {a0 : Array Value} (hw : HW Z a0) : Jvm.Cond.before (Jvm.Cond.fieldLink "com/example/tributary/tributary/target/AccessPoint" (19 : Nat) "com/example/tributary/tributary/target/AccessPoint" "$VALUES" "[Lcom/example/tributary/tributary/target/AccessPoint;") a0 Z = true := hw _ (List.mem_of_getElem? (i := 12) rfl)
theorem wd13 {Z : State} {a0 : Array Value} (hw : HW Z a0) : Jvm.Cond.before (Jvm.Cond.laysStatic "com/example/tributary/tributary/target/AccessPoint" "$VALUES" "[Lcom/example/tributary/tributary/target/AccessPoint;") a0 Z = true := hw _ (List.mem_of_getElem? (i := 13) rfl)
theorem wd14 {Z : State} {a0 : Array Value} (hw : HW Z a0) : Jvm.Cond.before (Jvm.Cond.methodLink "com/example/tributary/tributary/target/AccessPoint" (23 : Nat) ({ cls := "[Lcom/example/tributary/tributary/target/AccessPoint;", name := "clone", desc := "()Ljava/lang/Object;" } : Jvm.MethodName)) a0 Z = true := hw _ (List.mem_of_getElem? (i := 14) rfl)
theorem wd15 {Z : State} {a0 : Array Value} (hw : HW Z a0) : Jvm.Cond.before (Jvm.Cond.sameMethod "[Lcom/example/tributary/tributary/target/AccessPoint;" "java/lang/Object" "clone" "()Ljava/lang/Object;") a0 Z = true := hw _ (List.mem_of_getElem? (i := 15) rfl)
theorem wd17 {Z : State} {a0 : Array Value} (hw : HW Z a0) : Jvm.Cond.before (Jvm.Cond.instanceMethod ({ cls := "java/lang/Object", name := "clone", desc := "()Ljava/lang/Object;" } : Jvm.MethodName)) a0 Z = true := hw _ (List.mem_of_getElem? (i := 17) rfl)
theorem wd18 {Z : State} {a0 : Array Value} (hw : HW Z a0) : Jvm.Cond.before (Jvm.Cond.selects "[Lcom/example/tributary/tributary/target/AccessPoint;" ({ cls := "[Lcom/example/tributary/tributary/target/AccessPoint;", name := "clone", desc := "()Ljava/lang/Object;" } : Jvm.MethodName) ({ cls := "java/lang/Object", name := "clone", desc := "()Ljava/lang/Object;" } : Jvm.MethodName)) a0 Z = true := hw _ (List.mem_of_getElem? (i := 18) rfl)
theorem wd19 {Z : State} {a0 : Array Value} (hw : HW Z a0) : Jvm.Cond.before (Jvm.Cond.native ({ cls := "java/lang/Object", name := "clone", desc := "()Ljava/lang/Object;" } : Jvm.MethodName)) a0 Z = true := hw _ (List.mem_of_getElem? (i := 19) rfl)
theorem wd20 {Z : State} {a0 : Array Value} (hw : HW Z a0) : Jvm.Cond.before (Jvm.Cond.castable "[Lcom/example/tributary/tributary/target/AccessPoint;" "java/lang/Cloneable") a0 Z = true := hw _ (List.mem_of_getElem? (i := 20) rfl)
theorem wd21 {Z : State} {a0 : Array Value} (hw : HW Z a0) : Jvm.Cond.before (Jvm.Cond.laysStatic "com/example/tributary/tributary/target/AccessPoint" "TITLE" "Lcom/example/tributary/tributary/target/AccessPoint;") a0 Z = true := hw _ (List.mem_of_getElem? (i := 21) rfl)
theorem wd22 {Z : State} {a0 : Array Value} (hw : HW Z a0) : Jvm.Cond.before (Jvm.Cond.laysStatic "com/example/tributary/tributary/target/AccessPoint" "AUTHOR" "Lcom/example/tributary/tributary/target/AccessPoint;") a0 Z = true := hw _ (List.mem_of_getElem? (i := 22) rfl)
theorem wd23 {Z : State} {a0 : Array Value} (hw : HW Z a0) : Jvm.Cond.before (Jvm.Cond.laysStatic "com/example/tributary/tributary/target/AccessPoint" "SUBJECT" "Lcom/example/tributary/tributary/target/AccessPoint;") a0 Z = true := hw _ (List.mem_of_getElem? (i := 23) rfl)
theorem wd24 {Z : State} {a0 : Array Value} (hw : HW Z a0) : Jvm.Cond.before (Jvm.Cond.laysStatic "com/example/tributary/tributary/target/AccessPoint" "ISBN" "Lcom/example/tributary/tributary/target/AccessPoint;") a0 Z = true := hw _ (List.mem_of_getElem? (i := 24) rfl)
theorem wd25 {Z : State} {a0 : Array Value} (hw : HW Z a0) : Jvm.Cond.before (Jvm.Cond.laysStatic "com/example/tributary/tributary/target/AccessPoint" "ANY" "Lcom/example/tributary/tributary/target/AccessPoint;") a0 Z = true := hw _ (List.mem_of_getElem? (i := 25) rfl)
theorem wd27 {Z : State} {a0 : Array Value} (hw : HW Z a0) : Jvm.Cond.before (Jvm.Cond.classLink "com/example/tributary/tributary/target/AccessPoint" (24 : Nat) "[Lcom/example/tributary/tributary/target/AccessPoint;") a0 Z = true := hw _ (List.mem_of_getElem? (i := 27) rfl)
theorem wd29 {Z : State} {a0 : Array Value} (hw : HW Z a0) : Jvm.Cond.before (Jvm.Cond.fieldLink "com/example/tributary/tributary/target/AccessPoint" (38 : Nat) "com/example/tributary/tributary/target/AccessPoint" "m_nUse" "I") a0 Z = true := hw _ (List.mem_of_getElem? (i := 29) rfl)
theorem wd31 {Z : State} {a0 : Array Value} (hw : HW Z a0) : Jvm.Cond.before (Jvm.Cond.methodLink "com/example/tributary/tributary/target/AccessPoint" (60 : Nat) ({ cls := "java/util/Optional", name := "empty", desc := "()Ljava/util/Optional;" } : Jvm.MethodName)) a0 Z = true := hw _ (List.mem_of_getElem? (i := 31) rfl)
theorem wd32 {Z : State} {a0 : Array Value} (hw : HW Z a0) : Jvm.Cond.before (Jvm.Cond.static ({ cls := "java/util/Optional", name := "empty", desc := "()Ljava/util/Optional;" } : Jvm.MethodName)) a0 Z = true := hw _ (List.mem_of_getElem? (i := 32) rfl)
theorem wd33 {Z : State} {a0 : Array Value} (hw : HW Z a0) : Jvm.Cond.before (Jvm.Cond.initialized "java/util/Optional") a0 Z = true := hw _ (List.mem_of_getElem? (i := 33) rfl)
theorem wd34 {Z : State} {a0 : Array Value} (hw : HW Z a0) : Jvm.Cond.before (Jvm.Cond.code ({ cls := "java/util/Optional", name := "empty", desc := "()Ljava/util/Optional;" } : Jvm.MethodName) jdk_32_method_1_code (1 : Nat) (Option.some (Jvm.ClassFile.FieldType.object "java/util/Optional"))) a0 Z = true := hw _ (List.mem_of_getElem? (i := 34) rfl)
theorem wd35 {Z : State} {a0 : Array Value} (hw : HW Z a0) : Jvm.Cond.before (Jvm.Cond.fieldLink "java/util/Optional" (1 : Nat) "java/util/Optional" "EMPTY" "Ljava/util/Optional;") a0 Z = true := hw _ (List.mem_of_getElem? (i := 35) rfl)
theorem wd36 {Z : State} {a0 : Array Value} (hw : HW Z a0) : Jvm.Cond.before (Jvm.Cond.methodLink "com/example/tributary/tributary/target/AccessPointOfUsePinLaw" (49 : Nat) ({ cls := "com/example/tributary/tributary/target/AccessPointOfUsePinLaw", name := "expected", desc := "(J)Lcom/example/tributary/tributary/target/AccessPoint;" } : Jvm.MethodName)) a0 Z = true := hw _ (List.mem_of_getElem? (i := 36) rfl)
theorem wd37 {Z : State} {a0 : Array Value} (hw : HW Z a0) : Jvm.Cond.before (Jvm.Cond.static ({ cls := "com/example/tributary/tributary/target/AccessPointOfUsePinLaw", name := "expected", desc := "(J)Lcom/example/tributary/tributary/target/AccessPoint;" } : Jvm.MethodName)) a0 Z = true := hw _ (List.mem_of_getElem? (i := 37) rfl)
theorem wd38 {Z : State} {a0 : Array Value} (hw : HW Z a0) : Jvm.Cond.before (Jvm.Cond.code ({ cls := "com/example/tributary/tributary/target/AccessPointOfUsePinLaw", name := "expected", desc := "(J)Lcom/example/tributary/tributary/target/AccessPoint;" } : Jvm.MethodName) method_3_code (2 : Nat) (Option.some (Jvm.ClassFile.FieldType.object "com/example/tributary/tributary/target/AccessPoint"))) a0 Z = true := hw _ (List.mem_of_getElem? (i := 38) rfl)
theorem wd39 {Z : State} {a0 : Array Value} (hw : HW Z a0) : Jvm.Cond.before (Jvm.Cond.constantLong "com/example/tributary/tributary/target/AccessPointOfUsePinLaw" (9 : Nat) (1003 : Int64)) a0 Z = true := hw _ (List.mem_of_getElem? (i := 39) rfl)
theorem wd40 {Z : State} {a0 : Array Value} (hw : HW Z a0) : Jvm.Cond.before (Jvm.Cond.constantLong "com/example/tributary/tributary/target/AccessPointOfUsePinLaw" (11 : Nat) (21 : Int64)) a0 Z = true := hw _ (List.mem_of_getElem? (i := 40) rfl)
theorem wd41 {Z : State} {a0 : Array Value} (hw : HW Z a0) : Jvm.Cond.before (Jvm.Cond.constantLong "com/example/tributary/tributary/target/AccessPointOfUsePinLaw" (13 : Nat) (7 : Int64)) a0 Z = true := hw _ (List.mem_of_getElem? (i := 41) rfl)
theorem wd42 {Z : State} {a0 : Array Value} (hw : HW Z a0) : Jvm.Cond.before (Jvm.Cond.constantLong "com/example/tributary/tributary/target/AccessPointOfUsePinLaw" (15 : Nat) (1016 : Int64)) a0 Z = true := hw _ (List.mem_of_getElem? (i := 42) rfl)
theorem wd43 {Z : State} {a0 : Array Value} (hw : HW Z a0) : Jvm.Cond.before (Jvm.Cond.methodLink "com/example/tributary/tributary/target/AccessPointOfUsePinLaw" (53 : Nat) ({ cls := "java/util/Optional", name := "isPresent", desc := "()Z" } : Jvm.MethodName)) a0 Z = true := hw _ (List.mem_of_getElem? (i := 43) rfl)
theorem wd44 {Z : State} {a0 : Array Value} (hw : HW Z a0) : Jvm.Cond.before (Jvm.Cond.declares ({ cls := "java/util/Optional", name := "isPresent", desc := "()Z" } : Jvm.MethodName)) a0 Z = true := hw _ (List.mem_of_getElem? (i := 44) rfl)
theorem wd45 {Z : State} {a0 : Array Value} (hw : HW Z a0) : Jvm.Cond.before (Jvm.Cond.instanceMethod ({ cls := "java/util/Optional", name := "isPresent", desc := "()Z" } : Jvm.MethodName)) a0 Z = true := hw _ (List.mem_of_getElem? (i := 45) rfl)
theorem wd46 {Z : State} {a0 : Array Value} (hw : HW Z a0) : Jvm.Cond.before (Jvm.Cond.selects "java/util/Optional" ({ cls := "java/util/Optional", name := "isPresent", desc := "()Z" } : Jvm.MethodName) ({ cls := "java/util/Optional", name := "isPresent", desc := "()Z" } : Jvm.MethodName)) a0 Z = true := hw _ (List.mem_of_getElem? (i := 46) rfl)
theorem wd47 {Z : State} {a0 : Array Value} (hw : HW Z a0) : Jvm.Cond.before (Jvm.Cond.code ({ cls := "java/util/Optional", name := "isPresent", desc := "()Z" } : Jvm.MethodName) jdk_32_method_6_code (1 : Nat) (Option.some Jvm.ClassFile.FieldType.boolean)) a0 Z = true := hw _ (List.mem_of_getElem? (i := 47) rfl)
theorem wd48 {Z : State} {a0 : Array Value} (hw : HW Z a0) : Jvm.Cond.before (Jvm.Cond.fieldLink "java/util/Optional" (13 : Nat) "java/util/Optional" "value" "Ljava/lang/Object;") a0 Z = true := hw _ (List.mem_of_getElem? (i := 48) rfl)
theorem wd49 {Z : State} {a0 : Array Value} (hw : HW Z a0) : Jvm.Cond.before (Jvm.Cond.laysFinal "java/util/Optional" "java/util/Optional" "value" "Ljava/lang/Object;") a0 Z = true := hw _ (List.mem_of_getElem? (i := 49) rfl)
theorem wd50 {Z : State} {a0 : Array Value} (hw : HW Z a0) : Jvm.Cond.before (Jvm.Cond.constantLong "com/example/tributary/tributary/target/AccessPointOfUsePinLaw" (43 : Nat) (-9223372036854775808 : Int64)) a0 Z = true := hw _ (List.mem_of_getElem? (i := 50) rfl)
theorem wd51 {Z : State} {a0 : Array Value} (hw : HW Z a0) : Jvm.Cond.before (Jvm.Cond.methodLink "com/example/tributary/tributary/target/AccessPoint" (54 : Nat) ({ cls := "java/util/Optional", name := "of", desc := "(Ljava/lang/Object;)Ljava/util/Optional;" } : Jvm.MethodName)) a0 Z = true := hw _ (List.mem_of_getElem? (i := 51) rfl)
theorem wd52 {Z : State} {a0 : Array Value} (hw : HW Z a0) : Jvm.Cond.before (Jvm.Cond.static ({ cls := "java/util/Optional", name := "of", desc := "(Ljava/lang/Object;)Ljava/util/Optional;" } : Jvm.MethodName)) a0 Z = true := hw _ (List.mem_of_getElem? (i := 52) rfl)
theorem wd53 {Z : State} {a0 : Array Value} (hw : HW Z a0) : Jvm.Cond.before (Jvm.Cond.code ({ cls := "java/util/Optional", name := "of", desc := "(Ljava/lang/Object;)Ljava/util/Optional;" } : Jvm.MethodName) jdk_32_method_3_code (1 : Nat) (Option.some (Jvm.ClassFile.FieldType.object "java/util/Optional"))) a0 Z = true := hw _ (List.mem_of_getElem? (i := 53) rfl)
theorem wd54 {Z : State} {a0 : Array Value} (hw : HW Z a0) : Jvm.Cond.before (Jvm.Cond.classLink "java/util/Optional" (2 : Nat) "java/util/Optional") a0 Z = true := hw _ (List.mem_of_getElem? (i := 54) rfl)
theorem wd55 {Z : State} {a0 : Array Value} (hw : HW Z a0) : Jvm.Cond.before (Jvm.Cond.instantiable "java/util/Optional" (1 : Nat)) a0 Z = true := hw _ (List.mem_of_getElem? (i := 55) rfl)
theorem wd56 {Z : State} {a0 : Array Value} (hw : HW Z a0) : Jvm.Cond.before (Jvm.Cond.methodLink "java/util/Optional" (17 : Nat) ({ cls := "java/util/Objects", name := "requireNonNull", desc := "(Ljava/lang/Object;)Ljava/lang/Object;" } : Jvm.MethodName)) a0 Z = true := hw _ (List.mem_of_getElem? (i := 56) rfl)
theorem wd57 {Z : State} {a0 : Array Value} (hw : HW Z a0) : Jvm.Cond.before (Jvm.Cond.static ({ cls := "java/util/Objects", name := "requireNonNull", desc := "(Ljava/lang/Object;)Ljava/lang/Object;" } : Jvm.MethodName)) a0 Z = true := hw _ (List.mem_of_getElem? (i := 57) rfl)
theorem wd58 {Z : State} {a0 : Array Value} (hw : HW Z a0) : Jvm.Cond.before (Jvm.Cond.initialized "java/util/Objects") a0 Z = true := hw _ (List.mem_of_getElem? (i := 58) rfl)
theorem wd59 {Z : State} {a0 : Array Value} (hw : HW Z a0) : Jvm.Cond.before (Jvm.Cond.code ({ cls := "java/util/Objects", name := "requireNonNull", desc := "(Ljava/lang/Object;)Ljava/lang/Object;" } : Jvm.MethodName) jdk_31_method_10_code (1 : Nat) (Option.some (Jvm.ClassFile.FieldType.object "java/lang/Object"))) a0 Z = true := hw _ (List.mem_of_getElem? (i := 59) rfl)
theorem wd60 {Z : State} {a0 : Array Value} (hw : HW Z a0) : Jvm.Cond.before (Jvm.Cond.methodLink "java/util/Optional" (23 : Nat) ({ cls := "java/util/Optional", name := "<init>", desc := "(Ljava/lang/Object;)V" } : Jvm.MethodName)) a0 Z = true := hw _ (List.mem_of_getElem? (i := 60) rfl)
theorem wd61 {Z : State} {a0 : Array Value} (hw : HW Z a0) : Jvm.Cond.before (Jvm.Cond.instanceMethod ({ cls := "java/util/Optional", name := "<init>", desc := "(Ljava/lang/Object;)V" } : Jvm.MethodName)) a0 Z = true := hw _ (List.mem_of_getElem? (i := 61) rfl)
theorem wd63 {Z : State} {a0 : Array Value} (hw : HW Z a0) : Jvm.Cond.before (Jvm.Cond.code ({ cls := "java/util/Optional", name := "<init>", desc := "(Ljava/lang/Object;)V" } : Jvm.MethodName) jdk_32_method_2_code (2 : Nat) (Option.none : Option Jvm.ClassFile.FieldType)) a0 Z = true := hw _ (List.mem_of_getElem? (i := 63) rfl)
theorem wd64 {Z : State} {a0 : Array Value} (hw : HW Z a0) : Jvm.Cond.before (Jvm.Cond.methodLink "java/util/Optional" (7 : Nat) ({ cls := "java/lang/Object", name := "<init>", desc := "()V" } : Jvm.MethodName)) a0 Z = true := hw _ (List.mem_of_getElem? (i := 64) rfl)
theorem wd65 {Z : State} {a0 : Array Value} (hw : HW Z a0) : Jvm.Cond.before (Jvm.Cond.instanceMethod ({ cls := "java/lang/Object", name := "<init>", desc := "()V" } : Jvm.MethodName)) a0 Z = true := hw _ (List.mem_of_getElem? (i := 65) rfl)
theorem wd66 {Z : State} {a0 : Array Value} (hw : HW Z a0) : Jvm.Cond.before (Jvm.Cond.code ({ cls := "java/lang/Object", name := "<init>", desc := "()V" } : Jvm.MethodName) object_method_1_code (1 : Nat) (Option.none : Option Jvm.ClassFile.FieldType)) a0 Z = true := hw _ (List.mem_of_getElem? (i := 66) rfl)
theorem wd67 {Z : State} {a0 : Array Value} (hw : HW Z a0) : Jvm.Cond.before (Jvm.Cond.fieldLink "com/example/tributary/tributary/target/AccessPointOfUsePinLaw" (23 : Nat) "com/example/tributary/tributary/target/AccessPoint" "AUTHOR" "Lcom/example/tributary/tributary/target/AccessPoint;") a0 Z = true := hw _ (List.mem_of_getElem? (i := 67) rfl)
theorem wd68 {Z : State} {a0 : Array Value} (hw : HW Z a0) : Jvm.Cond.before (Jvm.Cond.methodLink "com/example/tributary/tributary/target/AccessPointOfUsePinLaw" (59 : Nat) ({ cls := "java/util/Optional", name := "get", desc := "()Ljava/lang/Object;" } : Jvm.MethodName)) a0 Z = true := hw _ (List.mem_of_getElem? (i := 68) rfl)
theorem wd69 {Z : State} {a0 : Array Value} (hw : HW Z a0) : Jvm.Cond.before (Jvm.Cond.declares ({ cls := "java/util/Optional", name := "get", desc := "()Ljava/lang/Object;" } : Jvm.MethodName)) a0 Z = true := hw _ (List.mem_of_getElem? (i := 69) rfl)
theorem wd70 {Z : State} {a0 : Array Value} (hw : HW Z a0) : Jvm.Cond.before (Jvm.Cond.instanceMethod ({ cls := "java/util/Optional", name := "get", desc := "()Ljava/lang/Object;" } : Jvm.MethodName)) a0 Z = true := hw _ (List.mem_of_getElem? (i := 70) rfl)
theorem wd71 {Z : State} {a0 : Array Value} (hw : HW Z a0) : Jvm.Cond.before (Jvm.Cond.selects "java/util/Optional" ({ cls := "java/util/Optional", name := "get", desc := "()Ljava/lang/Object;" } : Jvm.MethodName) ({ cls := "java/util/Optional", name := "get", desc := "()Ljava/lang/Object;" } : Jvm.MethodName)) a0 Z = true := hw _ (List.mem_of_getElem? (i := 71) rfl)
theorem wd72 {Z : State} {a0 : Array Value} (hw : HW Z a0) : Jvm.Cond.before (Jvm.Cond.code ({ cls := "java/util/Optional", name := "get", desc := "()Ljava/lang/Object;" } : Jvm.MethodName) jdk_32_method_5_code (1 : Nat) (Option.some (Jvm.ClassFile.FieldType.object "java/lang/Object"))) a0 Z = true := hw _ (List.mem_of_getElem? (i := 72) rfl)
theorem wd73 {Z : State} {a0 : Array Value} (hw : HW Z a0) : Jvm.Cond.before (Jvm.Cond.fieldLink "com/example/tributary/tributary/target/AccessPointOfUsePinLaw" (17 : Nat) "com/example/tributary/tributary/target/AccessPoint" "TITLE" "Lcom/example/tributary/tributary/target/AccessPoint;") a0 Z = true := hw _ (List.mem_of_getElem? (i := 73) rfl)
theorem wd74 {Z : State} {a0 : Array Value} (hw : HW Z a0) : Jvm.Cond.before (Jvm.Cond.fieldLink "com/example/tributary/tributary/target/AccessPointOfUsePinLaw" (29 : Nat) "com/example/tributary/tributary/target/AccessPoint" "ISBN" "Lcom/example/tributary/tributary/target/AccessPoint;") a0 Z = true := hw _ (List.mem_of_getElem? (i := 74) rfl)
theorem wd75 {Z : State} {a0 : Array Value} (hw : HW Z a0) : Jvm.Cond.before (Jvm.Cond.fieldLink "com/example/tributary/tributary/target/AccessPointOfUsePinLaw" (26 : Nat) "com/example/tributary/tributary/target/AccessPoint" "SUBJECT" "Lcom/example/tributary/tributary/target/AccessPoint;") a0 Z = true := hw _ (List.mem_of_getElem? (i := 75) rfl)
theorem wd76 {Z : State} {a0 : Array Value} (hw : HW Z a0) : Jvm.Cond.before (Jvm.Cond.fieldLink "com/example/tributary/tributary/target/AccessPointOfUsePinLaw" (32 : Nat) "com/example/tributary/tributary/target/AccessPoint" "ANY" "Lcom/example/tributary/tributary/target/AccessPoint;") a0 Z = true := hw _ (List.mem_of_getElem? (i := 76) rfl)
theorem pn0 : plainName "com/example/tributary/tributary/target/AccessPointOfUsePinLaw" = true := by first | (simp [plainName, overriddenIn]; done) | decide +kernel
theorem pn1 : plainName "java/util/Objects" = true := by first | (simp [plainName, overriddenIn]; done) | decide +kernel
theorem pn2 : plainName "java/util/Optional" = true := by first | (simp [plainName, overriddenIn]; done) | decide +kernel
theorem pn3 : plainName "com/example/tributary/tributary/target/AccessPoint" = true := by first | (simp [plainName, overriddenIn]; done) | decide +kernel
theorem pd0 : parseMethodDescriptor "(Ljava/lang/Object;)Ljava/lang/Object;" = some ⟨[(.object "java/lang/Object")], some (.object "java/lang/Object")⟩ := by decide +kernel
theorem pd1 : parseMethodDescriptor "(Ljava/lang/Object;)V" = some ⟨[(.object "java/lang/Object")], none⟩ := by decide +kernel
theorem pd2 : parseMethodDescriptor "()[Lcom/example/tributary/tributary/target/AccessPoint;" = some ⟨[], some (.array (.object "com/example/tributary/tributary/target/AccessPoint"))⟩ := by decide +kernel
theorem pd3 : parseMethodDescriptor "()Ljava/util/Optional;" = some ⟨[], some (.object "java/util/Optional")⟩ := by decide +kernel
theorem pd4 : parseMethodDescriptor "(Ljava/lang/Object;)Ljava/util/Optional;" = some ⟨[(.object "java/lang/Object")], some (.object "java/util/Optional")⟩ := by decide +kernel
theorem pd5 : parseMethodDescriptor "(J)Ljava/util/Optional;" = some ⟨[.long], some (.object "java/util/Optional")⟩ := by decide +kernel
theorem pd6 : parseMethodDescriptor "(J)Lcom/example/tributary/tributary/target/AccessPoint;" = some ⟨[.long], some (.object "com/example/tributary/tributary/target/AccessPoint")⟩ := by decide +kernel
theorem pd7 : parseMethodDescriptor "()Z" = some ⟨[], some .boolean⟩ := by decide +kernel
theorem pd8 : parseMethodDescriptor "()Ljava/lang/Object;" = some ⟨[], some (.object "java/lang/Object")⟩ := by decide +kernel
theorem pd9 : parseMethodDescriptor "(I)J" = some ⟨[.int], some .long⟩ := by decide +kernel
theorem d_jdk_31_method_10_code_0 : decode jdk_31_method_10_code 0 = .ok (.aload_n 0, 1) := by decide +kernel
theorem d_jdk_31_method_10_code_1 : decode jdk_31_method_10_code 1 = .ok (.ifnonnull 11, 3) := by decide +kernel
theorem d_jdk_31_method_10_code_12 : decode jdk_31_method_10_code 12 = .ok (.aload_n 0, 1) := by decide +kernel
theorem d_jdk_31_method_10_code_13 : decode jdk_31_method_10_code 13 = .ok (.areturn, 1) := by decide +kernel
theorem d_jdk_32_method_1_code_0 : decode jdk_32_method_1_code 0 = .ok (.getstatic 1, 3) := by decide +kernel
theorem d_jdk_32_method_1_code_3 : decode jdk_32_method_1_code 3 = .ok (.astore_n 0, 1) := by decide +kernel
theorem d_jdk_32_method_1_code_4 : decode jdk_32_method_1_code 4 = .ok (.aload_n 0, 1) := by decide +kernel
theorem d_jdk_32_method_1_code_5 : decode jdk_32_method_1_code 5 = .ok (.areturn, 1) := by decide +kernel
theorem d_jdk_32_method_2_code_0 : decode jdk_32_method_2_code 0 = .ok (.aload_n 0, 1) := by decide +kernel
theorem d_jdk_32_method_2_code_1 : decode jdk_32_method_2_code 1 = .ok (.invokespecial 7, 3) := by decide +kernel
theorem d_jdk_32_method_2_code_4 : decode jdk_32_method_2_code 4 = .ok (.aload_n 0, 1) := by decide +kernel
theorem d_jdk_32_method_2_code_5 : decode jdk_32_method_2_code 5 = .ok (.aload_n 1, 1) := by decide +kernel
theorem d_jdk_32_method_2_code_6 : decode jdk_32_method_2_code 6 = .ok (.putfield 13, 3) := by decide +kernel
theorem d_jdk_32_method_2_code_9 : decode jdk_32_method_2_code 9 = .ok (.return_, 1) := by decide +kernel
theorem d_jdk_32_method_3_code_0 : decode jdk_32_method_3_code 0 = .ok (.new 2, 3) := by decide +kernel
theorem d_jdk_32_method_3_code_3 : decode jdk_32_method_3_code 3 = .ok (.dup, 1) := by decide +kernel
theorem d_jdk_32_method_3_code_4 : decode jdk_32_method_3_code 4 = .ok (.aload_n 0, 1) := by decide +kernel
theorem d_jdk_32_method_3_code_5 : decode jdk_32_method_3_code 5 = .ok (.invokestatic 17, 3) := by decide +kernel
theorem d_jdk_32_method_3_code_8 : decode jdk_32_method_3_code 8 = .ok (.invokespecial 23, 3) := by decide +kernel
theorem d_jdk_32_method_3_code_11 : decode jdk_32_method_3_code 11 = .ok (.areturn, 1) := by decide +kernel
theorem d_jdk_32_method_5_code_0 : decode jdk_32_method_5_code 0 = .ok (.aload_n 0, 1) := by decide +kernel
theorem d_jdk_32_method_5_code_1 : decode jdk_32_method_5_code 1 = .ok (.getfield 13, 3) := by decide +kernel
theorem d_jdk_32_method_5_code_4 : decode jdk_32_method_5_code 4 = .ok (.ifnonnull 13, 3) := by decide +kernel
theorem d_jdk_32_method_5_code_17 : decode jdk_32_method_5_code 17 = .ok (.aload_n 0, 1) := by decide +kernel
theorem d_jdk_32_method_5_code_18 : decode jdk_32_method_5_code 18 = .ok (.getfield 13, 3) := by decide +kernel
theorem d_jdk_32_method_5_code_21 : decode jdk_32_method_5_code 21 = .ok (.areturn, 1) := by decide +kernel
theorem d_jdk_32_method_6_code_0 : decode jdk_32_method_6_code 0 = .ok (.aload_n 0, 1) := by decide +kernel
theorem d_jdk_32_method_6_code_1 : decode jdk_32_method_6_code 1 = .ok (.getfield 13, 3) := by decide +kernel
theorem d_jdk_32_method_6_code_4 : decode jdk_32_method_6_code 4 = .ok (.ifnull 7, 3) := by decide +kernel
theorem d_jdk_32_method_6_code_7 : decode jdk_32_method_6_code 7 = .ok (.iconst 1, 1) := by decide +kernel
theorem d_jdk_32_method_6_code_8 : decode jdk_32_method_6_code 8 = .ok (.goto 4, 3) := by decide +kernel
theorem d_jdk_32_method_6_code_11 : decode jdk_32_method_6_code 11 = .ok (.iconst 0, 1) := by decide +kernel
theorem d_jdk_32_method_6_code_12 : decode jdk_32_method_6_code 12 = .ok (.ireturn, 1) := by decide +kernel
theorem d_method_2_code_0 : decode method_2_code 0 = .ok (.iload_n 0, 1) := by decide +kernel
theorem d_method_2_code_1 : decode method_2_code 1 = .ok (.ifCond .ne 7, 3) := by decide +kernel
theorem d_method_2_code_4 : decode method_2_code 4 = .ok (.ldc2_w 7, 3) := by decide +kernel
theorem d_method_2_code_7 : decode method_2_code 7 = .ok (.lreturn, 1) := by decide +kernel
theorem d_method_2_code_8 : decode method_2_code 8 = .ok (.iload_n 0, 1) := by decide +kernel
theorem d_method_2_code_9 : decode method_2_code 9 = .ok (.iconst 1, 1) := by decide +kernel
theorem d_method_2_code_10 : decode method_2_code 10 = .ok (.if_icmp .ne 7, 3) := by decide +kernel
theorem d_method_2_code_13 : decode method_2_code 13 = .ok (.ldc2_w 9, 3) := by decide +kernel
theorem d_method_2_code_16 : decode method_2_code 16 = .ok (.lreturn, 1) := by decide +kernel
theorem d_method_2_code_17 : decode method_2_code 17 = .ok (.iload_n 0, 1) := by decide +kernel
theorem d_method_2_code_18 : decode method_2_code 18 = .ok (.iconst 2, 1) := by decide +kernel
theorem d_method_2_code_19 : decode method_2_code 19 = .ok (.if_icmp .ne 7, 3) := by decide +kernel
theorem d_method_2_code_22 : decode method_2_code 22 = .ok (.ldc2_w 11, 3) := by decide +kernel
theorem d_method_2_code_25 : decode method_2_code 25 = .ok (.lreturn, 1) := by decide +kernel
theorem d_method_2_code_26 : decode method_2_code 26 = .ok (.iload_n 0, 1) := by decide +kernel
theorem d_method_2_code_27 : decode method_2_code 27 = .ok (.iconst 3, 1) := by decide +kernel
theorem d_method_2_code_28 : decode method_2_code 28 = .ok (.if_icmp .ne 7, 3) := by decide +kernel
theorem d_method_2_code_31 : decode method_2_code 31 = .ok (.ldc2_w 13, 3) := by decide +kernel
theorem d_method_2_code_34 : decode method_2_code 34 = .ok (.lreturn, 1) := by decide +kernel
theorem d_method_2_code_35 : decode method_2_code 35 = .ok (.ldc2_w 15, 3) := by decide +kernel
theorem d_method_2_code_38 : decode method_2_code 38 = .ok (.lreturn, 1) := by decide +kernel
theorem d_method_3_code_0 : decode method_3_code 0 = .ok (.lload_n 0, 1) := by decide +kernel
theorem d_method_3_code_1 : decode method_3_code 1 = .ok (.ldc2_w 7, 3) := by decide +kernel
theorem d_method_3_code_4 : decode method_3_code 4 = .ok (.lcmp, 1) := by decide +kernel
theorem d_method_3_code_5 : decode method_3_code 5 = .ok (.ifCond .ne 7, 3) := by decide +kernel
theorem d_method_3_code_8 : decode method_3_code 8 = .ok (.getstatic 17, 3) := by decide +kernel
theorem d_method_3_code_11 : decode method_3_code 11 = .ok (.areturn, 1) := by decide +kernel
theorem d_method_3_code_12 : decode method_3_code 12 = .ok (.lload_n 0, 1) := by decide +kernel
theorem d_method_3_code_13 : decode method_3_code 13 = .ok (.ldc2_w 9, 3) := by decide +kernel
theorem d_method_3_code_16 : decode method_3_code 16 = .ok (.lcmp, 1) := by decide +kernel
theorem d_method_3_code_17 : decode method_3_code 17 = .ok (.ifCond .ne 7, 3) := by decide +kernel
theorem d_method_3_code_20 : decode method_3_code 20 = .ok (.getstatic 23, 3) := by decide +kernel
theorem d_method_3_code_23 : decode method_3_code 23 = .ok (.areturn, 1) := by decide +kernel
theorem d_method_3_code_24 : decode method_3_code 24 = .ok (.lload_n 0, 1) := by decide +kernel
theorem d_method_3_code_25 : decode method_3_code 25 = .ok (.ldc2_w 11, 3) := by decide +kernel
theorem d_method_3_code_28 : decode method_3_code 28 = .ok (.lcmp, 1) := by decide +kernel
theorem d_method_3_code_29 : decode method_3_code 29 = .ok (.ifCond .ne 7, 3) := by decide +kernel
theorem d_method_3_code_32 : decode method_3_code 32 = .ok (.getstatic 26, 3) := by decide +kernel
theorem d_method_3_code_35 : decode method_3_code 35 = .ok (.areturn, 1) := by decide +kernel
theorem d_method_3_code_36 : decode method_3_code 36 = .ok (.lload_n 0, 1) := by decide +kernel
theorem d_method_3_code_37 : decode method_3_code 37 = .ok (.ldc2_w 13, 3) := by decide +kernel
theorem d_method_3_code_40 : decode method_3_code 40 = .ok (.lcmp, 1) := by decide +kernel
theorem d_method_3_code_41 : decode method_3_code 41 = .ok (.ifCond .ne 7, 3) := by decide +kernel
theorem d_method_3_code_44 : decode method_3_code 44 = .ok (.getstatic 29, 3) := by decide +kernel
theorem d_method_3_code_47 : decode method_3_code 47 = .ok (.areturn, 1) := by decide +kernel
theorem d_method_3_code_48 : decode method_3_code 48 = .ok (.lload_n 0, 1) := by decide +kernel
theorem d_method_3_code_49 : decode method_3_code 49 = .ok (.ldc2_w 15, 3) := by decide +kernel
theorem d_method_3_code_52 : decode method_3_code 52 = .ok (.lcmp, 1) := by decide +kernel
theorem d_method_3_code_53 : decode method_3_code 53 = .ok (.ifCond .ne 7, 3) := by decide +kernel
theorem d_method_3_code_56 : decode method_3_code 56 = .ok (.getstatic 32, 3) := by decide +kernel
theorem d_method_3_code_59 : decode method_3_code 59 = .ok (.areturn, 1) := by decide +kernel
theorem d_method_3_code_60 : decode method_3_code 60 = .ok (.aconst_null, 1) := by decide +kernel
theorem d_method_3_code_61 : decode method_3_code 61 = .ok (.areturn, 1) := by decide +kernel
theorem d_prog_47_method_1_code_0 : decode prog_47_method_1_code 0 = .ok (.getstatic 19, 3) := by decide +kernel
theorem d_prog_47_method_1_code_3 : decode prog_47_method_1_code 3 = .ok (.invokevirtual 23, 3) := by decide +kernel
theorem d_prog_47_method_1_code_6 : decode prog_47_method_1_code 6 = .ok (.checkcast 24, 3) := by decide +kernel
theorem d_prog_47_method_1_code_9 : decode prog_47_method_1_code 9 = .ok (.areturn, 1) := by decide +kernel
theorem d_prog_47_method_4_code_0 : decode prog_47_method_4_code 0 = .ok (.invokestatic 50, 3) := by decide +kernel
theorem d_prog_47_method_4_code_3 : decode prog_47_method_4_code 3 = .ok (.astore_n 2, 1) := by decide +kernel
theorem d_prog_47_method_4_code_4 : decode prog_47_method_4_code 4 = .ok (.aload_n 2, 1) := by decide +kernel
theorem d_prog_47_method_4_code_5 : decode prog_47_method_4_code 5 = .ok (.arraylength, 1) := by decide +kernel
theorem d_prog_47_method_4_code_6 : decode prog_47_method_4_code 6 = .ok (.istore_n 3, 1) := by decide +kernel
theorem d_prog_47_method_4_code_7 : decode prog_47_method_4_code 7 = .ok (.iconst 0, 1) := by decide +kernel
theorem d_prog_47_method_4_code_8 : decode prog_47_method_4_code 8 = .ok (.istore 4, 2) := by decide +kernel
theorem d_prog_47_method_4_code_10 : decode prog_47_method_4_code 10 = .ok (.iload 4, 2) := by decide +kernel
theorem d_prog_47_method_4_code_12 : decode prog_47_method_4_code 12 = .ok (.iload_n 3, 1) := by decide +kernel
theorem d_prog_47_method_4_code_13 : decode prog_47_method_4_code 13 = .ok (.if_icmp .ge 32, 3) := by decide +kernel
theorem d_prog_47_method_4_code_16 : decode prog_47_method_4_code 16 = .ok (.aload_n 2, 1) := by decide +kernel
theorem d_prog_47_method_4_code_17 : decode prog_47_method_4_code 17 = .ok (.iload 4, 2) := by decide +kernel
theorem d_prog_47_method_4_code_19 : decode prog_47_method_4_code 19 = .ok (.aaload, 1) := by decide +kernel
theorem d_prog_47_method_4_code_20 : decode prog_47_method_4_code 20 = .ok (.astore 5, 2) := by decide +kernel
theorem d_prog_47_method_4_code_22 : decode prog_47_method_4_code 22 = .ok (.aload 5, 2) := by decide +kernel
theorem d_prog_47_method_4_code_24 : decode prog_47_method_4_code 24 = .ok (.getfield 38, 3) := by decide +kernel
theorem d_prog_47_method_4_code_27 : decode prog_47_method_4_code 27 = .ok (.i2l, 1) := by decide +kernel
theorem d_prog_47_method_4_code_28 : decode prog_47_method_4_code 28 = .ok (.lload_n 0, 1) := by decide +kernel
theorem d_prog_47_method_4_code_29 : decode prog_47_method_4_code 29 = .ok (.lcmp, 1) := by decide +kernel
theorem d_prog_47_method_4_code_30 : decode prog_47_method_4_code 30 = .ok (.ifCond .ne 9, 3) := by decide +kernel
theorem d_prog_47_method_4_code_33 : decode prog_47_method_4_code 33 = .ok (.aload 5, 2) := by decide +kernel
theorem d_prog_47_method_4_code_35 : decode prog_47_method_4_code 35 = .ok (.invokestatic 54, 3) := by decide +kernel
theorem d_prog_47_method_4_code_38 : decode prog_47_method_4_code 38 = .ok (.areturn, 1) := by decide +kernel
theorem d_prog_47_method_4_code_39 : decode prog_47_method_4_code 39 = .ok (.iinc 4 1, 3) := by decide +kernel
theorem d_prog_47_method_4_code_42 : decode prog_47_method_4_code 42 = .ok (.goto (-32), 3) := by decide +kernel
theorem d_prog_47_method_4_code_45 : decode prog_47_method_4_code 45 = .ok (.invokestatic 60, 3) := by decide +kernel
theorem d_prog_47_method_4_code_48 : decode prog_47_method_4_code 48 = .ok (.areturn, 1) := by decide +kernel
theorem own_eqI {args : Array Value} {first s : State} {o : Option Outcome} {idx : List Nat} {t : Term} {k : Int32} (h : (Jvm.Cond.eq t (.int k)).value args first o s idx = some true) : t.eval args first o idx s = some (.int k) := by
  obtain ⟨v, w, hv, hw, hk, hk'⟩ := cmp_v (Or.inl h)
  cases (Term.int_eval k).symm.trans hw
  obtain ⟨z, rfl⟩ : ∃ z, v = .int z := hk'
  have q : (Jvm.Cond.eq t (.int k)).value args first o s idx = some (decide (z = k)) := by simp [Cond.value, hv, hw]
  rw [hv, gotT q h]
theorem own_eqR {args : Array Value} {first s : State} {o : Option Outcome} {idx : List Nat} {t u : Term} {b : Addr} (h : (Jvm.Cond.eq t u).value args first o s idx = some true) (hu : u.eval args first o idx s = some (.ref b)) : t.eval args first o idx s = some (.ref b) := by
  obtain ⟨v, w, hv, hw, hk, hk'⟩ := cmp_v (Or.inl h)
  cases hu.symm.trans hw
  have hr : v.isRef = true := (show (Value.ref b).isRef = true ∧ v.isRef = true from hk').2
  rw [hv, gotT (eq_R hv hu hr rfl) h]
theorem own_arr {s : State} {args : Array Value} {t : Term} {a : Addr} {cl : Cell} {ty : FieldType} {n : Int32} {vs : List Value} {dv : Value} (hf : Fit s) (A : Arr s s.heap a cl ty) (ev : t.eval args s none [] s = some (.ref a)) (hl : (Term.length t).eval args s none [] s = some (.int n)) (hn : ¬ n < 0) (hv : n.toNatClampNeg = vs.length) (H : HasL cl 0 vs) : Arv s s.heap a cl.cls ty n vs dv := by
  obtain ⟨d, arr, e1, e2, e3, e4⟩ := Jvm.Free.SB.Term.length_small hl
  cases ev.symm.trans e1
  cases (A.fin (Vm.Alike.refl _)).symm.trans e2
  exact Arv.start hf A e4 (Value.int.inj e3).symm hn hv H
def own_fnd (a_TITLE a_AUTHOR a_SUBJECT a_ISBN a_ANY : Addr) (n : Int64) : Value := if n = 4 then .ref a_TITLE else if n = 1003 then .ref a_AUTHOR else if n = 21 then .ref a_SUBJECT else if n = 7 then .ref a_ISBN else if n = 1016 then .ref a_ANY else .null
theorem own_fnd_ref (a_TITLE a_AUTHOR a_SUBJECT a_ISBN a_ANY : Addr) (n : Int64) : own_fnd a_TITLE a_AUTHOR a_SUBJECT a_ISBN a_ANY n = .null ∨ ∃ b, own_fnd a_TITLE a_AUTHOR a_SUBJECT a_ISBN a_ANY n = .ref b := by
  unfold own_fnd
  repeat' split
  all_goals first | exact Or.inl rfl | exact Or.inr ⟨_, rfl⟩
set_option maxRecDepth 65536 in
set_option maxHeartbeats 4000000 in
theorem rm_method_2_code {l : Launch} {Z : State} {a0 : Array Value} (hw : HW Z a0) (j : Int32)  {h0 : Heap} (hE : Ext Z.heap h0) :
    OMeets l Z (⟨"com/example/tributary/tributary/target/AccessPointOfUsePinLaw", "useOf", "(I)J"⟩ : MethodName) method_2_code 1 (some .long) ({ frames := 0, cells := 0, slots := 0, locals := 0 } : Room) #[(.int j)] h0 [] (fun v h => (∃ w, v = some (.long w)) ∧ h0 = h) := by
  refine OMeets.body (plainFor_of_name pn0) hE #[.val (.int j)] (fun m => by first | rfl | (simp [entryFrame, mkF, argsToLocals, Value.category, maxLocals]; done)) ?_
  intro p e s m below meth co T S
  refine Go.iloadN S d_method_2_code_0 rfl (pc' := 1) rfl ?_
  refine Go.if_ne S d_method_2_code_1 (pt := 8) (by decide) (pc' := 4) rfl ?_ ?_
  · intro c1
    refine Go.iloadN S d_method_2_code_8 rfl (pc' := 9) rfl ?_
    refine Go.iconst S (v := 1) d_method_2_code_9 rfl (pc' := 10) rfl ?_
    refine Go.icmp_ne S d_method_2_code_10 (pt := 17) (by decide) (pc' := 13) rfl ?_ ?_
    · intro c10
      refine Go.iloadN S d_method_2_code_17 rfl (pc' := 18) rfl ?_
      refine Go.iconst S (v := 2) d_method_2_code_18 rfl (pc' := 19) rfl ?_
      refine Go.icmp_ne S d_method_2_code_19 (pt := 26) (by decide) (pc' := 22) rfl ?_ ?_
      · intro c19
        refine Go.iloadN S d_method_2_code_26 rfl (pc' := 27) rfl ?_
        refine Go.iconst S (v := 3) d_method_2_code_27 rfl (pc' := 28) rfl ?_
        refine Go.icmp_ne S d_method_2_code_28 (pt := 35) (by decide) (pc' := 31) rfl ?_ ?_
        · intro c28
          refine Go.ldc2 S (wd42 hw) d_method_2_code_35 (pc' := 38) rfl ?_
          exact Go.lreturn S rfl d_method_2_code_38 (by decide) (by decide) (⟨⟨_, rfl⟩, rfl⟩)
        · intro c28
          refine Go.ldc2 S (wd41 hw) d_method_2_code_31 (pc' := 34) rfl ?_
          exact Go.lreturn S rfl d_method_2_code_34 (by decide) (by decide) (⟨⟨_, rfl⟩, rfl⟩)
      · intro c19
        refine Go.ldc2 S (wd40 hw) d_method_2_code_22 (pc' := 25) rfl ?_
        exact Go.lreturn S rfl d_method_2_code_25 (by decide) (by decide) (⟨⟨_, rfl⟩, rfl⟩)
    · intro c10
      refine Go.ldc2 S (wd39 hw) d_method_2_code_13 (pc' := 16) rfl ?_
      exact Go.lreturn S rfl d_method_2_code_16 (by decide) (by decide) (⟨⟨_, rfl⟩, rfl⟩)
  · intro c1
    refine Go.ldc2 S (wd4 hw) d_method_2_code_4 (pc' := 7) rfl ?_
    exact Go.lreturn S rfl d_method_2_code_7 (by decide) (by decide) (⟨⟨_, rfl⟩, rfl⟩)
set_option maxRecDepth 65536 in
set_option maxHeartbeats 4000000 in
theorem rm_method_3_code {l : Launch} {Z : State} {a0 : Array Value} (hw : HW Z a0) (n : Int64) (a_TITLE a_AUTHOR a_SUBJECT a_ISBN a_ANY : Addr) {h0 : Heap} (hE : Ext Z.heap h0) (St_TITLE : Sta Z Z.heap "com/example/tributary/tributary/target/AccessPoint" "TITLE" "Lcom/example/tributary/tributary/target/AccessPoint;" (.ref a_TITLE)) (St_AUTHOR : Sta Z Z.heap "com/example/tributary/tributary/target/AccessPoint" "AUTHOR" "Lcom/example/tributary/tributary/target/AccessPoint;" (.ref a_AUTHOR)) (St_SUBJECT : Sta Z Z.heap "com/example/tributary/tributary/target/AccessPoint" "SUBJECT" "Lcom/example/tributary/tributary/target/AccessPoint;" (.ref a_SUBJECT)) (St_ISBN : Sta Z Z.heap "com/example/tributary/tributary/target/AccessPoint" "ISBN" "Lcom/example/tributary/tributary/target/AccessPoint;" (.ref a_ISBN)) (St_ANY : Sta Z Z.heap "com/example/tributary/tributary/target/AccessPoint" "ANY" "Lcom/example/tributary/tributary/target/AccessPoint;" (.ref a_ANY)) :
    OMeets l Z (⟨"com/example/tributary/tributary/target/AccessPointOfUsePinLaw", "expected", "(J)Lcom/example/tributary/tributary/target/AccessPoint;"⟩ : MethodName) method_3_code 2 (some (.object "com/example/tributary/tributary/target/AccessPoint")) ({ frames := 0, cells := 0, slots := 0, locals := 0 } : Room) #[(.long n)] h0 [] (fun v h => v = some (own_fnd a_TITLE a_AUTHOR a_SUBJECT a_ISBN a_ANY n) ∧ h0 = h) := by
  refine OMeets.body (plainFor_of_name pn0) hE #[.val (.long n), .second] (fun m => by first | rfl | (simp [entryFrame, mkF, argsToLocals, Value.category, maxLocals]; done)) ?_
  intro p e s m below meth co T S
  refine Go.lloadN S d_method_3_code_0 rfl (pc' := 1) rfl ?_
  refine Go.ldc2 S (wd4 hw) d_method_3_code_1 (pc' := 4) rfl ?_
  refine Go.lcmp_ne S d_method_3_code_4 (pc1 := 5) rfl d_method_3_code_5 (pt := 12) (by decide) (pc' := 8) rfl ?_ ?_
  · intro c4
    refine Go.lloadN S d_method_3_code_12 rfl (pc' := 13) rfl ?_
    refine Go.ldc2 S (wd39 hw) d_method_3_code_13 (pc' := 16) rfl ?_
    refine Go.lcmp_ne S d_method_3_code_16 (pc1 := 17) rfl d_method_3_code_17 (pt := 24) (by decide) (pc' := 20) rfl ?_ ?_
    · intro c16
      refine Go.lloadN S d_method_3_code_24 rfl (pc' := 25) rfl ?_
      refine Go.ldc2 S (wd40 hw) d_method_3_code_25 (pc' := 28) rfl ?_
      refine Go.lcmp_ne S d_method_3_code_28 (pc1 := 29) rfl d_method_3_code_29 (pt := 36) (by decide) (pc' := 32) rfl ?_ ?_
      · intro c28
        refine Go.lloadN S d_method_3_code_36 rfl (pc' := 37) rfl ?_
        refine Go.ldc2 S (wd41 hw) d_method_3_code_37 (pc' := 40) rfl ?_
        refine Go.lcmp_ne S d_method_3_code_40 (pc1 := 41) rfl d_method_3_code_41 (pt := 48) (by decide) (pc' := 44) rfl ?_ ?_
        · intro c40
          refine Go.lloadN S d_method_3_code_48 rfl (pc' := 49) rfl ?_
          refine Go.ldc2 S (wd42 hw) d_method_3_code_49 (pc' := 52) rfl ?_
          refine Go.lcmp_ne S d_method_3_code_52 (pc1 := 53) rfl d_method_3_code_53 (pt := 60) (by decide) (pc' := 56) rfl ?_ ?_
          · intro c52
            refine Go.aconst_null S d_method_3_code_60 (pc' := 61) rfl ?_
            exact Go.areturn S rfl rfl rfl d_method_3_code_61 (by decide) (by decide) (⟨by unfold own_fnd; rw [if_neg c4, if_neg c16, if_neg c28, if_neg c40, if_neg c52], rfl⟩)
          · intro c52
            refine Go.getstatic S (host := "") (Or.inl (wd76 hw)) Via.refl St_ANY d_method_3_code_56 (pc' := 59) rfl ?_
            intro T1 S1
            exact Go.areturn S1 rfl rfl rfl d_method_3_code_59 (by decide) (by decide) (⟨by unfold own_fnd; rw [if_neg c4, if_neg c16, if_neg c28, if_neg c40, if_pos c52], rfl⟩)
        · intro c40
          refine Go.getstatic S (host := "") (Or.inl (wd74 hw)) Via.refl St_ISBN d_method_3_code_44 (pc' := 47) rfl ?_
          intro T2 S2
          exact Go.areturn S2 rfl rfl rfl d_method_3_code_47 (by decide) (by decide) (⟨by unfold own_fnd; rw [if_neg c4, if_neg c16, if_neg c28, if_pos c40], rfl⟩)
      · intro c28
        refine Go.getstatic S (host := "") (Or.inl (wd75 hw)) Via.refl St_SUBJECT d_method_3_code_32 (pc' := 35) rfl ?_
        intro T3 S3
        exact Go.areturn S3 rfl rfl rfl d_method_3_code_35 (by decide) (by decide) (⟨by unfold own_fnd; rw [if_neg c4, if_neg c16, if_pos c28], rfl⟩)
    · intro c16
      refine Go.getstatic S (host := "") (Or.inl (wd67 hw)) Via.refl St_AUTHOR d_method_3_code_20 (pc' := 23) rfl ?_
      intro T4 S4
      exact Go.areturn S4 rfl rfl rfl d_method_3_code_23 (by decide) (by decide) (⟨by unfold own_fnd; rw [if_neg c4, if_pos c16], rfl⟩)
  · intro c4
    refine Go.getstatic S (host := "") (Or.inl (wd73 hw)) Via.refl St_TITLE d_method_3_code_8 (pc' := 11) rfl ?_
    intro T5 S5
    exact Go.areturn S5 rfl rfl rfl d_method_3_code_11 (by decide) (by decide) (⟨by unfold own_fnd; rw [if_pos c4], rfl⟩)
set_option maxRecDepth 65536 in
set_option maxHeartbeats 4000000 in
theorem rm_jdk_31_method_10_code {l : Launch} {Z : State} {a0 : Array Value} (hw : HW Z a0) (a : Addr)  {h0 : Heap} (hE : Ext Z.heap h0) :
    OMeets l Z (⟨"java/util/Objects", "requireNonNull", "(Ljava/lang/Object;)Ljava/lang/Object;"⟩ : MethodName) jdk_31_method_10_code 1 (some (.object "java/lang/Object")) ({ frames := 0, cells := 0, slots := 0, locals := 0 } : Room) #[(.ref a)] h0 [] (fun v h => v = some (.ref a) ∧ h0 = h) := by
  refine OMeets.body (plainFor_of_name pn1) hE #[.val (.ref a)] (fun m => by first | rfl | (simp [entryFrame, mkF, argsToLocals, Value.category, maxLocals]; done)) ?_
  intro p e s m below meth co T S
  refine Go.aloadN S d_jdk_31_method_10_code_0 rfl rfl (pc' := 1) rfl ?_
  refine Go.ifnonnullY S d_jdk_31_method_10_code_1 (pt := 12) (by decide) ?_
  refine Go.aloadN S d_jdk_31_method_10_code_12 rfl rfl (pc' := 13) rfl ?_
  exact Go.areturn S rfl rfl rfl d_jdk_31_method_10_code_13 (by decide) (by decide) (⟨rfl, rfl⟩)
set_option maxRecDepth 65536 in
set_option maxHeartbeats 4000000 in
theorem rm_jdk_32_method_2_code {l : Launch} {Z : State} {a0 : Array Value} (hw : HW Z a0) (a : Addr) (b : Addr)  {h0 : Heap} (hE : Ext Z.heap h0) (hz : Z.heap.size ≤ a) (E : Exa Z h0 a "java/util/Optional") (F : Fld Z h0 a "java/util/Optional" "value" "Ljava/lang/Object;" .null) :
    OMeets l Z (⟨"java/util/Optional", "<init>", "(Ljava/lang/Object;)V"⟩ : MethodName) jdk_32_method_2_code 2 none ({ frames := 1, cells := 0, slots := 0, locals := 12 } : Room) #[(.ref a), (.ref b)] h0 [a] (fun v h => v = none ∧ Fld Z h a "java/util/Optional" "value" "Ljava/lang/Object;" (.ref b)) := by
  refine OMeets.body (plainFor_of_name pn2) hE #[.val (.ref a), .val (.ref b)] (fun m => by first | rfl | (simp [entryFrame, mkF, argsToLocals, Value.category, maxLocals]; done)) ?_
  intro p e s m below meth co T S
  refine Go.aloadN S d_jdk_32_method_2_code_0 rfl rfl (pc' := 1) rfl ?_
  refine Go.initObject S (wd64 hw) (wd65 hw) (wd66 hw) d_jdk_32_method_2_code_1 rfl (by decide) (W := 0) rfl (by decide) (pc' := 4) rfl ?_
  intro T1 S1
  refine Go.aloadN S1 d_jdk_32_method_2_code_4 rfl rfl (pc' := 5) rfl ?_
  refine Go.aloadN S1 d_jdk_32_method_2_code_5 rfl rfl (pc' := 6) rfl ?_
  refine Go.putfield S1 (host := "") (Or.inl (wd48 hw)) Via.refl F E (Or.inr ⟨(wd49 hw), rfl, rfl⟩) (wd55 hw) (ty := (.object "java/lang/Object")) (by decide) rfl rfl hz (Or.inl (List.mem_singleton.mpr rfl)) d_jdk_32_method_2_code_6 (pc' := 9) rfl ?_
  intro T2 h2 L2 S2 W2
  have F2 := F.same W2
  replace E := E.wr W2
  exact Go.vreturn S2 rfl d_jdk_32_method_2_code_9 (by decide) (by decide) (⟨rfl, F2⟩)
set_option maxRecDepth 65536 in
set_option maxHeartbeats 4000000 in
theorem rm_jdk_32_method_3_code {l : Launch} {Z : State} {a0 : Array Value} (hw : HW Z a0) (b : Addr)  {h0 : Heap} (hE : Ext Z.heap h0) :
    OMeets l Z (⟨"java/util/Optional", "of", "(Ljava/lang/Object;)Ljava/util/Optional;"⟩ : MethodName) jdk_32_method_3_code 1 (some (.object "java/util/Optional")) ({ frames := 2, cells := 1, slots := 1, locals := 26 } : Room) #[(.ref b)] h0 [] (fun v h => ∃ r, v = some (.ref r) ∧ Exa Z h r "java/util/Optional" ∧ Fld Z h r "java/util/Optional" "value" "Ljava/lang/Object;" (.ref b)) := by
  refine OMeets.body (plainFor_of_name pn2) hE #[.val (.ref b)] (fun m => by first | rfl | (simp [entryFrame, mkF, argsToLocals, Value.category, maxLocals]; done)) ?_
  intro p e s m below meth co T S
  refine Go.new S (wd54 hw) (wd55 hw) (wd33 hw) d_jdk_32_method_3_code_0 (by decide) (by decide) (pc' := 3) rfl ?_
  intro T1 h1 a1 S1 E1 hg1 hz1 hk1 X1 D1
  have F1_value : Fld Z h1 a1 "java/util/Optional" "value" "Ljava/lang/Object;" .null := D1 (Or.inr (wd49 hw)) (ty := (.object "java/lang/Object")) (by decide)
  refine Go.dup S1 d_jdk_32_method_3_code_3 rfl (pc' := 4) rfl ?_
  refine Go.aloadN S1 d_jdk_32_method_3_code_4 rfl rfl (pc' := 5) rfl ?_
  refine Go.invokestatic S1 (y := ⟨"java/util/Objects", "requireNonNull", "(Ljava/lang/Object;)Ljava/lang/Object;"⟩) (rm_jdk_31_method_10_code hw b S1.ext) (wd56 hw) (wd57 hw) (wd58 hw) (wd59 hw) (by decide) d_jdk_32_method_3_code_5 rfl pd0 (argsL := [(.ref b)]) rfl rfl rfl (by decide) (W := 2) rfl (by decide) (by decide) (by decide) all0 (pc' := 8) rfl ?_
  intro v2 T2 h2 L2 S2 K2 q2
  obtain ⟨rfl, rfl⟩ := q2
  show Go _ _ _ _ T2 (mkF m 8 #[.val (.ref b)] [(.ref b), (.ref a1), (.ref a1)])
  refine Go.invokespecial S2 (y := ⟨"java/util/Optional", "<init>", "(Ljava/lang/Object;)V"⟩) (rm_jdk_32_method_2_code hw a1 b S2.ext hz1 X1 F1_value) rfl rfl (wd60 hw) (wd61 hw) (wd33 hw) (wd63 hw) (by decide) d_jdk_32_method_3_code_8 rfl pd1 (argsL := [(.ref b)]) rfl rfl rfl (by decide) (W := 1) rfl (by decide) (by decide) (by decide) (allS (Or.inr hk1) all0) (pc' := 11) rfl ?_
  intro v3 T3 h3 L3 S3 K3 q3
  obtain ⟨rfl, G3⟩ := q3
  replace X1 := X1.keep K3
  show Go _ _ _ _ T3 (mkF m 11 #[.val (.ref b)] [(.ref a1)])
  exact Go.areturn S3 rfl rfl rfl d_jdk_32_method_3_code_11 (by decide) (by decide) (⟨a1, rfl, X1, G3⟩)
set_option maxRecDepth 65536 in
set_option maxHeartbeats 4000000 in
theorem rm_jdk_32_method_1_code {l : Launch} {Z : State} {a0 : Array Value} (hw : HW Z a0)  (ae : Addr) {h0 : Heap} (hE : Ext Z.heap h0) (Se : Sta Z Z.heap "java/util/Optional" "EMPTY" "Ljava/util/Optional;" (.ref ae)) :
    OMeets l Z (⟨"java/util/Optional", "empty", "()Ljava/util/Optional;"⟩ : MethodName) jdk_32_method_1_code 1 (some (.object "java/util/Optional")) ({ frames := 0, cells := 0, slots := 0, locals := 0 } : Room) #[] h0 [] (fun v h => v = some (.ref ae) ∧ h0 = h) := by
  refine OMeets.body (plainFor_of_name pn2) hE #[.unset] (fun m => by first | rfl | (simp [entryFrame, mkF, argsToLocals, Value.category, maxLocals]; done)) ?_
  intro p e s m below meth co T S
  refine Go.getstatic S (host := "") (Or.inl (wd35 hw)) Via.refl Se d_jdk_32_method_1_code_0 (pc' := 3) rfl ?_
  intro T1 S1
  refine Go.astoreN S1 d_jdk_32_method_1_code_3 rfl (Ls' := #[.val (.ref ae)]) rfl (pc' := 4) rfl ?_
  refine Go.aloadN S1 d_jdk_32_method_1_code_4 rfl rfl (pc' := 5) rfl ?_
  exact Go.areturn S1 rfl rfl rfl d_jdk_32_method_1_code_5 (by decide) (by decide) (⟨rfl, rfl⟩)
set_option maxRecDepth 65536 in
set_option maxHeartbeats 4000000 in
theorem rm_prog_47_method_1_code {l : Launch} {Z : State} {a0 : Array Value} (hw : HW Z a0)  (a__VALUES a_TITLE a_AUTHOR a_SUBJECT a_ISBN a_ANY : Addr) (k_a__VALUES : ClassId) (hfit : Fit Z) {h0 : Heap} (hE : Ext Z.heap h0) (St__VALUES : Sta Z Z.heap "com/example/tributary/tributary/target/AccessPoint" "$VALUES" "[Lcom/example/tributary/tributary/target/AccessPoint;" (.ref a__VALUES)) (X_a__VALUES : Exa Z Z.heap a__VALUES "[Lcom/example/tributary/tributary/target/AccessPoint;") (V_a__VALUES : Arv Z Z.heap a__VALUES k_a__VALUES (.object "com/example/tributary/tributary/target/AccessPoint") 5 [(.ref a_TITLE), (.ref a_AUTHOR), (.ref a_SUBJECT), (.ref a_ISBN), (.ref a_ANY)] .null) :
    OMeets l Z (⟨"com/example/tributary/tributary/target/AccessPoint", "values", "()[Lcom/example/tributary/tributary/target/AccessPoint;"⟩ : MethodName) prog_47_method_1_code 0 (some (.array (.object "com/example/tributary/tributary/target/AccessPoint"))) ({ frames := 1, cells := 1, slots := 5, locals := 14 } : Room) #[] h0 [] (fun v h => ∃ r, v = some (.ref r) ∧ Arv Z h r k_a__VALUES (.object "com/example/tributary/tributary/target/AccessPoint") 5 [(.ref a_TITLE), (.ref a_AUTHOR), (.ref a_SUBJECT), (.ref a_ISBN), (.ref a_ANY)] .null) := by
  refine OMeets.body (plainFor_of_name pn3) hE #[] (fun m => by first | rfl | (simp [entryFrame, mkF, argsToLocals, Value.category, maxLocals]; done)) ?_
  intro p e s m below meth co T S
  refine Go.getstatic S (host := "") (Or.inl (wd12 hw)) Via.refl St__VALUES d_prog_47_method_1_code_0 (pc' := 3) rfl ?_
  intro T1 S1
  refine Go.clone S1 (wd14 hw) (wd15 hw) (wd19 hw) (wd17 hw) (wd18 hw) (wd20 hw) V_a__VALUES hfit X_a__VALUES d_prog_47_method_1_code_3 rfl (by decide) (W := 0) rfl (by decide) (cap := 5) (by decide) (by decide) (by decide) (pc' := 6) rfl ?_
  intro T2 h2 b2 S2 E2 hg2 V2 X2
  refine Go.checkcast S2 (wd27 hw) (Ins.self X2) d_prog_47_method_1_code_6 (pc' := 9) rfl ?_
  intro T3 S3
  exact Go.areturn S3 rfl rfl rfl d_prog_47_method_1_code_9 (by decide) (by decide) (⟨b2, rfl, V2⟩)
set_option maxRecDepth 65536 in
set_option maxHeartbeats 4000000 in
theorem rm_prog_47_method_4_code {l : Launch} {Z : State} {a0 : Array Value} (hw : HW Z a0) (n : Int64) (a__VALUES a_TITLE a_AUTHOR a_SUBJECT a_ISBN a_ANY ae : Addr) (k_a__VALUES : ClassId) (hfit : Fit Z) {h0 : Heap} (hE : Ext Z.heap h0) (St__VALUES : Sta Z Z.heap "com/example/tributary/tributary/target/AccessPoint" "$VALUES" "[Lcom/example/tributary/tributary/target/AccessPoint;" (.ref a__VALUES)) (X_a__VALUES : Exa Z Z.heap a__VALUES "[Lcom/example/tributary/tributary/target/AccessPoint;") (V_a__VALUES : Arv Z Z.heap a__VALUES k_a__VALUES (.object "com/example/tributary/tributary/target/AccessPoint") 5 [(.ref a_TITLE), (.ref a_AUTHOR), (.ref a_SUBJECT), (.ref a_ISBN), (.ref a_ANY)] .null) (F_a_TITLE_m_nUse : Fld Z Z.heap a_TITLE "com/example/tributary/tributary/target/AccessPoint" "m_nUse" "I" (.int 4)) (F_a_AUTHOR_m_nUse : Fld Z Z.heap a_AUTHOR "com/example/tributary/tributary/target/AccessPoint" "m_nUse" "I" (.int 1003)) (F_a_SUBJECT_m_nUse : Fld Z Z.heap a_SUBJECT "com/example/tributary/tributary/target/AccessPoint" "m_nUse" "I" (.int 21)) (F_a_ISBN_m_nUse : Fld Z Z.heap a_ISBN "com/example/tributary/tributary/target/AccessPoint" "m_nUse" "I" (.int 7)) (F_a_ANY_m_nUse : Fld Z Z.heap a_ANY "com/example/tributary/tributary/target/AccessPoint" "m_nUse" "I" (.int 1016)) (Se : Sta Z Z.heap "java/util/Optional" "EMPTY" "Ljava/util/Optional;" (.ref ae)) (Xe : Exa Z Z.heap ae "java/util/Optional") (Fe : Fld Z Z.heap ae "java/util/Optional" "value" "Ljava/lang/Object;" .null) :
    OMeets l Z (⟨"com/example/tributary/tributary/target/AccessPoint", "ofUse", "(J)Ljava/util/Optional;"⟩ : MethodName) prog_47_method_4_code 6 (some (.object "java/util/Optional")) ({ frames := 3, cells := 2, slots := 6, locals := 38 } : Room) #[(.long n)] h0 [] (fun v h => ∃ r, v = some (.ref r) ∧ Exa Z h r "java/util/Optional" ∧ Fld Z h r "java/util/Optional" "value" "Ljava/lang/Object;" (own_fnd a_TITLE a_AUTHOR a_SUBJECT a_ISBN a_ANY n)) := by
  refine OMeets.body (plainFor_of_name pn3) hE #[.val (.long n), .second, .unset, .unset, .unset, .unset] (fun m => by first | rfl | (simp [entryFrame, mkF, argsToLocals, Value.category, maxLocals]; done)) ?_
  intro p e s m below meth co T S
  refine Go.invokestatic S (y := ⟨"com/example/tributary/tributary/target/AccessPoint", "values", "()[Lcom/example/tributary/tributary/target/AccessPoint;"⟩) (rm_prog_47_method_1_code hw a__VALUES a_TITLE a_AUTHOR a_SUBJECT a_ISBN a_ANY k_a__VALUES hfit S.ext St__VALUES X_a__VALUES V_a__VALUES) (wd9 hw) (wd10 hw) (wd7 hw) (wd11 hw) (by decide) d_prog_47_method_4_code_0 rfl pd2 (argsL := []) rfl rfl rfl (by decide) (W := 0) rfl (by decide) (by decide) (by decide) all0 (pc' := 3) rfl ?_
  intro v1 T1 h1 L1 S1 K1 q1
  obtain ⟨r1, rfl, V1⟩ := q1
  show Go _ _ _ _ T1 (mkF m 3 #[.val (.long n), .second, .unset, .unset, .unset, .unset] [(.ref r1)])
  refine Go.astoreN S1 d_prog_47_method_4_code_3 rfl (Ls' := #[.val (.long n), .second, .val (.ref r1), .unset, .unset, .unset]) rfl (pc' := 4) rfl ?_
  refine Go.aloadN S1 d_prog_47_method_4_code_4 rfl rfl (pc' := 5) rfl ?_
  refine Go.arraylength S1 V1 d_prog_47_method_4_code_5 (pc' := 6) rfl ?_
  refine Go.istoreN S1 d_prog_47_method_4_code_6 (Ls' := #[.val (.long n), .second, .val (.ref r1), .val (.int (5 : Int32)), .unset, .unset]) rfl (pc' := 7) rfl ?_
  refine Go.iconst S1 (v := 0) d_prog_47_method_4_code_7 rfl (pc' := 8) rfl ?_
  refine Go.istore S1 d_prog_47_method_4_code_8 (Ls' := #[.val (.long n), .second, .val (.ref r1), .val (.int (5 : Int32)), .val (.int (0 : Int32)), .unset]) rfl (pc' := 10) rfl ?_
  refine Go.iload S1 d_prog_47_method_4_code_10 rfl (pc' := 12) rfl ?_
  refine Go.iloadN S1 d_prog_47_method_4_code_12 rfl (pc' := 13) rfl ?_
  refine Go.icmp_ge S1 d_prog_47_method_4_code_13 (pt := 45) (by decide) (pc' := 16) rfl ?_ ?_
  · intro c13; exact absurd (by decide) c13
  · intro c13
    refine Go.aloadN S1 d_prog_47_method_4_code_16 rfl rfl (pc' := 17) rfl ?_
    refine Go.iload S1 d_prog_47_method_4_code_17 rfl (pc' := 19) rfl ?_
    refine Go.aaload S1 V1 rfl (by decide) (v := (.ref a_TITLE)) rfl d_prog_47_method_4_code_19 (pc' := 20) rfl ?_
    refine Go.astore S1 d_prog_47_method_4_code_20 rfl (Ls' := #[.val (.long n), .second, .val (.ref r1), .val (.int (5 : Int32)), .val (.int (0 : Int32)), .val (.ref a_TITLE)]) rfl (pc' := 22) rfl ?_
    refine Go.aload S1 d_prog_47_method_4_code_22 rfl rfl (pc' := 24) rfl ?_
    refine Go.getfield S1 (host := "") (Or.inl (wd29 hw)) Via.refl (F_a_TITLE_m_nUse.ext S1.ext) d_prog_47_method_4_code_24 (pc' := 27) rfl ?_
    intro T2 S2
    refine Go.i2l S2 d_prog_47_method_4_code_27 (pc' := 28) rfl ?_
    refine Go.lloadN S2 d_prog_47_method_4_code_28 rfl (pc' := 29) rfl ?_
    refine Go.lcmp_ne S2 d_prog_47_method_4_code_29 (pc1 := 30) rfl d_prog_47_method_4_code_30 (pt := 39) (by decide) (pc' := 33) rfl ?_ ?_
    · intro c29
      refine Go.iinc S2 d_prog_47_method_4_code_39 rfl (Ls' := #[.val (.long n), .second, .val (.ref r1), .val (.int (5 : Int32)), .val (.int (1 : Int32)), .val (.ref a_TITLE)]) rfl (pc' := 42) rfl ?_
      refine Go.goto S2 d_prog_47_method_4_code_42 (pc' := 10) (by decide) ?_
      refine Go.iload S2 d_prog_47_method_4_code_10 rfl (pc' := 12) rfl ?_
      refine Go.iloadN S2 d_prog_47_method_4_code_12 rfl (pc' := 13) rfl ?_
      refine Go.icmp_ge S2 d_prog_47_method_4_code_13 (pt := 45) (by decide) (pc' := 16) rfl ?_ ?_
      · intro c13_2; exact absurd (by decide) c13_2
      · intro c13_2
        refine Go.aloadN S2 d_prog_47_method_4_code_16 rfl rfl (pc' := 17) rfl ?_
        refine Go.iload S2 d_prog_47_method_4_code_17 rfl (pc' := 19) rfl ?_
        refine Go.aaload S2 V1 rfl (by decide) (v := (.ref a_AUTHOR)) rfl d_prog_47_method_4_code_19 (pc' := 20) rfl ?_
        refine Go.astore S2 d_prog_47_method_4_code_20 rfl (Ls' := #[.val (.long n), .second, .val (.ref r1), .val (.int (5 : Int32)), .val (.int (1 : Int32)), .val (.ref a_AUTHOR)]) rfl (pc' := 22) rfl ?_
        refine Go.aload S2 d_prog_47_method_4_code_22 rfl rfl (pc' := 24) rfl ?_
        refine Go.getfield S2 (host := "") (Or.inl (wd29 hw)) Via.refl (F_a_AUTHOR_m_nUse.ext S2.ext) d_prog_47_method_4_code_24 (pc' := 27) rfl ?_
        intro T3 S3
        refine Go.i2l S3 d_prog_47_method_4_code_27 (pc' := 28) rfl ?_
        refine Go.lloadN S3 d_prog_47_method_4_code_28 rfl (pc' := 29) rfl ?_
        refine Go.lcmp_ne S3 d_prog_47_method_4_code_29 (pc1 := 30) rfl d_prog_47_method_4_code_30 (pt := 39) (by decide) (pc' := 33) rfl ?_ ?_
        · intro c29_2
          refine Go.iinc S3 d_prog_47_method_4_code_39 rfl (Ls' := #[.val (.long n), .second, .val (.ref r1), .val (.int (5 : Int32)), .val (.int (2 : Int32)), .val (.ref a_AUTHOR)]) rfl (pc' := 42) rfl ?_
          refine Go.goto S3 d_prog_47_method_4_code_42 (pc' := 10) (by decide) ?_
          refine Go.iload S3 d_prog_47_method_4_code_10 rfl (pc' := 12) rfl ?_
          refine Go.iloadN S3 d_prog_47_method_4_code_12 rfl (pc' := 13) rfl ?_
          refine Go.icmp_ge S3 d_prog_47_method_4_code_13 (pt := 45) (by decide) (pc' := 16) rfl ?_ ?_
          · intro c13_3; exact absurd (by decide) c13_3
          · intro c13_3
            refine Go.aloadN S3 d_prog_47_method_4_code_16 rfl rfl (pc' := 17) rfl ?_
            refine Go.iload S3 d_prog_47_method_4_code_17 rfl (pc' := 19) rfl ?_
            refine Go.aaload S3 V1 rfl (by decide) (v := (.ref a_SUBJECT)) rfl d_prog_47_method_4_code_19 (pc' := 20) rfl ?_
            refine Go.astore S3 d_prog_47_method_4_code_20 rfl (Ls' := #[.val (.long n), .second, .val (.ref r1), .val (.int (5 : Int32)), .val (.int (2 : Int32)), .val (.ref a_SUBJECT)]) rfl (pc' := 22) rfl ?_
            refine Go.aload S3 d_prog_47_method_4_code_22 rfl rfl (pc' := 24) rfl ?_
            refine Go.getfield S3 (host := "") (Or.inl (wd29 hw)) Via.refl (F_a_SUBJECT_m_nUse.ext S3.ext) d_prog_47_method_4_code_24 (pc' := 27) rfl ?_
            intro T4 S4
            refine Go.i2l S4 d_prog_47_method_4_code_27 (pc' := 28) rfl ?_
            refine Go.lloadN S4 d_prog_47_method_4_code_28 rfl (pc' := 29) rfl ?_
            refine Go.lcmp_ne S4 d_prog_47_method_4_code_29 (pc1 := 30) rfl d_prog_47_method_4_code_30 (pt := 39) (by decide) (pc' := 33) rfl ?_ ?_
            · intro c29_3
              refine Go.iinc S4 d_prog_47_method_4_code_39 rfl (Ls' := #[.val (.long n), .second, .val (.ref r1), .val (.int (5 : Int32)), .val (.int (3 : Int32)), .val (.ref a_SUBJECT)]) rfl (pc' := 42) rfl ?_
              refine Go.goto S4 d_prog_47_method_4_code_42 (pc' := 10) (by decide) ?_
              refine Go.iload S4 d_prog_47_method_4_code_10 rfl (pc' := 12) rfl ?_
              refine Go.iloadN S4 d_prog_47_method_4_code_12 rfl (pc' := 13) rfl ?_
              refine Go.icmp_ge S4 d_prog_47_method_4_code_13 (pt := 45) (by decide) (pc' := 16) rfl ?_ ?_
              · intro c13_4; exact absurd (by decide) c13_4
              · intro c13_4
                refine Go.aloadN S4 d_prog_47_method_4_code_16 rfl rfl (pc' := 17) rfl ?_
                refine Go.iload S4 d_prog_47_method_4_code_17 rfl (pc' := 19) rfl ?_
                refine Go.aaload S4 V1 rfl (by decide) (v := (.ref a_ISBN)) rfl d_prog_47_method_4_code_19 (pc' := 20) rfl ?_
                refine Go.astore S4 d_prog_47_method_4_code_20 rfl (Ls' := #[.val (.long n), .second, .val (.ref r1), .val (.int (5 : Int32)), .val (.int (3 : Int32)), .val (.ref a_ISBN)]) rfl (pc' := 22) rfl ?_
                refine Go.aload S4 d_prog_47_method_4_code_22 rfl rfl (pc' := 24) rfl ?_
                refine Go.getfield S4 (host := "") (Or.inl (wd29 hw)) Via.refl (F_a_ISBN_m_nUse.ext S4.ext) d_prog_47_method_4_code_24 (pc' := 27) rfl ?_
                intro T5 S5
                refine Go.i2l S5 d_prog_47_method_4_code_27 (pc' := 28) rfl ?_
                refine Go.lloadN S5 d_prog_47_method_4_code_28 rfl (pc' := 29) rfl ?_
                refine Go.lcmp_ne S5 d_prog_47_method_4_code_29 (pc1 := 30) rfl d_prog_47_method_4_code_30 (pt := 39) (by decide) (pc' := 33) rfl ?_ ?_
                · intro c29_4
                  refine Go.iinc S5 d_prog_47_method_4_code_39 rfl (Ls' := #[.val (.long n), .second, .val (.ref r1), .val (.int (5 : Int32)), .val (.int (4 : Int32)), .val (.ref a_ISBN)]) rfl (pc' := 42) rfl ?_
                  refine Go.goto S5 d_prog_47_method_4_code_42 (pc' := 10) (by decide) ?_
                  refine Go.iload S5 d_prog_47_method_4_code_10 rfl (pc' := 12) rfl ?_
                  refine Go.iloadN S5 d_prog_47_method_4_code_12 rfl (pc' := 13) rfl ?_
                  refine Go.icmp_ge S5 d_prog_47_method_4_code_13 (pt := 45) (by decide) (pc' := 16) rfl ?_ ?_
                  · intro c13_5; exact absurd (by decide) c13_5
                  · intro c13_5
                    refine Go.aloadN S5 d_prog_47_method_4_code_16 rfl rfl (pc' := 17) rfl ?_
                    refine Go.iload S5 d_prog_47_method_4_code_17 rfl (pc' := 19) rfl ?_
                    refine Go.aaload S5 V1 rfl (by decide) (v := (.ref a_ANY)) rfl d_prog_47_method_4_code_19 (pc' := 20) rfl ?_
                    refine Go.astore S5 d_prog_47_method_4_code_20 rfl (Ls' := #[.val (.long n), .second, .val (.ref r1), .val (.int (5 : Int32)), .val (.int (4 : Int32)), .val (.ref a_ANY)]) rfl (pc' := 22) rfl ?_
                    refine Go.aload S5 d_prog_47_method_4_code_22 rfl rfl (pc' := 24) rfl ?_
                    refine Go.getfield S5 (host := "") (Or.inl (wd29 hw)) Via.refl (F_a_ANY_m_nUse.ext S5.ext) d_prog_47_method_4_code_24 (pc' := 27) rfl ?_
                    intro T6 S6
                    refine Go.i2l S6 d_prog_47_method_4_code_27 (pc' := 28) rfl ?_
                    refine Go.lloadN S6 d_prog_47_method_4_code_28 rfl (pc' := 29) rfl ?_
                    refine Go.lcmp_ne S6 d_prog_47_method_4_code_29 (pc1 := 30) rfl d_prog_47_method_4_code_30 (pt := 39) (by decide) (pc' := 33) rfl ?_ ?_
                    · intro c29_5
                      refine Go.iinc S6 d_prog_47_method_4_code_39 rfl (Ls' := #[.val (.long n), .second, .val (.ref r1), .val (.int (5 : Int32)), .val (.int (5 : Int32)), .val (.ref a_ANY)]) rfl (pc' := 42) rfl ?_
                      refine Go.goto S6 d_prog_47_method_4_code_42 (pc' := 10) (by decide) ?_
                      refine Go.iload S6 d_prog_47_method_4_code_10 rfl (pc' := 12) rfl ?_
                      refine Go.iloadN S6 d_prog_47_method_4_code_12 rfl (pc' := 13) rfl ?_
                      refine Go.icmp_ge S6 d_prog_47_method_4_code_13 (pt := 45) (by decide) (pc' := 16) rfl ?_ ?_
                      · intro c13_6
                        refine Go.invokestatic S6 (y := ⟨"java/util/Optional", "empty", "()Ljava/util/Optional;"⟩) (rm_jdk_32_method_1_code hw ae S6.ext Se) (wd31 hw) (wd32 hw) (wd33 hw) (wd34 hw) (by decide) d_prog_47_method_4_code_45 rfl pd3 (argsL := []) rfl rfl rfl (by decide) (W := 0) rfl (by decide) (by decide) (by decide) all0 (pc' := 48) rfl ?_
                        intro v7 T7 h7 L7 S7 K7 q7
                        obtain ⟨rfl, rfl⟩ := q7
                        show Go _ _ _ _ T7 (mkF m 48 #[.val (.long n), .second, .val (.ref r1), .val (.int (5 : Int32)), .val (.int (5 : Int32)), .val (.ref a_ANY)] [(.ref ae)])
                        exact Go.areturn S7 rfl rfl rfl d_prog_47_method_4_code_48 (by decide) (by decide) (⟨ae, rfl, Xe.ext S7.ext, by unfold own_fnd; rw [if_neg (fun q => c29 ((by decide : (4 : Int32).toInt64 = (4 : Int64)).trans q.symm)), if_neg (fun q => c29_2 ((by decide : (1003 : Int32).toInt64 = (1003 : Int64)).trans q.symm)), if_neg (fun q => c29_3 ((by decide : (21 : Int32).toInt64 = (21 : Int64)).trans q.symm)), if_neg (fun q => c29_4 ((by decide : (7 : Int32).toInt64 = (7 : Int64)).trans q.symm)), if_neg (fun q => c29_5 ((by decide : (1016 : Int32).toInt64 = (1016 : Int64)).trans q.symm))]; exact Fe.ext S7.ext⟩)
                      · intro c13_6; exact absurd c13_6 (by decide)
                    · intro c29_5
                      refine Go.aload S6 d_prog_47_method_4_code_33 rfl rfl (pc' := 35) rfl ?_
                      refine Go.invokestatic S6 (y := ⟨"java/util/Optional", "of", "(Ljava/lang/Object;)Ljava/util/Optional;"⟩) (rm_jdk_32_method_3_code hw a_ANY S6.ext) (wd51 hw) (wd52 hw) (wd33 hw) (wd53 hw) (by decide) d_prog_47_method_4_code_35 rfl pd4 (argsL := [(.ref a_ANY)]) rfl rfl rfl (by decide) (W := 0) rfl (by decide) (by decide) (by decide) all0 (pc' := 38) rfl ?_
                      intro v8 T8 h8 L8 S8 K8 q8
                      obtain ⟨r8, rfl, Xo8, Fo8⟩ := q8
                      replace V1 := V1.keep K8 nin0
                      show Go _ _ _ _ T8 (mkF m 38 #[.val (.long n), .second, .val (.ref r1), .val (.int (5 : Int32)), .val (.int (4 : Int32)), .val (.ref a_ANY)] [(.ref r8)])
                      exact Go.areturn S8 rfl rfl rfl d_prog_47_method_4_code_38 (by decide) (by decide) (⟨r8, rfl, Xo8, by unfold own_fnd; rw [if_neg (fun q => c29 ((by decide : (4 : Int32).toInt64 = (4 : Int64)).trans q.symm)), if_neg (fun q => c29_2 ((by decide : (1003 : Int32).toInt64 = (1003 : Int64)).trans q.symm)), if_neg (fun q => c29_3 ((by decide : (21 : Int32).toInt64 = (21 : Int64)).trans q.symm)), if_neg (fun q => c29_4 ((by decide : (7 : Int32).toInt64 = (7 : Int64)).trans q.symm)), if_pos (c29_5.symm.trans (by decide : (1016 : Int32).toInt64 = (1016 : Int64)))]; exact Fo8⟩)
                · intro c29_4
                  refine Go.aload S5 d_prog_47_method_4_code_33 rfl rfl (pc' := 35) rfl ?_
                  refine Go.invokestatic S5 (y := ⟨"java/util/Optional", "of", "(Ljava/lang/Object;)Ljava/util/Optional;"⟩) (rm_jdk_32_method_3_code hw a_ISBN S5.ext) (wd51 hw) (wd52 hw) (wd33 hw) (wd53 hw) (by decide) d_prog_47_method_4_code_35 rfl pd4 (argsL := [(.ref a_ISBN)]) rfl rfl rfl (by decide) (W := 0) rfl (by decide) (by decide) (by decide) all0 (pc' := 38) rfl ?_
                  intro v9 T9 h9 L9 S9 K9 q9
                  obtain ⟨r9, rfl, Xo9, Fo9⟩ := q9
                  replace V1 := V1.keep K9 nin0
                  show Go _ _ _ _ T9 (mkF m 38 #[.val (.long n), .second, .val (.ref r1), .val (.int (5 : Int32)), .val (.int (3 : Int32)), .val (.ref a_ISBN)] [(.ref r9)])
                  exact Go.areturn S9 rfl rfl rfl d_prog_47_method_4_code_38 (by decide) (by decide) (⟨r9, rfl, Xo9, by unfold own_fnd; rw [if_neg (fun q => c29 ((by decide : (4 : Int32).toInt64 = (4 : Int64)).trans q.symm)), if_neg (fun q => c29_2 ((by decide : (1003 : Int32).toInt64 = (1003 : Int64)).trans q.symm)), if_neg (fun q => c29_3 ((by decide : (21 : Int32).toInt64 = (21 : Int64)).trans q.symm)), if_pos (c29_4.symm.trans (by decide : (7 : Int32).toInt64 = (7 : Int64)))]; exact Fo9⟩)
            · intro c29_3
              refine Go.aload S4 d_prog_47_method_4_code_33 rfl rfl (pc' := 35) rfl ?_
              refine Go.invokestatic S4 (y := ⟨"java/util/Optional", "of", "(Ljava/lang/Object;)Ljava/util/Optional;"⟩) (rm_jdk_32_method_3_code hw a_SUBJECT S4.ext) (wd51 hw) (wd52 hw) (wd33 hw) (wd53 hw) (by decide) d_prog_47_method_4_code_35 rfl pd4 (argsL := [(.ref a_SUBJECT)]) rfl rfl rfl (by decide) (W := 0) rfl (by decide) (by decide) (by decide) all0 (pc' := 38) rfl ?_
              intro v10 T10 h10 L10 S10 K10 q10
              obtain ⟨r10, rfl, Xo10, Fo10⟩ := q10
              replace V1 := V1.keep K10 nin0
              show Go _ _ _ _ T10 (mkF m 38 #[.val (.long n), .second, .val (.ref r1), .val (.int (5 : Int32)), .val (.int (2 : Int32)), .val (.ref a_SUBJECT)] [(.ref r10)])
              exact Go.areturn S10 rfl rfl rfl d_prog_47_method_4_code_38 (by decide) (by decide) (⟨r10, rfl, Xo10, by unfold own_fnd; rw [if_neg (fun q => c29 ((by decide : (4 : Int32).toInt64 = (4 : Int64)).trans q.symm)), if_neg (fun q => c29_2 ((by decide : (1003 : Int32).toInt64 = (1003 : Int64)).trans q.symm)), if_pos (c29_3.symm.trans (by decide : (21 : Int32).toInt64 = (21 : Int64)))]; exact Fo10⟩)
        · intro c29_2
          refine Go.aload S3 d_prog_47_method_4_code_33 rfl rfl (pc' := 35) rfl ?_
          refine Go.invokestatic S3 (y := ⟨"java/util/Optional", "of", "(Ljava/lang/Object;)Ljava/util/Optional;"⟩) (rm_jdk_32_method_3_code hw a_AUTHOR S3.ext) (wd51 hw) (wd52 hw) (wd33 hw) (wd53 hw) (by decide) d_prog_47_method_4_code_35 rfl pd4 (argsL := [(.ref a_AUTHOR)]) rfl rfl rfl (by decide) (W := 0) rfl (by decide) (by decide) (by decide) all0 (pc' := 38) rfl ?_
          intro v11 T11 h11 L11 S11 K11 q11
          obtain ⟨r11, rfl, Xo11, Fo11⟩ := q11
          replace V1 := V1.keep K11 nin0
          show Go _ _ _ _ T11 (mkF m 38 #[.val (.long n), .second, .val (.ref r1), .val (.int (5 : Int32)), .val (.int (1 : Int32)), .val (.ref a_AUTHOR)] [(.ref r11)])
          exact Go.areturn S11 rfl rfl rfl d_prog_47_method_4_code_38 (by decide) (by decide) (⟨r11, rfl, Xo11, by unfold own_fnd; rw [if_neg (fun q => c29 ((by decide : (4 : Int32).toInt64 = (4 : Int64)).trans q.symm)), if_pos (c29_2.symm.trans (by decide : (1003 : Int32).toInt64 = (1003 : Int64)))]; exact Fo11⟩)
    · intro c29
      refine Go.aload S2 d_prog_47_method_4_code_33 rfl rfl (pc' := 35) rfl ?_
      refine Go.invokestatic S2 (y := ⟨"java/util/Optional", "of", "(Ljava/lang/Object;)Ljava/util/Optional;"⟩) (rm_jdk_32_method_3_code hw a_TITLE S2.ext) (wd51 hw) (wd52 hw) (wd33 hw) (wd53 hw) (by decide) d_prog_47_method_4_code_35 rfl pd4 (argsL := [(.ref a_TITLE)]) rfl rfl rfl (by decide) (W := 0) rfl (by decide) (by decide) (by decide) all0 (pc' := 38) rfl ?_
      intro v12 T12 h12 L12 S12 K12 q12
      obtain ⟨r12, rfl, Xo12, Fo12⟩ := q12
      replace V1 := V1.keep K12 nin0
      show Go _ _ _ _ T12 (mkF m 38 #[.val (.long n), .second, .val (.ref r1), .val (.int (5 : Int32)), .val (.int (0 : Int32)), .val (.ref a_TITLE)] [(.ref r12)])
      exact Go.areturn S12 rfl rfl rfl d_prog_47_method_4_code_38 (by decide) (by decide) (⟨r12, rfl, Xo12, by unfold own_fnd; rw [if_pos (c29.symm.trans (by decide : (4 : Int32).toInt64 = (4 : Int64)))]; exact Fo12⟩)
set_option maxRecDepth 65536 in
set_option maxHeartbeats 4000000 in
theorem rm_isNull {l : Launch} {Z : State} {a0 : Array Value} (hw : HW Z a0) (a : Addr)  {h0 : Heap} (hE : Ext Z.heap h0) (F : Fld Z h0 a "java/util/Optional" "value" "Ljava/lang/Object;" .null) :
    OMeets l Z (⟨"java/util/Optional", "isPresent", "()Z"⟩ : MethodName) jdk_32_method_6_code 1 (some .boolean) ({ frames := 0, cells := 0, slots := 0, locals := 0 } : Room) #[(.ref a)] h0 [] (fun v h => v = some (.int 0) ∧ h0 = h) := by
  refine OMeets.body (plainFor_of_name pn2) hE #[.val (.ref a)] (fun m => by first | rfl | (simp [entryFrame, mkF, argsToLocals, Value.category, maxLocals]; done)) ?_
  intro p e s m below meth co T S
  refine Go.aloadN S d_jdk_32_method_6_code_0 rfl rfl (pc' := 1) rfl ?_
  refine Go.getfield S (host := "") (Or.inl (wd48 hw)) Via.refl F d_jdk_32_method_6_code_1 (pc' := 4) rfl ?_
  intro T1 S1
  refine Go.ifnullY S1 d_jdk_32_method_6_code_4 (pt := 11) (by decide) ?_
  refine Go.iconst S1 (v := 0) d_jdk_32_method_6_code_11 rfl (pc' := 12) rfl ?_
  exact Go.zreturn S1 rfl (by decide) d_jdk_32_method_6_code_12 (z' := (0 : Int32)) rfl (by decide) (by decide) (⟨rfl, rfl⟩)
set_option maxRecDepth 65536 in
set_option maxHeartbeats 4000000 in
theorem rm_isRef {l : Launch} {Z : State} {a0 : Array Value} (hw : HW Z a0) (a : Addr) (b : Addr) {h0 : Heap} (hE : Ext Z.heap h0) (F : Fld Z h0 a "java/util/Optional" "value" "Ljava/lang/Object;" (.ref b)) :
    OMeets l Z (⟨"java/util/Optional", "isPresent", "()Z"⟩ : MethodName) jdk_32_method_6_code 1 (some .boolean) ({ frames := 0, cells := 0, slots := 0, locals := 0 } : Room) #[(.ref a)] h0 [] (fun v h => v = some (.int 1) ∧ h0 = h) := by
  refine OMeets.body (plainFor_of_name pn2) hE #[.val (.ref a)] (fun m => by first | rfl | (simp [entryFrame, mkF, argsToLocals, Value.category, maxLocals]; done)) ?_
  intro p e s m below meth co T S
  refine Go.aloadN S d_jdk_32_method_6_code_0 rfl rfl (pc' := 1) rfl ?_
  refine Go.getfield S (host := "") (Or.inl (wd48 hw)) Via.refl F d_jdk_32_method_6_code_1 (pc' := 4) rfl ?_
  intro T1 S1
  refine Go.ifnullN S1 d_jdk_32_method_6_code_4 (pc' := 7) rfl ?_
  refine Go.iconst S1 (v := 1) d_jdk_32_method_6_code_7 rfl (pc' := 8) rfl ?_
  refine Go.goto S1 d_jdk_32_method_6_code_8 (pc' := 12) (by decide) ?_
  exact Go.zreturn S1 rfl (by decide) d_jdk_32_method_6_code_12 (z' := (1 : Int32)) rfl (by decide) (by decide) (⟨rfl, rfl⟩)
set_option maxRecDepth 65536 in
set_option maxHeartbeats 4000000 in
theorem rm_jdk_32_method_5_code {l : Launch} {Z : State} {a0 : Array Value} (hw : HW Z a0) (a : Addr) (b : Addr) {h0 : Heap} (hE : Ext Z.heap h0) (F : Fld Z h0 a "java/util/Optional" "value" "Ljava/lang/Object;" (.ref b)) :
    OMeets l Z (⟨"java/util/Optional", "get", "()Ljava/lang/Object;"⟩ : MethodName) jdk_32_method_5_code 1 (some (.object "java/lang/Object")) ({ frames := 0, cells := 0, slots := 0, locals := 0 } : Room) #[(.ref a)] h0 [] (fun v h => v = some (.ref b) ∧ h0 = h) := by
  refine OMeets.body (plainFor_of_name pn2) hE #[.val (.ref a)] (fun m => by first | rfl | (simp [entryFrame, mkF, argsToLocals, Value.category, maxLocals]; done)) ?_
  intro p e s m below meth co T S
  refine Go.aloadN S d_jdk_32_method_5_code_0 rfl rfl (pc' := 1) rfl ?_
  refine Go.getfield S (host := "") (Or.inl (wd48 hw)) Via.refl F d_jdk_32_method_5_code_1 (pc' := 4) rfl ?_
  intro T1 S1
  refine Go.ifnonnullY S1 d_jdk_32_method_5_code_4 (pt := 17) (by decide) ?_
  refine Go.aloadN S1 d_jdk_32_method_5_code_17 rfl rfl (pc' := 18) rfl ?_
  refine Go.getfield S1 (host := "") (Or.inl (wd48 hw)) Via.refl F d_jdk_32_method_5_code_18 (pc' := 21) rfl ?_
  intro T2 S2
  exact Go.areturn S2 rfl rfl rfl d_jdk_32_method_5_code_21 (by decide) (by decide) (⟨rfl, rfl⟩)
set_option maxRecDepth 65536 in
set_option maxHeartbeats 4000000 in
theorem j0_107 {p : Program} {l : Launch} {e : Env} {s : State} {m : MethodId} {args : Array Value} {below : List Frame} {meth : Method} {co : Code} {Z : State} {a0 : Array Value} (hw : HW Z a0) (ax base n : Int64) (sel k j : Int32) (ae a__VALUES a_TITLE a_AUTHOR a_SUBJECT a_ISBN a_ANY : Addr) (k_a__VALUES : ClassId) (hfit : Fit Z) {h0 h : Heap} {T : State} {locs : List Loc} (S : St p l e room_1 s m args below meth co Z x.cls code maxLocals ret x.name h0 [] T h locs 0 0) (St__VALUES : Sta Z Z.heap "com/example/tributary/tributary/target/AccessPoint" "$VALUES" "[Lcom/example/tributary/tributary/target/AccessPoint;" (.ref a__VALUES)) (X_a__VALUES : Exa Z Z.heap a__VALUES "[Lcom/example/tributary/tributary/target/AccessPoint;") (St_TITLE : Sta Z Z.heap "com/example/tributary/tributary/target/AccessPoint" "TITLE" "Lcom/example/tributary/tributary/target/AccessPoint;" (.ref a_TITLE)) (X_a_TITLE : Exa Z Z.heap a_TITLE "com/example/tributary/tributary/target/AccessPoint") (St_AUTHOR : Sta Z Z.heap "com/example/tributary/tributary/target/AccessPoint" "AUTHOR" "Lcom/example/tributary/tributary/target/AccessPoint;" (.ref a_AUTHOR)) (X_a_AUTHOR : Exa Z Z.heap a_AUTHOR "com/example/tributary/tributary/target/AccessPoint") (St_SUBJECT : Sta Z Z.heap "com/example/tributary/tributary/target/AccessPoint" "SUBJECT" "Lcom/example/tributary/tributary/target/AccessPoint;" (.ref a_SUBJECT)) (X_a_SUBJECT : Exa Z Z.heap a_SUBJECT "com/example/tributary/tributary/target/AccessPoint") (St_ISBN : Sta Z Z.heap "com/example/tributary/tributary/target/AccessPoint" "ISBN" "Lcom/example/tributary/tributary/target/AccessPoint;" (.ref a_ISBN)) (X_a_ISBN : Exa Z Z.heap a_ISBN "com/example/tributary/tributary/target/AccessPoint") (St_ANY : Sta Z Z.heap "com/example/tributary/tributary/target/AccessPoint" "ANY" "Lcom/example/tributary/tributary/target/AccessPoint;" (.ref a_ANY)) (X_a_ANY : Exa Z Z.heap a_ANY "com/example/tributary/tributary/target/AccessPoint") (F_a_TITLE_m_nUse : Fld Z Z.heap a_TITLE "com/example/tributary/tributary/target/AccessPoint" "m_nUse" "I" (.int 4)) (F_a_AUTHOR_m_nUse : Fld Z Z.heap a_AUTHOR "com/example/tributary/tributary/target/AccessPoint" "m_nUse" "I" (.int 1003)) (F_a_SUBJECT_m_nUse : Fld Z Z.heap a_SUBJECT "com/example/tributary/tributary/target/AccessPoint" "m_nUse" "I" (.int 21)) (F_a_ISBN_m_nUse : Fld Z Z.heap a_ISBN "com/example/tributary/tributary/target/AccessPoint" "m_nUse" "I" (.int 7)) (F_a_ANY_m_nUse : Fld Z Z.heap a_ANY "com/example/tributary/tributary/target/AccessPoint" "m_nUse" "I" (.int 1016)) (V_a__VALUES : Arv Z Z.heap a__VALUES k_a__VALUES (.object "com/example/tributary/tributary/target/AccessPoint") 5 [(.ref a_TITLE), (.ref a_AUTHOR), (.ref a_SUBJECT), (.ref a_ISBN), (.ref a_ANY)] .null) (Se : Sta Z Z.heap "java/util/Optional" "EMPTY" "Ljava/util/Optional;" (.ref ae)) (Xe : Exa Z Z.heap ae "java/util/Optional") (Fe : Fld Z Z.heap ae "java/util/Optional" "value" "Ljava/lang/Object;" .null) :
    Go p e below (PostOf Z s h0 [] room_1.cells room_1.slots (fun v h => v = some (.int 1))) T (mkF m 107 #[.val (.long ax), .second, .val (.int sel), .val (.int k), .val (.int j), .val (.long base), .second, .val (.long n), .second, .unset, .unset] []) := by
  refine Go.lload S at_107 rfl (pc' := 109) rfl ?_
  refine Go.invokestatic S (y := ⟨"com/example/tributary/tributary/target/AccessPoint", "ofUse", "(J)Ljava/util/Optional;"⟩) (rm_prog_47_method_4_code hw n a__VALUES a_TITLE a_AUTHOR a_SUBJECT a_ISBN a_ANY ae k_a__VALUES hfit S.ext St__VALUES X_a__VALUES V_a__VALUES F_a_TITLE_m_nUse F_a_AUTHOR_m_nUse F_a_SUBJECT_m_nUse F_a_ISBN_m_nUse F_a_ANY_m_nUse Se Xe Fe) (wd5 hw) (wd6 hw) (wd7 hw) (wd8 hw) (by decide) at_109 rfl pd5 (argsL := [(.long n)]) rfl rfl rfl (by decide) (W := 0) rfl (by decide) (by decide) (by decide) all0 (pc' := 112) rfl ?_
  intro v1 T1 h1 L1 S1 K1 q1
  obtain ⟨ro, rfl, Xo, Fo⟩ := q1
  show Go _ _ _ _ T1 (mkF m 112 #[.val (.long ax), .second, .val (.int sel), .val (.int k), .val (.int j), .val (.long base), .second, .val (.long n), .second, .unset, .unset] [(.ref ro)])
  refine Go.astore S1 at_112 rfl (Ls' := #[.val (.long ax), .second, .val (.int sel), .val (.int k), .val (.int j), .val (.long base), .second, .val (.long n), .second, .val (.ref ro), .unset]) rfl (pc' := 114) rfl ?_
  rcases own_fnd_ref a_TITLE a_AUTHOR a_SUBJECT a_ISBN a_ANY n with hfn | ⟨be, hfn⟩
  · rw [hfn] at Fo
    refine Go.lload S1 at_114 rfl (pc' := 116) rfl ?_
    refine Go.invokestatic S1 (y := ⟨"com/example/tributary/tributary/target/AccessPointOfUsePinLaw", "expected", "(J)Lcom/example/tributary/tributary/target/AccessPoint;"⟩) (rm_method_3_code hw n a_TITLE a_AUTHOR a_SUBJECT a_ISBN a_ANY S1.ext St_TITLE St_AUTHOR St_SUBJECT St_ISBN St_ANY) (wd36 hw) (wd37 hw) (wd2 hw) (wd38 hw) (by decide) at_116 rfl pd6 (argsL := [(.long n)]) rfl rfl rfl (by decide) (W := 0) rfl (by decide) (by decide) (by decide) all0 (pc' := 119) rfl ?_
    intro v2 T2 h2 L2 S2 K2 q2
    rw [hfn] at q2
    obtain ⟨rfl, rfl⟩ := q2
    show Go _ _ _ _ T2 (mkF m 119 #[.val (.long ax), .second, .val (.int sel), .val (.int k), .val (.int j), .val (.long base), .second, .val (.long n), .second, .val (.ref ro), .unset] [.null])
    refine Go.astore S2 at_119 rfl (Ls' := #[.val (.long ax), .second, .val (.int sel), .val (.int k), .val (.int j), .val (.long base), .second, .val (.long n), .second, .val (.ref ro), .val .null]) rfl (pc' := 121) rfl ?_
    refine Go.aload S2 at_121 rfl rfl (pc' := 123) rfl ?_
    refine Go.ifnonnullN S2 at_123 (pc' := 126) rfl ?_
    refine Go.aload S2 at_126 rfl rfl (pc' := 128) rfl ?_
    refine Go.invokevirtual S2 (y := ⟨"java/util/Optional", "isPresent", "()Z"⟩) (rm_isNull hw ro S2.ext Fo) (wd43 hw) (wd44 hw) (S2.nf (wd46 hw)) (wd46 hw) (wd45 hw) (wd33 hw) (wd47 hw) (by decide) Xo at_128 rfl pd7 (argsL := []) rfl rfl rfl (by decide) (W := 0) rfl (by decide) (by decide) (by decide) all0 (pc' := 131) rfl ?_
    intro v3 T3 h3 L3 S3 K3 q3
    obtain ⟨rfl, rfl⟩ := q3
    show Go _ _ _ _ T3 (mkF m 131 #[.val (.long ax), .second, .val (.int sel), .val (.int k), .val (.int j), .val (.long base), .second, .val (.long n), .second, .val (.ref ro), .val .null] [(.int (0 : Int32))])
    refine Go.if_ne S3 at_131 (pt := 138) (by decide) (pc' := 134) rfl ?_ ?_
    · intro c131; exact absurd (by decide) c131
    · intro c131
      refine Go.iconst S3 (v := 1) at_134 rfl (pc' := 135) rfl ?_
      refine Go.goto S3 at_135 (pc' := 139) (by decide) ?_
      exact Go.zreturn S3 rfl (by decide) at_139 (z' := (1 : Int32)) rfl (by decide) (by decide) (rfl)
  · rw [hfn] at Fo
    refine Go.lload S1 at_114 rfl (pc' := 116) rfl ?_
    refine Go.invokestatic S1 (y := ⟨"com/example/tributary/tributary/target/AccessPointOfUsePinLaw", "expected", "(J)Lcom/example/tributary/tributary/target/AccessPoint;"⟩) (rm_method_3_code hw n a_TITLE a_AUTHOR a_SUBJECT a_ISBN a_ANY S1.ext St_TITLE St_AUTHOR St_SUBJECT St_ISBN St_ANY) (wd36 hw) (wd37 hw) (wd2 hw) (wd38 hw) (by decide) at_116 rfl pd6 (argsL := [(.long n)]) rfl rfl rfl (by decide) (W := 0) rfl (by decide) (by decide) (by decide) all0 (pc' := 119) rfl ?_
    intro v4 T4 h4 L4 S4 K4 q4
    rw [hfn] at q4
    obtain ⟨rfl, rfl⟩ := q4
    show Go _ _ _ _ T4 (mkF m 119 #[.val (.long ax), .second, .val (.int sel), .val (.int k), .val (.int j), .val (.long base), .second, .val (.long n), .second, .val (.ref ro), .unset] [(.ref be)])
    refine Go.astore S4 at_119 rfl (Ls' := #[.val (.long ax), .second, .val (.int sel), .val (.int k), .val (.int j), .val (.long base), .second, .val (.long n), .second, .val (.ref ro), .val (.ref be)]) rfl (pc' := 121) rfl ?_
    refine Go.aload S4 at_121 rfl rfl (pc' := 123) rfl ?_
    refine Go.ifnonnullY S4 at_123 (pt := 140) (by decide) ?_
    refine Go.aload S4 at_140 rfl rfl (pc' := 142) rfl ?_
    refine Go.invokevirtual S4 (y := ⟨"java/util/Optional", "isPresent", "()Z"⟩) (rm_isRef hw ro be S4.ext Fo) (wd43 hw) (wd44 hw) (S4.nf (wd46 hw)) (wd46 hw) (wd45 hw) (wd33 hw) (wd47 hw) (by decide) Xo at_142 rfl pd7 (argsL := []) rfl rfl rfl (by decide) (W := 0) rfl (by decide) (by decide) (by decide) all0 (pc' := 145) rfl ?_
    intro v5 T5 h5 L5 S5 K5 q5
    obtain ⟨rfl, rfl⟩ := q5
    show Go _ _ _ _ T5 (mkF m 145 #[.val (.long ax), .second, .val (.int sel), .val (.int k), .val (.int j), .val (.long base), .second, .val (.long n), .second, .val (.ref ro), .val (.ref be)] [(.int (1 : Int32))])
    refine Go.if_eq S5 at_145 (pt := 162) (by decide) (pc' := 148) rfl ?_ ?_
    · intro c145; exact absurd c145 (by decide)
    · intro c145
      refine Go.aload S5 at_148 rfl rfl (pc' := 150) rfl ?_
      refine Go.invokevirtual S5 (y := ⟨"java/util/Optional", "get", "()Ljava/lang/Object;"⟩) (rm_jdk_32_method_5_code hw ro be S5.ext Fo) (wd68 hw) (wd69 hw) (S5.nf (wd71 hw)) (wd71 hw) (wd70 hw) (wd33 hw) (wd72 hw) (by decide) Xo at_150 rfl pd8 (argsL := []) rfl rfl rfl (by decide) (W := 0) rfl (by decide) (by decide) (by decide) all0 (pc' := 153) rfl ?_
      intro v6 T6 h6 L6 S6 K6 q6
      obtain ⟨rfl, rfl⟩ := q6
      show Go _ _ _ _ T6 (mkF m 153 #[.val (.long ax), .second, .val (.int sel), .val (.int k), .val (.int j), .val (.long base), .second, .val (.long n), .second, .val (.ref ro), .val (.ref be)] [(.ref be)])
      refine Go.aload S6 at_153 rfl rfl (pc' := 155) rfl ?_
      refine Go.acmp_ne S6 at_155 (pt := 162) (by decide) (pc' := 158) rfl rfl rfl ?_ ?_
      · intro c155; exact absurd rfl c155
      · intro c155
        refine Go.iconst S6 (v := 1) at_158 rfl (pc' := 159) rfl ?_
        refine Go.goto S6 at_159 (pc' := 163) (by decide) ?_
        exact Go.zreturn S6 rfl (by decide) at_163 (z' := (1 : Int32)) rfl (by decide) (by decide) (rfl)
set_option maxRecDepth 65536 in
set_option maxHeartbeats 4000000 in
theorem rm_code {l : Launch} {Z : State} {a0 : Array Value} (hw : HW Z a0) (ax : Int64) (sel : Int32) (ae a__VALUES a_TITLE a_AUTHOR a_SUBJECT a_ISBN a_ANY : Addr) (k_a__VALUES : ClassId) (hfit : Fit Z) {h0 : Heap} (hE : Ext Z.heap h0) (St__VALUES : Sta Z Z.heap "com/example/tributary/tributary/target/AccessPoint" "$VALUES" "[Lcom/example/tributary/tributary/target/AccessPoint;" (.ref a__VALUES)) (X_a__VALUES : Exa Z Z.heap a__VALUES "[Lcom/example/tributary/tributary/target/AccessPoint;") (St_TITLE : Sta Z Z.heap "com/example/tributary/tributary/target/AccessPoint" "TITLE" "Lcom/example/tributary/tributary/target/AccessPoint;" (.ref a_TITLE)) (X_a_TITLE : Exa Z Z.heap a_TITLE "com/example/tributary/tributary/target/AccessPoint") (St_AUTHOR : Sta Z Z.heap "com/example/tributary/tributary/target/AccessPoint" "AUTHOR" "Lcom/example/tributary/tributary/target/AccessPoint;" (.ref a_AUTHOR)) (X_a_AUTHOR : Exa Z Z.heap a_AUTHOR "com/example/tributary/tributary/target/AccessPoint") (St_SUBJECT : Sta Z Z.heap "com/example/tributary/tributary/target/AccessPoint" "SUBJECT" "Lcom/example/tributary/tributary/target/AccessPoint;" (.ref a_SUBJECT)) (X_a_SUBJECT : Exa Z Z.heap a_SUBJECT "com/example/tributary/tributary/target/AccessPoint") (St_ISBN : Sta Z Z.heap "com/example/tributary/tributary/target/AccessPoint" "ISBN" "Lcom/example/tributary/tributary/target/AccessPoint;" (.ref a_ISBN)) (X_a_ISBN : Exa Z Z.heap a_ISBN "com/example/tributary/tributary/target/AccessPoint") (St_ANY : Sta Z Z.heap "com/example/tributary/tributary/target/AccessPoint" "ANY" "Lcom/example/tributary/tributary/target/AccessPoint;" (.ref a_ANY)) (X_a_ANY : Exa Z Z.heap a_ANY "com/example/tributary/tributary/target/AccessPoint") (F_a_TITLE_m_nUse : Fld Z Z.heap a_TITLE "com/example/tributary/tributary/target/AccessPoint" "m_nUse" "I" (.int 4)) (F_a_AUTHOR_m_nUse : Fld Z Z.heap a_AUTHOR "com/example/tributary/tributary/target/AccessPoint" "m_nUse" "I" (.int 1003)) (F_a_SUBJECT_m_nUse : Fld Z Z.heap a_SUBJECT "com/example/tributary/tributary/target/AccessPoint" "m_nUse" "I" (.int 21)) (F_a_ISBN_m_nUse : Fld Z Z.heap a_ISBN "com/example/tributary/tributary/target/AccessPoint" "m_nUse" "I" (.int 7)) (F_a_ANY_m_nUse : Fld Z Z.heap a_ANY "com/example/tributary/tributary/target/AccessPoint" "m_nUse" "I" (.int 1016)) (V_a__VALUES : Arv Z Z.heap a__VALUES k_a__VALUES (.object "com/example/tributary/tributary/target/AccessPoint") 5 [(.ref a_TITLE), (.ref a_AUTHOR), (.ref a_SUBJECT), (.ref a_ISBN), (.ref a_ANY)] .null) (Se : Sta Z Z.heap "java/util/Optional" "EMPTY" "Ljava/util/Optional;" (.ref ae)) (Xe : Exa Z Z.heap ae "java/util/Optional") (Fe : Fld Z Z.heap ae "java/util/Optional" "value" "Ljava/lang/Object;" .null) :
    OMeets l Z x code maxLocals ret room_1 #[(.long ax), (.int sel)] h0 [] (fun v h => v = some (.int 1)) := by
  refine OMeets.body (plainFor_of_name pn0) hE #[.val (.long ax), .second, .val (.int sel), .unset, .unset, .unset, .unset, .unset, .unset, .unset, .unset] (fun m => by first | (simp [entryFrame, mkF, argsToLocals, Value.category, maxLocals]; done) | rfl) ?_
  intro p e s m below meth co T S
  refine Go.iloadN S at_0 rfl (pc' := 1) rfl ?_
  refine Go.bipush S (v := 7) at_1 rfl (pc' := 3) rfl ?_
  refine Go.iand S at_3 (pc' := 4) rfl ?_
  refine Go.istoreN S at_4 (Ls' := #[.val (.long ax), .second, .val (.int sel), .val (.int (sel &&& (7 : Int32))), .unset, .unset, .unset, .unset, .unset, .unset, .unset]) rfl (pc' := 5) rfl ?_
  generalize h_k : (sel &&& (7 : Int32)) = k
  refine Go.iloadN S at_5 rfl (pc' := 6) rfl ?_
  refine Go.iconst S (v := 3) at_6 rfl (pc' := 7) rfl ?_
  refine Go.iushr S at_7 (pc' := 8) rfl ?_
  refine Go.iconst S (v := 5) at_8 rfl (pc' := 9) rfl ?_
  refine Go.irem S at_9 (by decide) (pc' := 10) rfl ?_
  refine Go.istore S at_10 (Ls' := #[.val (.long ax), .second, .val (.int sel), .val (.int k), .val (.int (((sel.toUInt32 >>> ((3 : Int32) &&& 31).toUInt32).toInt32) % (5 : Int32))), .unset, .unset, .unset, .unset, .unset, .unset]) rfl (pc' := 12) rfl ?_
  generalize h_j : (((sel.toUInt32 >>> ((3 : Int32) &&& 31).toUInt32).toInt32) % (5 : Int32)) = j
  refine Go.iload S at_12 rfl (pc' := 14) rfl ?_
  refine Go.invokestatic S (y := ⟨"com/example/tributary/tributary/target/AccessPointOfUsePinLaw", "useOf", "(I)J"⟩) (rm_method_2_code hw j S.ext) (wd0 hw) (wd1 hw) (wd2 hw) (wd3 hw) (by decide) at_14 rfl pd9 (argsL := [(.int j)]) rfl rfl rfl (by decide) (W := 0) rfl (by decide) (by decide) (by decide) all0 (pc' := 17) rfl ?_
  intro v7 T7 h7 L7 S7 K7 q7
  obtain ⟨⟨base, rfl⟩, rfl⟩ := q7
  show Go _ _ _ _ T7 (mkF m 17 #[.val (.long ax), .second, .val (.int sel), .val (.int k), .val (.int j), .unset, .unset, .unset, .unset, .unset, .unset] [(.long base)])
  refine Go.lstore S7 at_17 (Ls' := #[.val (.long ax), .second, .val (.int sel), .val (.int k), .val (.int j), .val (.long base), .second, .unset, .unset, .unset, .unset]) rfl (pc' := 19) rfl ?_
  refine Go.iloadN S7 at_19 rfl (pc' := 20) rfl ?_
  refine Go.if_ne S7 at_20 (pt := 30) (by decide) (pc' := 23) rfl ?_ ?_
  · intro c20
    refine Go.iloadN S7 at_30 rfl (pc' := 31) rfl ?_
    refine Go.iconst S7 (v := 1) at_31 rfl (pc' := 32) rfl ?_
    refine Go.icmp_ne S7 at_32 (pt := 44) (by decide) (pc' := 35) rfl ?_ ?_
    · intro c32
      refine Go.iloadN S7 at_44 rfl (pc' := 45) rfl ?_
      refine Go.iconst S7 (v := 2) at_45 rfl (pc' := 46) rfl ?_
      refine Go.icmp_ne S7 at_46 (pt := 58) (by decide) (pc' := 49) rfl ?_ ?_
      · intro c46
        refine Go.iloadN S7 at_58 rfl (pc' := 59) rfl ?_
        refine Go.iconst S7 (v := 3) at_59 rfl (pc' := 60) rfl ?_
        refine Go.icmp_ne S7 at_60 (pt := 75) (by decide) (pc' := 63) rfl ?_ ?_
        · intro c60
          refine Go.iloadN S7 at_75 rfl (pc' := 76) rfl ?_
          refine Go.iconst S7 (v := 4) at_76 rfl (pc' := 77) rfl ?_
          refine Go.icmp_ne S7 at_77 (pt := 91) (by decide) (pc' := 80) rfl ?_ ?_
          · intro c77
            refine Go.iloadN S7 at_91 rfl (pc' := 92) rfl ?_
            refine Go.iconst S7 (v := 5) at_92 rfl (pc' := 93) rfl ?_
            refine Go.icmp_ne S7 at_93 (pt := 104) (by decide) (pc' := 96) rfl ?_ ?_
            · intro c93
              refine Go.lloadN S7 at_104 rfl (pc' := 105) rfl ?_
              refine Go.lstore S7 at_105 (Ls' := #[.val (.long ax), .second, .val (.int sel), .val (.int k), .val (.int j), .val (.long base), .second, .val (.long ax), .second, .unset, .unset]) rfl (pc' := 107) rfl ?_
              exact j0_107 hw ax base ax sel k j ae a__VALUES a_TITLE a_AUTHOR a_SUBJECT a_ISBN a_ANY k_a__VALUES hfit S7 St__VALUES X_a__VALUES St_TITLE X_a_TITLE St_AUTHOR X_a_AUTHOR St_SUBJECT X_a_SUBJECT St_ISBN X_a_ISBN St_ANY X_a_ANY F_a_TITLE_m_nUse F_a_AUTHOR_m_nUse F_a_SUBJECT_m_nUse F_a_ISBN_m_nUse F_a_ANY_m_nUse V_a__VALUES Se Xe Fe
            · intro c93
              refine Go.lload S7 at_96 rfl (pc' := 98) rfl ?_
              refine Go.lneg S7 at_98 (pc' := 99) rfl ?_
              refine Go.lstore S7 at_99 (Ls' := #[.val (.long ax), .second, .val (.int sel), .val (.int k), .val (.int j), .val (.long base), .second, .val (.long (-base)), .second, .unset, .unset]) rfl (pc' := 101) rfl ?_
              refine Go.goto S7 at_101 (pc' := 107) (by decide) ?_
              exact j0_107 hw ax base (-base) sel k j ae a__VALUES a_TITLE a_AUTHOR a_SUBJECT a_ISBN a_ANY k_a__VALUES hfit S7 St__VALUES X_a__VALUES St_TITLE X_a_TITLE St_AUTHOR X_a_AUTHOR St_SUBJECT X_a_SUBJECT St_ISBN X_a_ISBN St_ANY X_a_ANY F_a_TITLE_m_nUse F_a_AUTHOR_m_nUse F_a_SUBJECT_m_nUse F_a_ISBN_m_nUse F_a_ANY_m_nUse V_a__VALUES Se Xe Fe
          · intro c77
            refine Go.lload S7 at_80 rfl (pc' := 82) rfl ?_
            refine Go.ldc2 S7 (wd50 hw) at_82 (pc' := 85) rfl ?_
            refine Go.ladd S7 at_85 (pc' := 86) rfl ?_
            refine Go.lstore S7 at_86 (Ls' := #[.val (.long ax), .second, .val (.int sel), .val (.int k), .val (.int j), .val (.long base), .second, .val (.long (base + (-9223372036854775808 : Int64))), .second, .unset, .unset]) rfl (pc' := 88) rfl ?_
            refine Go.goto S7 at_88 (pc' := 107) (by decide) ?_
            exact j0_107 hw ax base (base + (-9223372036854775808 : Int64)) sel k j ae a__VALUES a_TITLE a_AUTHOR a_SUBJECT a_ISBN a_ANY k_a__VALUES hfit S7 St__VALUES X_a__VALUES St_TITLE X_a_TITLE St_AUTHOR X_a_AUTHOR St_SUBJECT X_a_SUBJECT St_ISBN X_a_ISBN St_ANY X_a_ANY F_a_TITLE_m_nUse F_a_AUTHOR_m_nUse F_a_SUBJECT_m_nUse F_a_ISBN_m_nUse F_a_ANY_m_nUse V_a__VALUES Se Xe Fe
        · intro c60
          refine Go.lload S7 at_63 rfl (pc' := 65) rfl ?_
          refine Go.lloadN S7 at_65 rfl (pc' := 66) rfl ?_
          refine Go.bipush S7 (v := 32) at_66 rfl (pc' := 68) rfl ?_
          refine Go.lshl S7 at_68 (pc' := 69) rfl ?_
          refine Go.ladd S7 at_69 (pc' := 70) rfl ?_
          refine Go.lstore S7 at_70 (Ls' := #[.val (.long ax), .second, .val (.int sel), .val (.int k), .val (.int j), .val (.long base), .second, .val (.long (base + (ax <<< ((32 : Int32) &&& 0x3f).toInt64))), .second, .unset, .unset]) rfl (pc' := 72) rfl ?_
          refine Go.goto S7 at_72 (pc' := 107) (by decide) ?_
          exact j0_107 hw ax base (base + (ax <<< ((32 : Int32) &&& 0x3f).toInt64)) sel k j ae a__VALUES a_TITLE a_AUTHOR a_SUBJECT a_ISBN a_ANY k_a__VALUES hfit S7 St__VALUES X_a__VALUES St_TITLE X_a_TITLE St_AUTHOR X_a_AUTHOR St_SUBJECT X_a_SUBJECT St_ISBN X_a_ISBN St_ANY X_a_ANY F_a_TITLE_m_nUse F_a_AUTHOR_m_nUse F_a_SUBJECT_m_nUse F_a_ISBN_m_nUse F_a_ANY_m_nUse V_a__VALUES Se Xe Fe
      · intro c46
        refine Go.lload S7 at_49 rfl (pc' := 51) rfl ?_
        refine Go.lconst S7 (v := 1) at_51 rfl (pc' := 52) rfl ?_
        refine Go.lsub S7 at_52 (pc' := 53) rfl ?_
        refine Go.lstore S7 at_53 (Ls' := #[.val (.long ax), .second, .val (.int sel), .val (.int k), .val (.int j), .val (.long base), .second, .val (.long (base - (1 : Int64))), .second, .unset, .unset]) rfl (pc' := 55) rfl ?_
        refine Go.goto S7 at_55 (pc' := 107) (by decide) ?_
        exact j0_107 hw ax base (base - (1 : Int64)) sel k j ae a__VALUES a_TITLE a_AUTHOR a_SUBJECT a_ISBN a_ANY k_a__VALUES hfit S7 St__VALUES X_a__VALUES St_TITLE X_a_TITLE St_AUTHOR X_a_AUTHOR St_SUBJECT X_a_SUBJECT St_ISBN X_a_ISBN St_ANY X_a_ANY F_a_TITLE_m_nUse F_a_AUTHOR_m_nUse F_a_SUBJECT_m_nUse F_a_ISBN_m_nUse F_a_ANY_m_nUse V_a__VALUES Se Xe Fe
    · intro c32
      refine Go.lload S7 at_35 rfl (pc' := 37) rfl ?_
      refine Go.lconst S7 (v := 1) at_37 rfl (pc' := 38) rfl ?_
      refine Go.ladd S7 at_38 (pc' := 39) rfl ?_
      refine Go.lstore S7 at_39 (Ls' := #[.val (.long ax), .second, .val (.int sel), .val (.int k), .val (.int j), .val (.long base), .second, .val (.long (base + (1 : Int64))), .second, .unset, .unset]) rfl (pc' := 41) rfl ?_
      refine Go.goto S7 at_41 (pc' := 107) (by decide) ?_
      exact j0_107 hw ax base (base + (1 : Int64)) sel k j ae a__VALUES a_TITLE a_AUTHOR a_SUBJECT a_ISBN a_ANY k_a__VALUES hfit S7 St__VALUES X_a__VALUES St_TITLE X_a_TITLE St_AUTHOR X_a_AUTHOR St_SUBJECT X_a_SUBJECT St_ISBN X_a_ISBN St_ANY X_a_ANY F_a_TITLE_m_nUse F_a_AUTHOR_m_nUse F_a_SUBJECT_m_nUse F_a_ISBN_m_nUse F_a_ANY_m_nUse V_a__VALUES Se Xe Fe
  · intro c20
    refine Go.lload S7 at_23 rfl (pc' := 25) rfl ?_
    refine Go.lstore S7 at_25 (Ls' := #[.val (.long ax), .second, .val (.int sel), .val (.int k), .val (.int j), .val (.long base), .second, .val (.long base), .second, .unset, .unset]) rfl (pc' := 27) rfl ?_
    refine Go.goto S7 at_27 (pc' := 107) (by decide) ?_
    exact j0_107 hw ax base base sel k j ae a__VALUES a_TITLE a_AUTHOR a_SUBJECT a_ISBN a_ANY k_a__VALUES hfit S7 St__VALUES X_a__VALUES St_TITLE X_a_TITLE St_AUTHOR X_a_AUTHOR St_SUBJECT X_a_SUBJECT St_ISBN X_a_ISBN St_ANY X_a_ANY F_a_TITLE_m_nUse F_a_AUTHOR_m_nUse F_a_SUBJECT_m_nUse F_a_ISBN_m_nUse F_a_ANY_m_nUse V_a__VALUES Se Xe Fe
set_option maxRecDepth 65536 in
set_option maxHeartbeats 4000000 in
theorem comes_1 {Post : Tables → Env → Array Value → State → Outcome → State → Prop} (hpost : ∀ tb e args s v u, (limb_1_1.after args s (.returned v) u = true ∧ limb_1_2.after args s (.returned v) u = true ∧ True) → FrameEnd s (.returned v) u (Jvm.fieldLocs frame_1_writes args s ++ Jvm.arrayLocs frame_1_arrays args s ++ Jvm.staticLocs frame_1_statics s) 16 128 → Post tb e args s (.returned v) u) :
    ArmFor flags0 classFile x code maxLocals ret World_1 tables_1 room_1 Calls_1 rest_1 Pre_1 Post := by
  intro l hfl _ _ p e ha hc hk s m args below hf hA hF happ hP
  obtain ⟨hcalls, hrest, hpre⟩ := hP
  obtain ⟨-, -, -, hnamed, -, -, -, hat⟩ := (Spec.applies_iff hf).mp happ
  obtain ⟨hg, hn⟩ := and_e (Cond.before_iff.mp (show (Jvm.Cond.and given_1 narrow_1).before args s = true from hpre))
  obtain ⟨g1a, g1b⟩ := and_e hg
  obtain ⟨g2a, g2b⟩ := and_e g1b
  obtain ⟨w0, w1, rfl⟩ : ∃ w0 w1 : Value, args = #[w0, w1] := by
    have hs : args.size = 2 := by simpa [Cond.value, given_1] using g1a
    obtain ⟨L⟩ := args
    match L, hs with
    | [w0, w1], _ => exact ⟨w0, w1, rfl⟩
  have hw : HW s _ := fun d (hd : d ∈ tables_1) => atoms_spec (ws := Jvm.Cond.code x code maxLocals ret :: tables_1) hat d (List.mem_cons_of_mem _ hd)
  have hfit : Fit s := fun {y c} hc i hi => by
    obtain ⟨ha, rfl⟩ := Array.getElem?_eq_some_iff.mp hc
    have q := List.all_eq_true.mp ((Array.all_eq_true_iff_forall_mem.mp hF) _ (Array.getElem_mem ha)) i (List.mem_range.mpr hi)
    simpa [Array.getElem?_eq_getElem hi] using q
  obtain ⟨i0, ei0⟩ := isL_v g2a
  obtain rfl : w0 = (.long i0) := Option.some.inj ei0
  obtain ⟨i1, ei1⟩ := is_v g2b
  obtain rfl : w1 = (.int i1) := Option.some.inj ei1
  obtain ⟨n1a, n1b⟩ := and_e hn
  obtain ⟨n2a, n2b⟩ := and_e n1b
  obtain ⟨n3a, n3b⟩ := and_e n2b
  obtain ⟨n4a, n4b⟩ := and_e n3b
  obtain ⟨n5a, n5b⟩ := and_e n4b
  obtain ⟨n6a, n6b⟩ := and_e n5b
  obtain ⟨n7a, n7b⟩ := and_e n6b
  obtain ⟨n8a, n8b⟩ := and_e n7b
  obtain ⟨n9a, n9b⟩ := and_e n8b
  obtain ⟨n10a, n10b⟩ := and_e n9b
  obtain ⟨n11a, n11b⟩ := and_e n10b
  obtain ⟨n12a, n12b⟩ := and_e n11b
  obtain ⟨n13a, n13b⟩ := and_e n12b
  obtain ⟨n14a, n14b⟩ := and_e n13b
  obtain ⟨n15a, n15b⟩ := and_e n14b
  obtain ⟨n16a, n16b⟩ := and_e n15b
  obtain ⟨n17a, n17b⟩ := and_e n16b
  obtain ⟨a__VALUES, ev_a__VALUES⟩ := arr_v n1a
  have St__VALUES : Sta s s.heap "com/example/tributary/tributary/target/AccessPoint" "$VALUES" "[Lcom/example/tributary/tributary/target/AccessPoint;" (.ref a__VALUES) := Sta.start ev_a__VALUES (Or.inr ⟨(wd7 hw), (wd13 hw)⟩)
  obtain ⟨cl_a__VALUES, A_a__VALUES⟩ := Arr.start ev_a__VALUES n1a
  have X_a__VALUES : Exa s s.heap a__VALUES "[Lcom/example/tributary/tributary/target/AccessPoint;" := Exa.start ev_a__VALUES n2a
  obtain ⟨a_TITLE, ev_a_TITLE⟩ := exa_v n4a
  have St_TITLE : Sta s s.heap "com/example/tributary/tributary/target/AccessPoint" "TITLE" "Lcom/example/tributary/tributary/target/AccessPoint;" (.ref a_TITLE) := Sta.start ev_a_TITLE (Or.inr ⟨(wd7 hw), (wd21 hw)⟩)
  have X_a_TITLE : Exa s s.heap a_TITLE "com/example/tributary/tributary/target/AccessPoint" := Exa.start ev_a_TITLE n4a
  obtain ⟨a_AUTHOR, ev_a_AUTHOR⟩ := exa_v n6a
  have St_AUTHOR : Sta s s.heap "com/example/tributary/tributary/target/AccessPoint" "AUTHOR" "Lcom/example/tributary/tributary/target/AccessPoint;" (.ref a_AUTHOR) := Sta.start ev_a_AUTHOR (Or.inr ⟨(wd7 hw), (wd22 hw)⟩)
  have X_a_AUTHOR : Exa s s.heap a_AUTHOR "com/example/tributary/tributary/target/AccessPoint" := Exa.start ev_a_AUTHOR n6a
  obtain ⟨a_SUBJECT, ev_a_SUBJECT⟩ := exa_v n8a
  have St_SUBJECT : Sta s s.heap "com/example/tributary/tributary/target/AccessPoint" "SUBJECT" "Lcom/example/tributary/tributary/target/AccessPoint;" (.ref a_SUBJECT) := Sta.start ev_a_SUBJECT (Or.inr ⟨(wd7 hw), (wd23 hw)⟩)
  have X_a_SUBJECT : Exa s s.heap a_SUBJECT "com/example/tributary/tributary/target/AccessPoint" := Exa.start ev_a_SUBJECT n8a
  obtain ⟨a_ISBN, ev_a_ISBN⟩ := exa_v n10a
  have St_ISBN : Sta s s.heap "com/example/tributary/tributary/target/AccessPoint" "ISBN" "Lcom/example/tributary/tributary/target/AccessPoint;" (.ref a_ISBN) := Sta.start ev_a_ISBN (Or.inr ⟨(wd7 hw), (wd24 hw)⟩)
  have X_a_ISBN : Exa s s.heap a_ISBN "com/example/tributary/tributary/target/AccessPoint" := Exa.start ev_a_ISBN n10a
  obtain ⟨a_ANY, ev_a_ANY⟩ := exa_v n12a
  have St_ANY : Sta s s.heap "com/example/tributary/tributary/target/AccessPoint" "ANY" "Lcom/example/tributary/tributary/target/AccessPoint;" (.ref a_ANY) := Sta.start ev_a_ANY (Or.inr ⟨(wd7 hw), (wd25 hw)⟩)
  have X_a_ANY : Exa s s.heap a_ANY "com/example/tributary/tributary/target/AccessPoint" := Exa.start ev_a_ANY n12a
  have F_a_TITLE_m_nUse : Fld s s.heap a_TITLE "com/example/tributary/tributary/target/AccessPoint" "m_nUse" "I" (.int 4) := Fld.start ((fld_at ev_a_TITLE).symm.trans (own_eqI n14a))
  have F_a_AUTHOR_m_nUse : Fld s s.heap a_AUTHOR "com/example/tributary/tributary/target/AccessPoint" "m_nUse" "I" (.int 1003) := Fld.start ((fld_at ev_a_AUTHOR).symm.trans (own_eqI n15a))
  have F_a_SUBJECT_m_nUse : Fld s s.heap a_SUBJECT "com/example/tributary/tributary/target/AccessPoint" "m_nUse" "I" (.int 21) := Fld.start ((fld_at ev_a_SUBJECT).symm.trans (own_eqI n16a))
  have F_a_ISBN_m_nUse : Fld s s.heap a_ISBN "com/example/tributary/tributary/target/AccessPoint" "m_nUse" "I" (.int 7) := Fld.start ((fld_at ev_a_ISBN).symm.trans (own_eqI n17a))
  have F_a_ANY_m_nUse : Fld s s.heap a_ANY "com/example/tributary/tributary/target/AccessPoint" "m_nUse" "I" (.int 1016) := Fld.start ((fld_at ev_a_ANY).symm.trans (own_eqI n17b))
  have el_a__VALUES_0 := (elem_in (own_eqR n5a ev_a_TITLE) ev_a__VALUES (Term.int_eval (0 : Int32)) A_a__VALUES.1).2
  have el_a__VALUES_1 := (elem_in (own_eqR n7a ev_a_AUTHOR) ev_a__VALUES (Term.int_eval (1 : Int32)) A_a__VALUES.1).2
  have el_a__VALUES_2 := (elem_in (own_eqR n9a ev_a_SUBJECT) ev_a__VALUES (Term.int_eval (2 : Int32)) A_a__VALUES.1).2
  have el_a__VALUES_3 := (elem_in (own_eqR n11a ev_a_ISBN) ev_a__VALUES (Term.int_eval (3 : Int32)) A_a__VALUES.1).2
  have el_a__VALUES_4 := (elem_in (own_eqR n13a ev_a_ANY) ev_a__VALUES (Term.int_eval (4 : Int32)) A_a__VALUES.1).2
  have V_a__VALUES : Arv s s.heap a__VALUES cl_a__VALUES.cls (.object "com/example/tributary/tributary/target/AccessPoint") 5 [(.ref a_TITLE), (.ref a_AUTHOR), (.ref a_SUBJECT), (.ref a_ISBN), (.ref a_ANY)] .null := own_arr hfit A_a__VALUES ev_a__VALUES (own_eqI n3a) (by decide) rfl ⟨el_a__VALUES_0, el_a__VALUES_1, el_a__VALUES_2, el_a__VALUES_3, el_a__VALUES_4, trivial⟩
  obtain ⟨hsets, -⟩ := atoms_of _ (rest_1_c_eq ▸ (show rest_1_c.before _ s = true from hrest))
  have hs2 := Cond.before_iff.mp (hsets _ (List.mem_of_getElem? (i := 2) rfl))
  have hs3 := Cond.before_iff.mp (hsets _ (List.mem_of_getElem? (i := 3) rfl))
  obtain ⟨ae, eve⟩ := exa_v hs2
  have Se : Sta s s.heap "java/util/Optional" "EMPTY" "Ljava/util/Optional;" (.ref ae) := Sta.start eve (Or.inl (hsets _ (List.mem_of_getElem? (i := 1) rfl)))
  have Xe : Exa s s.heap ae "java/util/Optional" := Exa.start eve hs2
  have Fe : Fld s s.heap ae "java/util/Optional" "value" "Ljava/lang/Object;" .null := Fld.start ((fld_at eve).symm.trans (null_v hs3))
  obtain ⟨n, o, h1, h2, h3, _, L, rfl, ⟨N, -, -, rfl⟩, hq⟩ := rm_code (l := l) hw i0 i1 ae a__VALUES a_TITLE a_AUTHOR a_SUBJECT a_ISBN a_ANY cl_a__VALUES.cls hfit (h0 := s.heap) ⟨Nat.le_refl _, fun _ _ q => q⟩ St__VALUES X_a__VALUES St_TITLE X_a_TITLE St_AUTHOR X_a_AUTHOR St_SUBJECT X_a_SUBJECT St_ISBN X_a_ISBN St_ANY X_a_ANY F_a_TITLE_m_nUse F_a_AUTHOR_m_nUse F_a_SUBJECT_m_nUse F_a_ISBN_m_nUse F_a_ANY_m_nUse V_a__VALUES Se Xe Fe tables_1 p e ha hc hk s m _ below hf ((Spec.applies_iff_loose hf).mp happ).1 ⟨rfl, State.Warmed39.refl s, rfl⟩ trivial
  refine ⟨n, _, h1, h2, h3, hpost _ _ _ _ _ _ ⟨Cond.after_iff.mpr rfl, Cond.after_iff.mpr (eq_i res_at (Term.int_eval (1)) rfl), trivial⟩ ⟨hq.1, hq.2.1, (hq.2.2.sift fun y hy => Or.inr (N y hy)).mono (by decide) (by decide)⟩⟩
theorem main_1_1 : Claimed_1_1 := comes_1 fun _ _ _ _ _ _ h hF => ⟨h.1, hF⟩
theorem main_1_2 : Claimed_1_2 := comes_1 fun _ _ _ _ _ _ h hF => ⟨h.2.1, hF⟩
end Jvm.Pilot.@@N@@
namespace Jvm.Pilot.@@N@@
open Jvm Jvm.ClassFile Sem Op Lib Jvm.Free Jvm.Stand Jvm.Pilot.@@N@@.Jvm.D
/-! MADE BY PROGRAM (witnessworld.py) out of the Statement's table words and the real class files: 15 classes; the members and pool entries that the words name. The judged class is class 1, her method 3. -/
namespace start1
open Jvm.ClassFile
def u (s : String) : CpInfo := .utf8 (stringToUtf16 s)
/-- a pool by its gaps: so many unusable entries, then the entry; so many at the end -/
def gap : Nat → List CpInfo → List CpInfo
  | 0, r => r
  | n + 1, r => .unusable :: gap n r
def poolList (es : List (Nat × CpInfo)) (last : Nat) : List CpInfo := es.foldr (fun e r => gap e.1 (e.2 :: r)) (gap last [])
def pool (es : List (Nat × CpInfo)) (last : Nat) : Array CpInfo := ⟨poolList es last⟩
def fileOf (pool : Array CpInfo) (this : Nat) (attrs : Array Attribute := #[]) (ms : Array MethodInfo := #[]) (fl : Nat := 33) (sup : Nat := 0) (ifs : Array Nat := #[]) (fds : Array FieldInfo := #[]) : ClassFile where
  minorVersion := 0
  majorVersion := 65
  constantPool := pool
  accessFlags := fl
  thisClass := this
  superClass := sup
  interfaces := ifs
  fields := fds
  methods := ms
  attributes := attrs
def plain (name : String) (sup : Option ClassId) : Class where
  name := name
  kind := .ordinary
  loader := none
  accessFlags := 33
  super := sup
  interfaces := #[]
  cf := none
  fields := #[]
  methods := #[]
  instanceTypes := #[]
  staticTypes := #[]
  resolved := #[]
  callSites := []
  init := .initialized
  statics := none
  mirror := none

def pool0 : Array CpInfo := pool [(5, u "<init>"), (0, u "()V"), (1, .class_ 10), (1, u "java/lang/Object"), (85, u "clone"), (0, u "()Ljava/lang/Object;")] 26

def k0c0 : Code := { maxStack := 0, maxLocals := 1, code := object_method_1_code, exceptionTable := #[], attributes := #[] }
def k0m0 : Method := { name := "<init>", desc := "()V", sig := { parameters := [], returnType := none }, accessFlags := 1, code := some k0c0 }
def k0m1 : Method := { name := "clone", desc := "()Ljava/lang/Object;", sig := { parameters := [], returnType := some (.object "java/lang/Object") }, accessFlags := 260, code := none }
/-- java/lang/Object -/
def k0 : Class := { plain "java/lang/Object" none with
  accessFlags := 33
  interfaces := #[]
  cf := some (fileOf pool0 8 #[] #[{ accessFlags := 1, nameIndex := 5, descriptorIndex := 6, attributes := #[] }, { accessFlags := 260, nameIndex := 96, descriptorIndex := 97, attributes := #[] }] 33 0 #[] #[])
  fields := #[]
  methods := #[k0m0, k0m1]
  instanceTypes := #[]
  staticTypes := #[]
  resolved := Array.replicate 124 none
  statics := none }

def pool1 : Array CpInfo := pool [(2, .class_ 4), (1, u "java/lang/Object"), (0, u "<init>"), (0, u "()V"), (0, .long 4), (1, .long 1003), (1, .long 21), (1, .long 7), (1, .long 1016), (1, .fieldref 18 19), (0, .class_ 20), (0, .nameAndType 21 22), (0, u "com/example/tributary/tributary/target/AccessPoint"), (0, u "TITLE"), (0, u "Lcom/example/tributary/tributary/target/AccessPoint;"), (0, .fieldref 18 24), (0, .nameAndType 25 22), (0, u "AUTHOR"), (0, .fieldref 18 27), (0, .nameAndType 28 22), (0, u "SUBJECT"), (0, .fieldref 18 30), (0, .nameAndType 31 22), (0, u "ISBN"), (0, .fieldref 18 33), (0, .nameAndType 34 22), (0, u "ANY"), (0, .methodref 36 37), (0, .class_ 38), (0, .nameAndType 39 40), (0, u "com/example/tributary/tributary/target/AccessPointOfUsePinLaw"), (0, u "useOf"), (0, u "(I)J"), (2, .long 9223372036854775808), (1, .methodref 18 46), (0, .nameAndType 47 48), (0, u "ofUse"), (0, u "(J)Ljava/util/Optional;"), (0, .methodref 36 50), (0, .nameAndType 51 52), (0, u "expected"), (0, u "(J)Lcom/example/tributary/tributary/target/AccessPoint;"), (0, .methodref 54 55), (0, .class_ 56), (0, .nameAndType 57 58), (0, u "java/util/Optional"), (0, u "isPresent"), (0, u "()Z"), (0, .methodref 54 60), (0, .nameAndType 61 62), (0, u "get"), (0, u "()Ljava/lang/Object;"), (3, u "law"), (0, u "(JI)Z")] 2

def k1m0 : Method := { name := "<init>", desc := "()V", sig := { parameters := [], returnType := none }, accessFlags := 1, code := none }
def k1c1 : Code := { maxStack := 2, maxLocals := 1, code := method_2_code, exceptionTable := #[], attributes := #[] }
def k1m1 : Method := { name := "useOf", desc := "(I)J", sig := { parameters := [.int], returnType := some .long }, accessFlags := 10, code := some k1c1 }
def k1c2 : Code := { maxStack := 4, maxLocals := 2, code := method_3_code, exceptionTable := #[], attributes := #[] }
def k1m2 : Method := { name := "expected", desc := "(J)Lcom/example/tributary/tributary/target/AccessPoint;", sig := { parameters := [.long], returnType := some (.object "com/example/tributary/tributary/target/AccessPoint") }, accessFlags := 10, code := some k1c2 }
def k1c3 : Code := { maxStack := 5, maxLocals := 11, code := code, exceptionTable := #[], attributes := #[] }
def k1m3 : Method := { name := "law", desc := "(JI)Z", sig := { parameters := [.long, .int], returnType := some .boolean }, accessFlags := 9, code := some k1c3 }
/-- com/example/tributary/tributary/target/AccessPointOfUsePinLaw -/
def k1 : Class := { plain "com/example/tributary/tributary/target/AccessPointOfUsePinLaw" (some 0) with
  accessFlags := 49
  interfaces := #[]
  cf := some (fileOf pool1 36 #[] #[{ accessFlags := 1, nameIndex := 5, descriptorIndex := 6, attributes := #[] }, { accessFlags := 10, nameIndex := 39, descriptorIndex := 40, attributes := #[] }, { accessFlags := 10, nameIndex := 51, descriptorIndex := 52, attributes := #[] }, { accessFlags := 9, nameIndex := 66, descriptorIndex := 67, attributes := #[] }] 49 2 #[] #[])
  fields := #[]
  methods := #[k1m0, k1m1, k1m2, k1m3]
  instanceTypes := #[]
  staticTypes := #[]
  resolved := Array.replicate 70 none
  statics := none }

def pool2 : Array CpInfo := pool [(1, .class_ 2), (0, u "java/lang/constant/Constable"), (0, .class_ 4), (0, u "java/lang/Object")] 6

/-- java/lang/constant/Constable -/
def k2 : Class := { plain "java/lang/constant/Constable" (some 0) with
  accessFlags := 1537
  interfaces := #[]
  cf := some (fileOf pool2 1 #[] #[] 1537 3 #[] #[])
  fields := #[]
  methods := #[]
  instanceTypes := #[]
  staticTypes := #[]
  resolved := Array.replicate 11 none
  statics := none }

def pool3 : Array CpInfo := pool [(1, .class_ 2), (0, u "java/lang/Comparable"), (0, .class_ 4), (0, u "java/lang/Object")] 7

/-- java/lang/Comparable -/
def k3 : Class := { plain "java/lang/Comparable" (some 0) with
  accessFlags := 1537
  interfaces := #[]
  cf := some (fileOf pool3 1 #[] #[] 1537 3 #[] #[])
  fields := #[]
  methods := #[]
  instanceTypes := #[]
  staticTypes := #[]
  resolved := Array.replicate 12 none
  statics := none }

def pool4 : Array CpInfo := pool [(1, .class_ 2), (0, u "java/io/Serializable"), (0, .class_ 4), (0, u "java/lang/Object")] 2

/-- java/io/Serializable -/
def k4 : Class := { plain "java/io/Serializable" (some 0) with
  accessFlags := 1537
  interfaces := #[]
  cf := some (fileOf pool4 1 #[] #[] 1537 3 #[] #[])
  fields := #[]
  methods := #[]
  instanceTypes := #[]
  staticTypes := #[]
  resolved := Array.replicate 7 none
  statics := none }

def pool5 : Array CpInfo := pool [(2, .class_ 4), (1, u "java/lang/Enum"), (0, u "name"), (0, u "Ljava/lang/String;"), (2, u "ordinal"), (0, u "I"), (1, .class_ 14), (1, u "java/lang/Object"), (4, u "hash"), (86, .class_ 108), (1, u "java/lang/Enum$EnumDesc"), (2, .class_ 112), (0, u "java/lang/constant/Constable"), (0, .class_ 114), (0, u "java/lang/Comparable"), (0, .class_ 116), (0, u "java/io/Serializable")] 87

/-- java/lang/Enum -/
def k5 : Class := { plain "java/lang/Enum" (some 0) with
  accessFlags := 1057
  interfaces := #[2, 3, 4]
  cf := some (fileOf pool5 2 #[.nestMembers #[106]] #[] 1057 12 #[111, 113, 115] #[{ accessFlags := 18, nameIndex := 5, descriptorIndex := 6, attributes := #[] }, { accessFlags := 18, nameIndex := 9, descriptorIndex := 10, attributes := #[] }, { accessFlags := 2, nameIndex := 19, descriptorIndex := 10, attributes := #[] }])
  fields := #[{ name := "name", type := (.object "java/lang/String"), accessFlags := 18, slot := 0, constantValue := 0 }, { name := "ordinal", type := .int, accessFlags := 18, slot := 1, constantValue := 0 }, { name := "hash", type := .int, accessFlags := 2, slot := 2, constantValue := 0 }]
  methods := #[]
  instanceTypes := #[(.object "java/lang/String"), .int, .int]
  staticTypes := #[]
  resolved := Array.replicate 204 none
  statics := none }

def pool6 : Array CpInfo := pool [(1, .class_ 2), (0, u "com/example/tributary/tributary/target/AccessPoint"), (2, u "TITLE"), (0, u "Lcom/example/tributary/tributary/target/AccessPoint;"), (2, u "AUTHOR"), (2, u "SUBJECT"), (2, u "ISBN"), (2, u "ANY"), (0, .fieldref 1 20), (0, .nameAndType 21 22), (0, u "$VALUES"), (0, u "[Lcom/example/tributary/tributary/target/AccessPoint;"), (0, .methodref 24 25), (0, .class_ 22), (0, .nameAndType 26 27), (0, u "clone"), (0, u "()Ljava/lang/Object;"), (1, .class_ 31), (1, u "java/lang/Enum"), (6, .fieldref 1 39), (0, .nameAndType 40 41), (0, u "m_nUse"), (0, u "I"), (2, u "m_aTags"), (0, u "Ljava/util/Set;"), (2, u "m_sSubfieldCodes"), (0, u "Ljava/lang/String;"), (0, .methodref 1 51), (0, .nameAndType 52 53), (0, u "values"), (0, u "()[Lcom/example/tributary/tributary/target/AccessPoint;"), (0, .methodref 55 56), (0, .class_ 57), (0, .nameAndType 58 59), (0, u "java/util/Optional"), (0, u "of"), (0, u "(Ljava/lang/Object;)Ljava/util/Optional;"), (0, .methodref 55 61), (0, .nameAndType 62 63), (0, u "empty"), (0, u "()Ljava/util/Optional;"), (93, u "ofUse"), (0, u "(J)Ljava/util/Optional;")] 31

def k6c0 : Code := { maxStack := 1, maxLocals := 0, code := prog_47_method_1_code, exceptionTable := #[], attributes := #[] }
def k6m0 : Method := { name := "values", desc := "()[Lcom/example/tributary/tributary/target/AccessPoint;", sig := { parameters := [], returnType := some (.array (.object "com/example/tributary/tributary/target/AccessPoint")) }, accessFlags := 9, code := some k6c0 }
def k6c1 : Code := { maxStack := 4, maxLocals := 6, code := prog_47_method_4_code, exceptionTable := #[], attributes := #[] }
def k6m1 : Method := { name := "ofUse", desc := "(J)Ljava/util/Optional;", sig := { parameters := [.long], returnType := some (.object "java/util/Optional") }, accessFlags := 8, code := some k6c1 }
/-- com/example/tributary/tributary/target/AccessPoint -/
def k6 : Class := { plain "com/example/tributary/tributary/target/AccessPoint" (some 5) with
  accessFlags := 16432
  interfaces := #[]
  cf := some (fileOf pool6 1 #[] #[{ accessFlags := 9, nameIndex := 52, descriptorIndex := 53, attributes := #[] }, { accessFlags := 8, nameIndex := 157, descriptorIndex := 158, attributes := #[] }] 16432 29 #[] #[{ accessFlags := 16409, nameIndex := 5, descriptorIndex := 6, attributes := #[] }, { accessFlags := 16409, nameIndex := 9, descriptorIndex := 6, attributes := #[] }, { accessFlags := 16409, nameIndex := 12, descriptorIndex := 6, attributes := #[] }, { accessFlags := 16409, nameIndex := 15, descriptorIndex := 6, attributes := #[] }, { accessFlags := 16409, nameIndex := 18, descriptorIndex := 6, attributes := #[] }, { accessFlags := 18, nameIndex := 40, descriptorIndex := 41, attributes := #[] }, { accessFlags := 18, nameIndex := 44, descriptorIndex := 45, attributes := #[] }, { accessFlags := 18, nameIndex := 48, descriptorIndex := 49, attributes := #[] }, { accessFlags := 4122, nameIndex := 21, descriptorIndex := 22, attributes := #[] }])
  fields := #[{ name := "TITLE", type := (.object "com/example/tributary/tributary/target/AccessPoint"), accessFlags := 16409, slot := 0, constantValue := 0 }, { name := "AUTHOR", type := (.object "com/example/tributary/tributary/target/AccessPoint"), accessFlags := 16409, slot := 1, constantValue := 0 }, { name := "SUBJECT", type := (.object "com/example/tributary/tributary/target/AccessPoint"), accessFlags := 16409, slot := 2, constantValue := 0 }, { name := "ISBN", type := (.object "com/example/tributary/tributary/target/AccessPoint"), accessFlags := 16409, slot := 3, constantValue := 0 }, { name := "ANY", type := (.object "com/example/tributary/tributary/target/AccessPoint"), accessFlags := 16409, slot := 4, constantValue := 0 }, { name := "m_nUse", type := .int, accessFlags := 18, slot := 3, constantValue := 0 }, { name := "m_aTags", type := (.object "java/util/Set"), accessFlags := 18, slot := 4, constantValue := 0 }, { name := "m_sSubfieldCodes", type := (.object "java/lang/String"), accessFlags := 18, slot := 5, constantValue := 0 }, { name := "$VALUES", type := (.array (.object "com/example/tributary/tributary/target/AccessPoint")), accessFlags := 4122, slot := 5, constantValue := 0 }]
  methods := #[k6m0, k6m1]
  instanceTypes := #[(.object "java/lang/String"), .int, .int, .int, (.object "java/util/Set"), (.object "java/lang/String")]
  staticTypes := #[(.object "com/example/tributary/tributary/target/AccessPoint"), (.object "com/example/tributary/tributary/target/AccessPoint"), (.object "com/example/tributary/tributary/target/AccessPoint"), (.object "com/example/tributary/tributary/target/AccessPoint"), (.object "com/example/tributary/tributary/target/AccessPoint"), (.array (.object "com/example/tributary/tributary/target/AccessPoint"))]
  resolved := Array.replicate 190 none
  statics := some 0 }

def pool7 : Array CpInfo := pool [(1, .class_ 2), (0, u "java/lang/Cloneable"), (0, .class_ 4), (0, u "java/lang/Object")] 2

/-- java/lang/Cloneable -/
def k7 : Class := { plain "java/lang/Cloneable" (some 0) with
  accessFlags := 1537
  interfaces := #[]
  cf := some (fileOf pool7 1 #[] #[] 1537 3 #[] #[])
  fields := #[]
  methods := #[]
  instanceTypes := #[]
  staticTypes := #[]
  resolved := Array.replicate 7 none
  statics := none }

def pool8 : Array CpInfo := pool [(1, .fieldref 2 3), (0, .class_ 4), (0, .nameAndType 5 6), (0, u "java/util/Optional"), (0, u "EMPTY"), (0, u "Ljava/util/Optional;"), (0, .methodref 8 9), (0, .class_ 10), (0, .nameAndType 11 12), (0, u "java/lang/Object"), (0, u "<init>"), (0, u "()V"), (0, .fieldref 2 14), (0, .nameAndType 15 16), (0, u "value"), (0, u "Ljava/lang/Object;"), (0, .methodref 18 19), (0, .class_ 20), (0, .nameAndType 21 22), (0, u "java/util/Objects"), (0, u "requireNonNull"), (0, u "(Ljava/lang/Object;)Ljava/lang/Object;"), (0, .methodref 2 24), (0, .nameAndType 11 25), (0, u "(Ljava/lang/Object;)V"), (20, u "()Z"), (8, u "empty"), (0, u "()Ljava/util/Optional;"), (8, u "(Ljava/lang/Object;)Ljava/util/Optional;"), (2, u "isPresent"), (4, u "get"), (0, u "()Ljava/lang/Object;"), (7, u "of")] 104

def k8c0 : Code := { maxStack := 1, maxLocals := 1, code := jdk_32_method_1_code, exceptionTable := #[], attributes := #[] }
def k8m0 : Method := { name := "empty", desc := "()Ljava/util/Optional;", sig := { parameters := [], returnType := some (.object "java/util/Optional") }, accessFlags := 9, code := some k8c0 }
def k8c1 : Code := { maxStack := 2, maxLocals := 2, code := jdk_32_method_2_code, exceptionTable := #[], attributes := #[] }
def k8m1 : Method := { name := "<init>", desc := "(Ljava/lang/Object;)V", sig := { parameters := [(.object "java/lang/Object")], returnType := none }, accessFlags := 2, code := some k8c1 }
def k8c2 : Code := { maxStack := 3, maxLocals := 1, code := jdk_32_method_3_code, exceptionTable := #[], attributes := #[] }
def k8m2 : Method := { name := "of", desc := "(Ljava/lang/Object;)Ljava/util/Optional;", sig := { parameters := [(.object "java/lang/Object")], returnType := some (.object "java/util/Optional") }, accessFlags := 9, code := some k8c2 }
def k8c3 : Code := { maxStack := 3, maxLocals := 1, code := jdk_32_method_5_code, exceptionTable := #[], attributes := #[] }
def k8m3 : Method := { name := "get", desc := "()Ljava/lang/Object;", sig := { parameters := [], returnType := some (.object "java/lang/Object") }, accessFlags := 1, code := some k8c3 }
def k8c4 : Code := { maxStack := 1, maxLocals := 1, code := jdk_32_method_6_code, exceptionTable := #[], attributes := #[] }
def k8m4 : Method := { name := "isPresent", desc := "()Z", sig := { parameters := [], returnType := some .boolean }, accessFlags := 1, code := some k8c4 }
/-- java/util/Optional -/
def k8 : Class := { plain "java/util/Optional" (some 0) with
  accessFlags := 49
  interfaces := #[]
  cf := some (fileOf pool8 2 #[] #[{ accessFlags := 9, nameIndex := 55, descriptorIndex := 56, attributes := #[] }, { accessFlags := 2, nameIndex := 11, descriptorIndex := 25, attributes := #[] }, { accessFlags := 9, nameIndex := 82, descriptorIndex := 65, attributes := #[] }, { accessFlags := 1, nameIndex := 73, descriptorIndex := 74, attributes := #[] }, { accessFlags := 1, nameIndex := 68, descriptorIndex := 46, attributes := #[] }] 49 8 #[] #[{ accessFlags := 26, nameIndex := 5, descriptorIndex := 6, attributes := #[] }, { accessFlags := 18, nameIndex := 15, descriptorIndex := 16, attributes := #[] }])
  fields := #[{ name := "EMPTY", type := (.object "java/util/Optional"), accessFlags := 26, slot := 0, constantValue := 0 }, { name := "value", type := (.object "java/lang/Object"), accessFlags := 18, slot := 0, constantValue := 0 }]
  methods := #[k8m0, k8m1, k8m2, k8m3, k8m4]
  instanceTypes := #[(.object "java/lang/Object")]
  staticTypes := #[(.object "java/util/Optional")]
  resolved := Array.replicate 187 none
  statics := some 1 }

def pool9 : Array CpInfo := pool [(2, .class_ 4), (1, u "java/lang/Object"), (0, u "<init>"), (0, u "()V"), (35, .class_ 44), (1, u "java/util/Objects"), (0, u "requireNonNull"), (0, u "(Ljava/lang/Object;)Ljava/lang/Object;")] 137

def k9m0 : Method := { name := "<init>", desc := "()V", sig := { parameters := [], returnType := none }, accessFlags := 2, code := none }
def k9c1 : Code := { maxStack := 2, maxLocals := 1, code := jdk_31_method_10_code, exceptionTable := #[], attributes := #[] }
def k9m1 : Method := { name := "requireNonNull", desc := "(Ljava/lang/Object;)Ljava/lang/Object;", sig := { parameters := [(.object "java/lang/Object")], returnType := some (.object "java/lang/Object") }, accessFlags := 9, code := some k9c1 }
/-- java/util/Objects -/
def k9 : Class := { plain "java/util/Objects" (some 0) with
  accessFlags := 49
  interfaces := #[]
  cf := some (fileOf pool9 42 #[] #[{ accessFlags := 2, nameIndex := 5, descriptorIndex := 6, attributes := #[] }, { accessFlags := 9, nameIndex := 45, descriptorIndex := 46, attributes := #[] }] 49 2 #[] #[])
  fields := #[]
  methods := #[k9m0, k9m1]
  instanceTypes := #[]
  staticTypes := #[]
  resolved := Array.replicate 184 none
  statics := none }

/-- the primitive byte -/
def k10 : Class := { plain "byte" none with kind := .primitive 'B', accessFlags := 0x411 }
/-- [B -/
def k11 : Class := { plain "[B" (some 0) with kind := .array 10 .byte, interfaces := #[7, 4], accessFlags := 1041 }

/-- the primitive int -/
def k12 : Class := { plain "int" none with kind := .primitive 'I', accessFlags := 0x411 }
/-- [I -/
def k13 : Class := { plain "[I" (some 0) with kind := .array 12 .int, interfaces := #[7, 4], accessFlags := 1041 }

/-- [Lcom/example/tributary/tributary/target/AccessPoint; -/
def k14 : Class := { plain "[Lcom/example/tributary/tributary/target/AccessPoint;" (some 0) with kind := .array 6 (.object "com/example/tributary/tributary/target/AccessPoint"), interfaces := #[7, 4], accessFlags := 1041 }

def heap : Heap := #[{ cls := 6, slots := #[.ref 3, .ref 4, .ref 5, .ref 6, .ref 7, .ref 2], vm := .statics 6 },
  { cls := 8, slots := #[.ref 8], vm := .statics 8 },
  { cls := 14, slots := #[.ref 3, .ref 4, .ref 5, .ref 6, .ref 7], vm := .none },
  { cls := 6, slots := #[.null, .int 0, .int 0, .int 4, .null, .null], vm := .none },
  { cls := 6, slots := #[.null, .int 1, .int 0, .int 1003, .null, .null], vm := .none },
  { cls := 6, slots := #[.null, .int 2, .int 0, .int 21, .null, .null], vm := .none },
  { cls := 6, slots := #[.null, .int 3, .int 0, .int 7, .null, .null], vm := .none },
  { cls := 6, slots := #[.null, .int 4, .int 0, .int 1016, .null, .null], vm := .none },
  { cls := 8, slots := #[.null], vm := .none }]
def classes : Array Class := #[k0, k1, k2, k3, k4, k5, k6, k7, k8, k9, k10, k11, k12, k13, k14]
def interned : List (Array UInt16 × Addr) := []
def slotsUsed : Nat := 43
def theMethod : MethodId := ⟨1, 3⟩
def args0 : Array Value := #[.long 5, .int 7]
def aboutOver (below : List Frame) : State where
  vm := { classes := classes, interned := interned.toArray }
  heap := heap
  slotsUsed := slotsUsed
  threads := #[{ frames := .invoking theMethod args0 :: below }]
def below0 : List Frame := [.native { method := ⟨0, 0⟩, args := #[] }]
def about1 : State := aboutOver below0
def p0 : Program := .bare "" "" ""
def e0 : Env := launch0.env 0 0 0
theorem w_frames : about1.frames = Frame.invoking theMethod args0 :: below0 := rfl
set_option maxRecDepth 65536 in
theorem w_args : argsFit about1.vm theMethod args0 = true := by decide +kernel
set_option maxRecDepth 65536 in
theorem w_heap : heapFits about1 = true := by decide +kernel
set_option maxRecDepth 65536 in
theorem w_runnable : about1.curStatus? = some .runnable := by decide +kernel
set_option maxRecDepth 65536 in
theorem w_alone : about1.alone = true := by decide +kernel
set_option maxRecDepth 65536 in
theorem w_named : about1.methodNamed? x = some theMethod := by decide +kernel
set_option maxRecDepth 65536 in
theorem w_hears : about1.hears theMethod below0 = true := by decide +kernel
set_option maxRecDepth 65536 in
theorem w_ripe : about1.ripe theMethod args0 below0 = true := by decide +kernel
theorem w_running : about1.status = .running := rfl
set_option maxRecDepth 65536 in
theorem w_room : about1.hasRoom e0.platform room_1 = true :=
  launch0.hasRoom_least _ room_1 (by decide +kernel) (by decide +kernel) (by decide +kernel) (by decide +kernel) (by decide +kernel) (by decide +kernel)
theorem allAtoms_all (ts : List Jvm.Cond) (a : Array Jvm.Value) (st : Jvm.State) : (allAtoms ts).before a st = ts.all (fun c => c.before a st) := by
  induction ts with
  | nil => rfl
  | cons c t ih =>
    show (Jvm.Cond.and c (allAtoms t)).before a st = _
    rw [Jvm.Cond.before_and, ih, List.all_cons]
def words1 : List Jvm.Cond := Jvm.Cond.code x code maxLocals ret :: tables_1
/-- a 'code' word, met by the world's own term for the bytes: nothing is compared byte by byte -/
theorem code_word {y : MethodName} {bytes : ByteArray} {mx : Nat} {rt : Option FieldType} {a : Array Value} {s : State} {m : MethodId} {meth : Method} {c : Code} (h1 : s.methodNamed? y = some m) (h2 : s.vm.method? m = some meth) (h3 : meth.code = some c) (h4 : c.code = bytes)
    (h5 : (c.maxLocals == mx && c.exceptionTable.isEmpty && decide (c.maxStack ≤ mostOperands) && decide (meth.sig.returnType = rt) && !meth.locks && decide (parseMethodDescriptor y.desc = some meth.sig)) = true) : (Jvm.Cond.code y bytes mx rt).before a s = true := by
  simp only [Bool.and_eq_true, beq_iff_eq, Bool.not_eq_true', decide_eq_true_eq] at h5
  obtain ⟨⟨⟨⟨⟨g1, g2⟩, g3⟩, g4⟩, g5⟩, g6⟩ := h5
  simp [Cond.before, Cond.holds, Cond.value, h1, h2, h3, h4, g1, g2, g3, g4, g5, g6]
def isCode : Jvm.Cond → Bool
  | .code _ _ _ _ => true
  | _ => false
theorem all_split {L : List Jvm.Cond} {P : Jvm.Cond → Bool} (h1 : L.all (fun c => isCode c || P c) = true) (h2 : ∀ c ∈ L.filter isCode, P c = true) : L.all P = true := by
  refine List.all_eq_true.mpr fun c hc => ?_
  have h := List.all_eq_true.mp h1 c hc
  rcases Bool.eq_false_or_eq_true (isCode c) with hi | hi
  · exact h2 c (List.mem_filter.mpr ⟨hc, hi⟩)
  · simpa [hi] using h
set_option maxRecDepth 65536 in
theorem w_c0 : (Jvm.Cond.code x code maxLocals ret).before args0 about1 = true := code_word (m := ⟨1, 3⟩) (meth := k1m3) (c := k1c3) (by decide +kernel) rfl rfl rfl (by decide +kernel)
set_option maxRecDepth 65536 in
theorem w_c1 : (Jvm.Cond.code ({ cls := "com/example/tributary/tributary/target/AccessPointOfUsePinLaw", name := "useOf", desc := "(I)J" } : Jvm.MethodName) method_2_code (1 : Nat) (Option.some Jvm.ClassFile.FieldType.long)).before args0 about1 = true := code_word (m := ⟨1, 1⟩) (meth := k1m1) (c := k1c1) (by decide +kernel) rfl rfl rfl (by decide +kernel)
set_option maxRecDepth 65536 in
theorem w_c2 : (Jvm.Cond.code ({ cls := "com/example/tributary/tributary/target/AccessPoint", name := "ofUse", desc := "(J)Ljava/util/Optional;" } : Jvm.MethodName) prog_47_method_4_code (6 : Nat) (Option.some (Jvm.ClassFile.FieldType.object "java/util/Optional"))).before args0 about1 = true := code_word (m := ⟨6, 1⟩) (meth := k6m1) (c := k6c1) (by decide +kernel) rfl rfl rfl (by decide +kernel)
set_option maxRecDepth 65536 in
theorem w_c3 : (Jvm.Cond.code ({ cls := "com/example/tributary/tributary/target/AccessPoint", name := "values", desc := "()[Lcom/example/tributary/tributary/target/AccessPoint;" } : Jvm.MethodName) prog_47_method_1_code (0 : Nat) (Option.some (Jvm.ClassFile.FieldType.array (Jvm.ClassFile.FieldType.object "com/example/tributary/tributary/target/AccessPoint")))).before args0 about1 = true := code_word (m := ⟨6, 0⟩) (meth := k6m0) (c := k6c0) (by decide +kernel) rfl rfl rfl (by decide +kernel)
set_option maxRecDepth 65536 in
theorem w_c4 : (Jvm.Cond.code ({ cls := "java/util/Optional", name := "empty", desc := "()Ljava/util/Optional;" } : Jvm.MethodName) jdk_32_method_1_code (1 : Nat) (Option.some (Jvm.ClassFile.FieldType.object "java/util/Optional"))).before args0 about1 = true := code_word (m := ⟨8, 0⟩) (meth := k8m0) (c := k8c0) (by decide +kernel) rfl rfl rfl (by decide +kernel)
set_option maxRecDepth 65536 in
theorem w_c5 : (Jvm.Cond.code ({ cls := "com/example/tributary/tributary/target/AccessPointOfUsePinLaw", name := "expected", desc := "(J)Lcom/example/tributary/tributary/target/AccessPoint;" } : Jvm.MethodName) method_3_code (2 : Nat) (Option.some (Jvm.ClassFile.FieldType.object "com/example/tributary/tributary/target/AccessPoint"))).before args0 about1 = true := code_word (m := ⟨1, 2⟩) (meth := k1m2) (c := k1c2) (by decide +kernel) rfl rfl rfl (by decide +kernel)
set_option maxRecDepth 65536 in
theorem w_c6 : (Jvm.Cond.code ({ cls := "java/util/Optional", name := "isPresent", desc := "()Z" } : Jvm.MethodName) jdk_32_method_6_code (1 : Nat) (Option.some Jvm.ClassFile.FieldType.boolean)).before args0 about1 = true := code_word (m := ⟨8, 4⟩) (meth := k8m4) (c := k8c4) (by decide +kernel) rfl rfl rfl (by decide +kernel)
set_option maxRecDepth 65536 in
theorem w_c7 : (Jvm.Cond.code ({ cls := "java/util/Optional", name := "of", desc := "(Ljava/lang/Object;)Ljava/util/Optional;" } : Jvm.MethodName) jdk_32_method_3_code (1 : Nat) (Option.some (Jvm.ClassFile.FieldType.object "java/util/Optional"))).before args0 about1 = true := code_word (m := ⟨8, 2⟩) (meth := k8m2) (c := k8c2) (by decide +kernel) rfl rfl rfl (by decide +kernel)
set_option maxRecDepth 65536 in
theorem w_c8 : (Jvm.Cond.code ({ cls := "java/util/Objects", name := "requireNonNull", desc := "(Ljava/lang/Object;)Ljava/lang/Object;" } : Jvm.MethodName) jdk_31_method_10_code (1 : Nat) (Option.some (Jvm.ClassFile.FieldType.object "java/lang/Object"))).before args0 about1 = true := code_word (m := ⟨9, 1⟩) (meth := k9m1) (c := k9c1) (by decide +kernel) rfl rfl rfl (by decide +kernel)
set_option maxRecDepth 65536 in
theorem w_c9 : (Jvm.Cond.code ({ cls := "java/util/Optional", name := "<init>", desc := "(Ljava/lang/Object;)V" } : Jvm.MethodName) jdk_32_method_2_code (2 : Nat) (Option.none : Option Jvm.ClassFile.FieldType)).before args0 about1 = true := code_word (m := ⟨8, 1⟩) (meth := k8m1) (c := k8c1) (by decide +kernel) rfl rfl rfl (by decide +kernel)
set_option maxRecDepth 65536 in
theorem w_c10 : (Jvm.Cond.code ({ cls := "java/lang/Object", name := "<init>", desc := "()V" } : Jvm.MethodName) object_method_1_code (1 : Nat) (Option.none : Option Jvm.ClassFile.FieldType)).before args0 about1 = true := code_word (m := ⟨0, 0⟩) (meth := k0m0) (c := k0c0) (by decide +kernel) rfl rfl rfl (by decide +kernel)
set_option maxRecDepth 65536 in
theorem w_c11 : (Jvm.Cond.code ({ cls := "java/util/Optional", name := "get", desc := "()Ljava/lang/Object;" } : Jvm.MethodName) jdk_32_method_5_code (1 : Nat) (Option.some (Jvm.ClassFile.FieldType.object "java/lang/Object"))).before args0 about1 = true := code_word (m := ⟨8, 3⟩) (meth := k8m3) (c := k8c3) (by decide +kernel) rfl rfl rfl (by decide +kernel)
def codes1 : List Jvm.Cond := [Jvm.Cond.code x code maxLocals ret, Jvm.Cond.code ({ cls := "com/example/tributary/tributary/target/AccessPointOfUsePinLaw", name := "useOf", desc := "(I)J" } : Jvm.MethodName) method_2_code (1 : Nat) (Option.some Jvm.ClassFile.FieldType.long), Jvm.Cond.code ({ cls := "com/example/tributary/tributary/target/AccessPoint", name := "ofUse", desc := "(J)Ljava/util/Optional;" } : Jvm.MethodName) prog_47_method_4_code (6 : Nat) (Option.some (Jvm.ClassFile.FieldType.object "java/util/Optional")), Jvm.Cond.code ({ cls := "com/example/tributary/tributary/target/AccessPoint", name := "values", desc := "()[Lcom/example/tributary/tributary/target/AccessPoint;" } : Jvm.MethodName) prog_47_method_1_code (0 : Nat) (Option.some (Jvm.ClassFile.FieldType.array (Jvm.ClassFile.FieldType.object "com/example/tributary/tributary/target/AccessPoint"))), Jvm.Cond.code ({ cls := "java/util/Optional", name := "empty", desc := "()Ljava/util/Optional;" } : Jvm.MethodName) jdk_32_method_1_code (1 : Nat) (Option.some (Jvm.ClassFile.FieldType.object "java/util/Optional")), Jvm.Cond.code ({ cls := "com/example/tributary/tributary/target/AccessPointOfUsePinLaw", name := "expected", desc := "(J)Lcom/example/tributary/tributary/target/AccessPoint;" } : Jvm.MethodName) method_3_code (2 : Nat) (Option.some (Jvm.ClassFile.FieldType.object "com/example/tributary/tributary/target/AccessPoint")), Jvm.Cond.code ({ cls := "java/util/Optional", name := "isPresent", desc := "()Z" } : Jvm.MethodName) jdk_32_method_6_code (1 : Nat) (Option.some Jvm.ClassFile.FieldType.boolean), Jvm.Cond.code ({ cls := "java/util/Optional", name := "of", desc := "(Ljava/lang/Object;)Ljava/util/Optional;" } : Jvm.MethodName) jdk_32_method_3_code (1 : Nat) (Option.some (Jvm.ClassFile.FieldType.object "java/util/Optional")), Jvm.Cond.code ({ cls := "java/util/Objects", name := "requireNonNull", desc := "(Ljava/lang/Object;)Ljava/lang/Object;" } : Jvm.MethodName) jdk_31_method_10_code (1 : Nat) (Option.some (Jvm.ClassFile.FieldType.object "java/lang/Object")), Jvm.Cond.code ({ cls := "java/util/Optional", name := "<init>", desc := "(Ljava/lang/Object;)V" } : Jvm.MethodName) jdk_32_method_2_code (2 : Nat) (Option.none : Option Jvm.ClassFile.FieldType), Jvm.Cond.code ({ cls := "java/lang/Object", name := "<init>", desc := "()V" } : Jvm.MethodName) object_method_1_code (1 : Nat) (Option.none : Option Jvm.ClassFile.FieldType), Jvm.Cond.code ({ cls := "java/util/Optional", name := "get", desc := "()Ljava/lang/Object;" } : Jvm.MethodName) jdk_32_method_5_code (1 : Nat) (Option.some (Jvm.ClassFile.FieldType.object "java/lang/Object"))]
set_option maxRecDepth 65536 in
theorem codes_eq : words1.filter isCode = codes1 := rfl
theorem w_codes : ∀ c ∈ words1.filter isCode, c.before args0 about1 = true := by
  rw [codes_eq]
  intro c hc
  simp only [codes1, List.mem_cons, List.not_mem_nil, or_false] at hc
  rcases hc with rfl | rfl | rfl | rfl | rfl | rfl | rfl | rfl | rfl | rfl | rfl | rfl
  · exact w_c0
  · exact w_c1
  · exact w_c2
  · exact w_c3
  · exact w_c4
  · exact w_c5
  · exact w_c6
  · exact w_c7
  · exact w_c8
  · exact w_c9
  · exact w_c10
  · exact w_c11
set_option maxRecDepth 65536 in
theorem w_t1 : (words1.take 24).all (fun c => isCode c || c.before args0 about1) = true := by decide +kernel
set_option maxRecDepth 65536 in
theorem w_t2 : ((words1.drop 24).take 24).all (fun c => isCode c || c.before args0 about1) = true := by decide +kernel
set_option maxRecDepth 65536 in
theorem w_t3 : (((words1.drop 24).drop 24).take 24).all (fun c => isCode c || c.before args0 about1) = true := by decide +kernel
set_option maxRecDepth 65536 in
theorem w_t4 : (((words1.drop 24).drop 24).drop 24).all (fun c => isCode c || c.before args0 about1) = true := by decide +kernel
theorem w_tables : (allAtoms (Jvm.Cond.code x code maxLocals ret :: tables_1)).before args0 about1 = true := by
  rw [allAtoms_all]
  show words1.all (fun c => c.before args0 about1) = true
  refine all_split ?_ w_codes
  rw [← List.take_append_drop 24 words1, List.all_append, w_t1, ← List.take_append_drop 24 (words1.drop 24), List.all_append, w_t2, ← List.take_append_drop 24 ((words1.drop 24).drop 24), List.all_append, w_t3, w_t4]
  rfl
set_option maxRecDepth 65536 in
theorem w_rest : rest_1_c.before args0 about1 = true := by decide +kernel
set_option maxRecDepth 65536 in
theorem w_case : (Jvm.Cond.and given_1 narrow_1).before args0 about1 = true := by decide +kernel
theorem w_applies : (headSpec (Jvm.Cond.code x code maxLocals ret :: tables_1) room_1).applies x e0.platform about1 = true :=
  (Spec.applies_iff w_frames).mpr ⟨w_running, w_runnable, w_alone, w_named, w_hears, w_ripe, w_room, w_tables⟩
theorem atStart : AtStart classFile x code maxLocals ret World_1 tables_1 room_1 Calls_1 rest_1 Pre_1 launch0 p0 e0 about1 theMethod args0 below0 :=
  ⟨lists_1, trivial, launch0.admits_env _ _ _, launch0.least_env, fairChoices_fair.cas, fairChoices_fair.clock, w_frames, w_args, w_heap, w_applies, trivial, w_rest, w_case⟩
end start1
theorem witness_1 : WitnessClaimed_1 := ⟨start1.p0, start1.e0, start1.about1, start1.theMethod, start1.args0, start1.below0, start1.atStart⟩
end Jvm.Pilot.@@N@@
