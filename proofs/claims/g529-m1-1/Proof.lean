import JvmDerived
import JvmDerived.Pilot.@@N@@Statement
import JvmDerived.Pilot.@@N@@Code
set_option linter.unusedVariables false
set_option linter.unusedSimpArgs false
namespace Jvm.Own
open Sem ClassFile Op Lib Jvm.Stand Jvm.Free Jvm.LawKit Jvm.RoadKit
/-- the run goes on from the frame g over T and comes to an end of which P holds -/
def Go (p : Program) (e : Env) (below : List Frame) (P : Outcome → State → Prop) (T : State) (g : JFrame) : Prop :=
  ∃ U o, Steps p.tables e below (T.setTop g) U ∧ U.status = .running ∧ Ended U below o ∧ P o U
/-- what a body's end says: it returned v; it wrote in new cells alone, kept the heap h0 but for ws and the start's heap whole; Q of what it returned and of the heap -/
def PostOf (Z s : State) (h0 : Heap) (ws : List Addr) (kc ks : Nat) (Q : Option Value → Heap → Prop) (o : Outcome) (U : State) : Prop :=
  ∃ v L, o = .returned v ∧ (Fr Z.heap.size L ∧ Keep h0 U.heap ws ∧ Ext Z.heap U.heap ∧ Q v U.heap) ∧ FrameEnd s o U L kc ks
/-- a body's contract for the arguments as at the heap h0 -/
def OMeets (l : Launch) (Z : State) (y : MethodName) (bytes : ByteArray) (nl : Nat) (ret : Option FieldType) (R : Room) (as : Array Value) (h0 : Heap) (ws : List Addr) (Q : Option Value → Heap → Prop) : Prop :=
  ∀ wd : List Jvm.Cond, MetFree l y (head1 (Jvm.Cond.code y bytes nl ret :: wd) R) (fun a U => a = as ∧ Z.Warmed39 U.vm ∧ U.heap = h0) (fun _ _ _ _ _ => True)
    (fun _ U o U' => PostOf Z U h0 ws R.cells R.slots Q o U')
/-- where the run of one body stands: what is fixed, the library's Stand, the heap, what was written, what is kept -/
def St (p : Program) (l : Launch) (e : Env) (R : Room) (s : State) (m : MethodId) (args : Array Value) (below : List Frame) (meth : Method) (c : Code) (Z : State) (own : String) (bytes : ByteArray) (nl : Nat) (ret : Option FieldType) (nm : String)
    (h0 : Heap) (ws : List Addr) (T : State) (h : Heap) (locs : List Loc) (cells slots : Nat) : Prop :=
  (p.tables.exec = Jvm.exec ∧ c.code = bytes ∧ c.maxLocals = nl ∧ Z.Warmed39 s.vm ∧ s.vm.findClass own = some m.cls ∧ meth.sig.returnType = ret ∧ meth.locks = false ∧ meth.name = nm) ∧
  Stand p l e R s m args below meth c T locs cells slots ∧ T.heap = h ∧ Fr Z.heap.size locs ∧ Keep h0 h ws ∧ Ext Z.heap h
section Steps
variable {p : Program} {l : Launch} {e : Env} {R : Room} {s : State} {m : MethodId} {args : Array Value} {below : List Frame} {meth : Method} {c : Code} {Z : State} {own : String} {bytes : ByteArray} {nl : Nat} {ret : Option FieldType} {nm : String}
  {h0 : Heap} {ws : List Addr} {T : State} {h : Heap} {locs : List Loc} {cells slots : Nat} {P : Outcome → State → Prop} {pc pc' : Nat} {Ls Ls' : Array Slot} {st : List Value} {a0 : Array Value}
theorem off0 {a b : Nat} {o : Int} (h : (a : Int) + o = (b : Int)) : 0 ≤ (a : Int) + o := by omega
theorem off1 {a b : Nat} {o : Int} (h : (a : Int) + o = (b : Int)) : ((a : Int) + o).toNat = b := by omega
theorem Go.of {T' : State} {g g' : JFrame} (k : Go p e below P T' g') (f : ∀ t, Steps p.tables e below (T'.setTop g') t → Steps p.tables e below (T.setTop g) t) : Go p e below P T g := by
  obtain ⟨U, o, h1, h2⟩ := k
  exact ⟨U, o, f _ h1, h2⟩
theorem Go.imp {g : JFrame} {P' : Outcome → State → Prop} (k : Go p e below P T g) (f : ∀ o U, P o U → P' o U) : Go p e below P' T g := by
  obtain ⟨U, o, h1, h2, h3, h4⟩ := k
  exact ⟨U, o, h1, h2, h3, f _ _ h4⟩
theorem St.ex (S : St p l e R s m args below meth c Z own bytes nl ret nm h0 ws T h locs cells slots) : p.tables.exec = Jvm.exec := S.1.1
theorem St.hd (S : St p l e R s m args below meth c Z own bytes nl ret nm h0 ws T h locs cells slots) {r : Except DecodeError (Instr × Nat)} (h2 : decode bytes pc = r) : decode c.code pc = r := S.1.2.1 ▸ h2
theorem St.hnl (S : St p l e R s m args below meth c Z own bytes nl ret nm h0 ws T h locs cells slots) : c.maxLocals = nl := S.1.2.2.1
theorem St.hZ (S : St p l e R s m args below meth c Z own bytes nl ret nm h0 ws T h locs cells slots) : Z.Warmed39 s.vm := S.1.2.2.2.1
theorem St.hown (S : St p l e R s m args below meth c Z own bytes nl ret nm h0 ws T h locs cells slots) : s.vm.findClass own = some m.cls := S.1.2.2.2.2.1
theorem St.hret (S : St p l e R s m args below meth c Z own bytes nl ret nm h0 ws T h locs cells slots) : meth.sig.returnType = ret := S.1.2.2.2.2.2.1
theorem St.locks (S : St p l e R s m args below meth c Z own bytes nl ret nm h0 ws T h locs cells slots) : meth.locks = false := S.1.2.2.2.2.2.2.1
theorem St.hnm (S : St p l e R s m args below meth c Z own bytes nl ret nm h0 ws T h locs cells slots) : meth.name = nm := S.1.2.2.2.2.2.2.2
theorem St.X (S : St p l e R s m args below meth c Z own bytes nl ret nm h0 ws T h locs cells slots) : Stand p l e R s m args below meth c T locs cells slots := S.2.1
theorem St.eT (S : St p l e R s m args below meth c Z own bytes nl ret nm h0 ws T h locs cells slots) : T.heap = h := S.2.2.1
theorem St.fr (S : St p l e R s m args below meth c Z own bytes nl ret nm h0 ws T h locs cells slots) : Fr Z.heap.size locs := S.2.2.2.1
theorem St.keep (S : St p l e R s m args below meth c Z own bytes nl ret nm h0 ws T h locs cells slots) : Keep h0 h ws := S.2.2.2.2.1
theorem St.ext (S : St p l e R s m args below meth c Z own bytes nl ret nm h0 ws T h locs cells slots) : Ext Z.heap h := S.2.2.2.2.2
theorem St.more (S : St p l e R s m args below meth c Z own bytes nl ret nm h0 ws T h locs cells slots) {cells' slots' : Nat} (hc : cells ≤ cells') (hs : slots ≤ slots') : St p l e R s m args below meth c Z own bytes nl ret nm h0 ws T h locs cells' slots' := ⟨S.1, S.X.more hc hs, S.2.2⟩
theorem St.next (S : St p l e R s m args below meth c Z own bytes nl ret nm h0 ws T h locs cells slots) {T' : State} {h' : Heap} {locs' : List Loc} {cells' slots' : Nat} (X : Stand p l e R s m args below meth c T' locs' cells' slots') (e1 : T'.heap = h') (N : Fr Z.heap.size locs') (K : Keep h0 h' ws) (E : Ext Z.heap h') : St p l e R s m args below meth c Z own bytes nl ret nm h0 ws T' h' locs' cells' slots' := ⟨S.1, X, e1, N, K, E⟩
theorem Go.iloadN (S : St p l e R s m args below meth c Z own bytes nl ret nm h0 ws T h locs cells slots) {k : Fin 4} {v : Int32} (hd : decode bytes pc = .ok (.iload_n k, 1)) (hl : Ls[k.val]? = some (.val (.int v))) (hp : pc + 1 = pc') (k : Go p e below P T (mkF m pc' Ls (.int v :: st))) : Go p e below P T (mkF m pc Ls st) := by
  subst hp
  exact k.of fun t q => XS.iloadN S.X.here S.ex rfl (S.hd hd) hl q
theorem Go.iload (S : St p l e R s m args below meth c Z own bytes nl ret nm h0 ws T h locs cells slots) {k : Nat} {v : Int32} (hd : decode bytes pc = .ok (.iload k, 2)) (hl : Ls[k]? = some (.val (.int v))) (hp : pc + 2 = pc') (k : Go p e below P T (mkF m pc' Ls (.int v :: st))) : Go p e below P T (mkF m pc Ls st) := by
  subst hp
  exact k.of fun t q => XS.iload S.X.here S.ex rfl (S.hd hd) hl q
theorem Go.istoreN (S : St p l e R s m args below meth c Z own bytes nl ret nm h0 ws T h locs cells slots) {k : Fin 4} {v : Int32} (hd : decode bytes pc = .ok (.istore_n k, 1)) (hl : storeLocals Ls k.val (.int v) = some Ls') (hp : pc + 1 = pc') (k : Go p e below P T (mkF m pc' Ls' st)) : Go p e below P T (mkF m pc Ls (.int v :: st)) := by
  subst hp
  exact k.of fun t q => XS.istoreN S.X.here S.ex rfl (S.hd hd) rfl hl q
theorem Go.istore (S : St p l e R s m args below meth c Z own bytes nl ret nm h0 ws T h locs cells slots) {k : Nat} {v : Int32} (hd : decode bytes pc = .ok (.istore k, 2)) (hl : storeLocals Ls k (.int v) = some Ls') (hp : pc + 2 = pc') (k : Go p e below P T (mkF m pc' Ls' st)) : Go p e below P T (mkF m pc Ls (.int v :: st)) := by
  subst hp
  exact k.of fun t q => XS.istore S.X.here S.ex rfl (S.hd hd) rfl hl q
theorem Go.lloadN (S : St p l e R s m args below meth c Z own bytes nl ret nm h0 ws T h locs cells slots) {k : Fin 4} {v : Int64} (hd : decode bytes pc = .ok (.lload_n k, 1)) (hl : Ls[k.val]? = some (.val (.long v))) (hp : pc + 1 = pc') (k : Go p e below P T (mkF m pc' Ls (.long v :: st))) : Go p e below P T (mkF m pc Ls st) := by
  subst hp
  exact k.of fun t q => XS.lloadN S.X.here S.ex rfl (S.hd hd) hl q
theorem Go.lload (S : St p l e R s m args below meth c Z own bytes nl ret nm h0 ws T h locs cells slots) {k : Nat} {v : Int64} (hd : decode bytes pc = .ok (.lload k, 2)) (hl : Ls[k]? = some (.val (.long v))) (hp : pc + 2 = pc') (k : Go p e below P T (mkF m pc' Ls (.long v :: st))) : Go p e below P T (mkF m pc Ls st) := by
  subst hp
  exact k.of fun t q => XS.lload S.X.here S.ex rfl (S.hd hd) hl q
theorem Go.lstoreN (S : St p l e R s m args below meth c Z own bytes nl ret nm h0 ws T h locs cells slots) {k : Fin 4} {v : Int64} (hd : decode bytes pc = .ok (.lstore_n k, 1)) (hl : storeLocals Ls k.val (.long v) = some Ls') (hp : pc + 1 = pc') (k : Go p e below P T (mkF m pc' Ls' st)) : Go p e below P T (mkF m pc Ls (.long v :: st)) := by
  subst hp
  exact k.of fun t q => XS.lstoreN S.X.here S.ex rfl (S.hd hd) rfl hl q
theorem Go.lstore (S : St p l e R s m args below meth c Z own bytes nl ret nm h0 ws T h locs cells slots) {k : Nat} {v : Int64} (hd : decode bytes pc = .ok (.lstore k, 2)) (hl : storeLocals Ls k (.long v) = some Ls') (hp : pc + 2 = pc') (k : Go p e below P T (mkF m pc' Ls' st)) : Go p e below P T (mkF m pc Ls (.long v :: st)) := by
  subst hp
  exact k.of fun t q => XS.lstore S.X.here S.ex rfl (S.hd hd) rfl hl q
theorem Go.aloadN (S : St p l e R s m args below meth c Z own bytes nl ret nm h0 ws T h locs cells slots) {k : Fin 4} {v : Value} (hd : decode bytes pc = .ok (.aload_n k, 1)) (hl : Ls[k.val]? = some (.val v)) (hr : v.isRef = true) (hp : pc + 1 = pc') (k : Go p e below P T (mkF m pc' Ls (v :: st))) : Go p e below P T (mkF m pc Ls st) := by
  subst hp
  exact k.of fun t q => XS.aloadN S.X.here S.ex rfl (S.hd hd) hl hr q
theorem Go.aload (S : St p l e R s m args below meth c Z own bytes nl ret nm h0 ws T h locs cells slots) {k : Nat} {v : Value} (hd : decode bytes pc = .ok (.aload k, 2)) (hl : Ls[k]? = some (.val v)) (hr : v.isRef = true) (hp : pc + 2 = pc') (k : Go p e below P T (mkF m pc' Ls (v :: st))) : Go p e below P T (mkF m pc Ls st) := by
  subst hp
  exact k.of fun t q => XS.aload S.X.here S.ex rfl (S.hd hd) hl hr q
theorem Go.astoreN (S : St p l e R s m args below meth c Z own bytes nl ret nm h0 ws T h locs cells slots) {k : Fin 4} {v : Value} (hd : decode bytes pc = .ok (.astore_n k, 1)) (hr : v.isRef = true) (hl : storeLocals Ls k.val v = some Ls') (hp : pc + 1 = pc') (k : Go p e below P T (mkF m pc' Ls' st)) : Go p e below P T (mkF m pc Ls (v :: st)) := by
  subst hp
  exact k.of fun t q => XS.astoreN S.X.here S.ex rfl (S.hd hd) rfl hr hl q
theorem Go.astore (S : St p l e R s m args below meth c Z own bytes nl ret nm h0 ws T h locs cells slots) {k : Nat} {v : Value} (hd : decode bytes pc = .ok (.astore k, 2)) (hr : v.isRef = true) (hl : storeLocals Ls k v = some Ls') (hp : pc + 2 = pc') (k : Go p e below P T (mkF m pc' Ls' st)) : Go p e below P T (mkF m pc Ls (v :: st)) := by
  subst hp
  exact k.of fun t q => XS.astore S.X.here S.ex rfl (S.hd hd) rfl hr hl q
theorem Go.iconst (S : St p l e R s m args below meth c Z own bytes nl ret nm h0 ws T h locs cells slots) {i : Int} {v : Int32} (hd : decode bytes pc = .ok (.iconst i, 1)) (hv : Int32.ofInt i = v) (hp : pc + 1 = pc') (k : Go p e below P T (mkF m pc' Ls (.int v :: st))) : Go p e below P T (mkF m pc Ls st) := by
  subst hp hv
  exact k.of fun t q => XS.iconst S.X.here S.ex rfl (S.hd hd) q
theorem Go.bipush (S : St p l e R s m args below meth c Z own bytes nl ret nm h0 ws T h locs cells slots) {i : Int} {v : Int32} (hd : decode bytes pc = .ok (.bipush i, 2)) (hv : (Int8.ofInt i).toInt32 = v) (hp : pc + 2 = pc') (k : Go p e below P T (mkF m pc' Ls (.int v :: st))) : Go p e below P T (mkF m pc Ls st) := by
  subst hp hv
  exact k.of fun t q => XS.bipush S.X.here S.ex rfl (S.hd hd) q
theorem Go.sipush (S : St p l e R s m args below meth c Z own bytes nl ret nm h0 ws T h locs cells slots) {i : Int} {v : Int32} (hd : decode bytes pc = .ok (.sipush i, 3)) (hv : (Int16.ofInt i).toInt32 = v) (hp : pc + 3 = pc') (k : Go p e below P T (mkF m pc' Ls (.int v :: st))) : Go p e below P T (mkF m pc Ls st) := by
  subst hp hv
  exact k.of fun t q => XS.sipush S.X.here S.ex rfl (S.hd hd) q
theorem Go.lconst (S : St p l e R s m args below meth c Z own bytes nl ret nm h0 ws T h locs cells slots) {i : Fin 2} {v : Int64} (hd : decode bytes pc = .ok (.lconst i, 1)) (hv : Int64.ofNat i = v) (hp : pc + 1 = pc') (k : Go p e below P T (mkF m pc' Ls (.long v :: st))) : Go p e below P T (mkF m pc Ls st) := by
  subst hp hv
  exact k.of fun t q => XS.lconst S.X.here S.ex rfl (S.hd hd) q
theorem Go.aconst_null (S : St p l e R s m args below meth c Z own bytes nl ret nm h0 ws T h locs cells slots)  (hd : decode bytes pc = .ok (.aconst_null, 1)) (hp : pc + 1 = pc') (k : Go p e below P T (mkF m pc' Ls (.null :: st))) : Go p e below P T (mkF m pc Ls st) := by
  subst hp
  exact k.of fun t q => XS.aconstNull S.X.here S.ex rfl (S.hd hd) q
theorem Go.iadd (S : St p l e R s m args below meth c Z own bytes nl ret nm h0 ws T h locs cells slots) {x y : Int32} (hd : decode bytes pc = .ok (.iadd, 1)) (hp : pc + 1 = pc') (k : Go p e below P T (mkF m pc' Ls (.int (x + y) :: st))) : Go p e below P T (mkF m pc Ls (.int y :: .int x :: st)) := by
  subst hp
  exact k.of fun t q => XS.iadd S.X.here S.ex rfl (S.hd hd) rfl q
theorem Go.ladd (S : St p l e R s m args below meth c Z own bytes nl ret nm h0 ws T h locs cells slots) {x y : Int64} (hd : decode bytes pc = .ok (.ladd, 1)) (hp : pc + 1 = pc') (k : Go p e below P T (mkF m pc' Ls (.long (x + y) :: st))) : Go p e below P T (mkF m pc Ls (.long y :: .long x :: st)) := by
  subst hp
  exact k.of fun t q => XS.ladd S.X.here S.ex rfl (S.hd hd) rfl q
theorem Go.isub (S : St p l e R s m args below meth c Z own bytes nl ret nm h0 ws T h locs cells slots) {x y : Int32} (hd : decode bytes pc = .ok (.isub, 1)) (hp : pc + 1 = pc') (k : Go p e below P T (mkF m pc' Ls (.int (x - y) :: st))) : Go p e below P T (mkF m pc Ls (.int y :: .int x :: st)) := by
  subst hp
  exact k.of fun t q => XS.isub S.X.here S.ex rfl (S.hd hd) rfl q
theorem Go.lsub (S : St p l e R s m args below meth c Z own bytes nl ret nm h0 ws T h locs cells slots) {x y : Int64} (hd : decode bytes pc = .ok (.lsub, 1)) (hp : pc + 1 = pc') (k : Go p e below P T (mkF m pc' Ls (.long (x - y) :: st))) : Go p e below P T (mkF m pc Ls (.long y :: .long x :: st)) := by
  subst hp
  exact k.of fun t q => XS.lsub S.X.here S.ex rfl (S.hd hd) rfl q
theorem Go.imul (S : St p l e R s m args below meth c Z own bytes nl ret nm h0 ws T h locs cells slots) {x y : Int32} (hd : decode bytes pc = .ok (.imul, 1)) (hp : pc + 1 = pc') (k : Go p e below P T (mkF m pc' Ls (.int (x * y) :: st))) : Go p e below P T (mkF m pc Ls (.int y :: .int x :: st)) := by
  subst hp
  exact k.of fun t q => XS.imul S.X.here S.ex rfl (S.hd hd) rfl q
theorem Go.lmul (S : St p l e R s m args below meth c Z own bytes nl ret nm h0 ws T h locs cells slots) {x y : Int64} (hd : decode bytes pc = .ok (.lmul, 1)) (hp : pc + 1 = pc') (k : Go p e below P T (mkF m pc' Ls (.long (x * y) :: st))) : Go p e below P T (mkF m pc Ls (.long y :: .long x :: st)) := by
  subst hp
  exact k.of fun t q => XS.lmul S.X.here S.ex rfl (S.hd hd) rfl q
theorem Go.iand (S : St p l e R s m args below meth c Z own bytes nl ret nm h0 ws T h locs cells slots) {x y : Int32} (hd : decode bytes pc = .ok (.iand, 1)) (hp : pc + 1 = pc') (k : Go p e below P T (mkF m pc' Ls (.int (x &&& y) :: st))) : Go p e below P T (mkF m pc Ls (.int y :: .int x :: st)) := by
  subst hp
  exact k.of fun t q => XS.iand S.X.here S.ex rfl (S.hd hd) rfl q
theorem Go.land (S : St p l e R s m args below meth c Z own bytes nl ret nm h0 ws T h locs cells slots) {x y : Int64} (hd : decode bytes pc = .ok (.land, 1)) (hp : pc + 1 = pc') (k : Go p e below P T (mkF m pc' Ls (.long (x &&& y) :: st))) : Go p e below P T (mkF m pc Ls (.long y :: .long x :: st)) := by
  subst hp
  exact k.of fun t q => XS.land S.X.here S.ex rfl (S.hd hd) rfl q
theorem Go.ior (S : St p l e R s m args below meth c Z own bytes nl ret nm h0 ws T h locs cells slots) {x y : Int32} (hd : decode bytes pc = .ok (.ior, 1)) (hp : pc + 1 = pc') (k : Go p e below P T (mkF m pc' Ls (.int (x ||| y) :: st))) : Go p e below P T (mkF m pc Ls (.int y :: .int x :: st)) := by
  subst hp
  exact k.of fun t q => XS.ior S.X.here S.ex rfl (S.hd hd) rfl q
theorem Go.lor (S : St p l e R s m args below meth c Z own bytes nl ret nm h0 ws T h locs cells slots) {x y : Int64} (hd : decode bytes pc = .ok (.lor, 1)) (hp : pc + 1 = pc') (k : Go p e below P T (mkF m pc' Ls (.long (x ||| y) :: st))) : Go p e below P T (mkF m pc Ls (.long y :: .long x :: st)) := by
  subst hp
  exact k.of fun t q => XS.lor S.X.here S.ex rfl (S.hd hd) rfl q
theorem Go.ixor (S : St p l e R s m args below meth c Z own bytes nl ret nm h0 ws T h locs cells slots) {x y : Int32} (hd : decode bytes pc = .ok (.ixor, 1)) (hp : pc + 1 = pc') (k : Go p e below P T (mkF m pc' Ls (.int (x ^^^ y) :: st))) : Go p e below P T (mkF m pc Ls (.int y :: .int x :: st)) := by
  subst hp
  exact k.of fun t q => XS.ixor S.X.here S.ex rfl (S.hd hd) rfl q
theorem Go.lxor (S : St p l e R s m args below meth c Z own bytes nl ret nm h0 ws T h locs cells slots) {x y : Int64} (hd : decode bytes pc = .ok (.lxor, 1)) (hp : pc + 1 = pc') (k : Go p e below P T (mkF m pc' Ls (.long (x ^^^ y) :: st))) : Go p e below P T (mkF m pc Ls (.long y :: .long x :: st)) := by
  subst hp
  exact k.of fun t q => XS.lxor S.X.here S.ex rfl (S.hd hd) rfl q
theorem Go.ishl (S : St p l e R s m args below meth c Z own bytes nl ret nm h0 ws T h locs cells slots) {x : Int32} {y : Int32} (hd : decode bytes pc = .ok (.ishl, 1)) (hp : pc + 1 = pc') (k : Go p e below P T (mkF m pc' Ls (.int (x <<< (y &&& 31)) :: st))) : Go p e below P T (mkF m pc Ls (.int y :: .int x :: st)) := by
  subst hp
  exact k.of fun t q => XS.ishl S.X.here S.ex rfl (S.hd hd) rfl q
theorem Go.ishr (S : St p l e R s m args below meth c Z own bytes nl ret nm h0 ws T h locs cells slots) {x : Int32} {y : Int32} (hd : decode bytes pc = .ok (.ishr, 1)) (hp : pc + 1 = pc') (k : Go p e below P T (mkF m pc' Ls (.int (x >>> (y &&& 31)) :: st))) : Go p e below P T (mkF m pc Ls (.int y :: .int x :: st)) := by
  subst hp
  exact k.of fun t q => XS.ishr S.X.here S.ex rfl (S.hd hd) rfl q
theorem Go.iushr (S : St p l e R s m args below meth c Z own bytes nl ret nm h0 ws T h locs cells slots) {x : Int32} {y : Int32} (hd : decode bytes pc = .ok (.iushr, 1)) (hp : pc + 1 = pc') (k : Go p e below P T (mkF m pc' Ls (.int ((x.toUInt32 >>> (y &&& 31).toUInt32).toInt32) :: st))) : Go p e below P T (mkF m pc Ls (.int y :: .int x :: st)) := by
  subst hp
  exact k.of fun t q => XS.iushr S.X.here S.ex rfl (S.hd hd) rfl q
theorem Go.lshl (S : St p l e R s m args below meth c Z own bytes nl ret nm h0 ws T h locs cells slots) {x : Int64} {y : Int32} (hd : decode bytes pc = .ok (.lshl, 1)) (hp : pc + 1 = pc') (k : Go p e below P T (mkF m pc' Ls (.long (x <<< (y &&& 0x3f).toInt64) :: st))) : Go p e below P T (mkF m pc Ls (.int y :: .long x :: st)) := by
  subst hp
  exact k.of fun t q => XS.lshl S.X.here S.ex rfl (S.hd hd) rfl q
theorem Go.lshr (S : St p l e R s m args below meth c Z own bytes nl ret nm h0 ws T h locs cells slots) {x : Int64} {y : Int32} (hd : decode bytes pc = .ok (.lshr, 1)) (hp : pc + 1 = pc') (k : Go p e below P T (mkF m pc' Ls (.long (x >>> (y &&& 0x3f).toInt64) :: st))) : Go p e below P T (mkF m pc Ls (.int y :: .long x :: st)) := by
  subst hp
  exact k.of fun t q => XS.lshr S.X.here S.ex rfl (S.hd hd) rfl q
theorem Go.lushr (S : St p l e R s m args below meth c Z own bytes nl ret nm h0 ws T h locs cells slots) {x : Int64} {y : Int32} (hd : decode bytes pc = .ok (.lushr, 1)) (hp : pc + 1 = pc') (k : Go p e below P T (mkF m pc' Ls (.long ((x.toUInt64 >>> (y &&& 0x3f).toInt64.toUInt64).toInt64) :: st))) : Go p e below P T (mkF m pc Ls (.int y :: .long x :: st)) := by
  subst hp
  exact k.of fun t q => XS.lushr S.X.here S.ex rfl (S.hd hd) rfl q
theorem Go.i2l (S : St p l e R s m args below meth c Z own bytes nl ret nm h0 ws T h locs cells slots) {x : Int32} (hd : decode bytes pc = .ok (.i2l, 1)) (hp : pc + 1 = pc') (k : Go p e below P T (mkF m pc' Ls (.long (x.toInt64) :: st))) : Go p e below P T (mkF m pc Ls (.int x :: st)) := by
  subst hp
  exact k.of fun t q => XS.i2l S.X.here S.ex rfl (S.hd hd) rfl q
theorem Go.l2i (S : St p l e R s m args below meth c Z own bytes nl ret nm h0 ws T h locs cells slots) {x : Int64} (hd : decode bytes pc = .ok (.l2i, 1)) (hp : pc + 1 = pc') (k : Go p e below P T (mkF m pc' Ls (.int (x.toInt32) :: st))) : Go p e below P T (mkF m pc Ls (.long x :: st)) := by
  subst hp
  exact k.of fun t q => XS.l2i S.X.here S.ex rfl (S.hd hd) rfl q
theorem Go.i2b (S : St p l e R s m args below meth c Z own bytes nl ret nm h0 ws T h locs cells slots) {x : Int32} (hd : decode bytes pc = .ok (.i2b, 1)) (hp : pc + 1 = pc') (k : Go p e below P T (mkF m pc' Ls (.int (x.toInt8.toInt32) :: st))) : Go p e below P T (mkF m pc Ls (.int x :: st)) := by
  subst hp
  exact k.of fun t q => XS.i2b S.X.here S.ex rfl (S.hd hd) rfl q
theorem Go.i2s (S : St p l e R s m args below meth c Z own bytes nl ret nm h0 ws T h locs cells slots) {x : Int32} (hd : decode bytes pc = .ok (.i2s, 1)) (hp : pc + 1 = pc') (k : Go p e below P T (mkF m pc' Ls (.int (x.toInt16.toInt32) :: st))) : Go p e below P T (mkF m pc Ls (.int x :: st)) := by
  subst hp
  exact k.of fun t q => XS.i2s S.X.here S.ex rfl (S.hd hd) rfl q
theorem Go.i2c (S : St p l e R s m args below meth c Z own bytes nl ret nm h0 ws T h locs cells slots) {x : Int32} (hd : decode bytes pc = .ok (.i2c, 1)) (hp : pc + 1 = pc') (k : Go p e below P T (mkF m pc' Ls (.int (x.toUInt32.toUInt16.toUInt32.toInt32) :: st))) : Go p e below P T (mkF m pc Ls (.int x :: st)) := by
  subst hp
  exact k.of fun t q => XS.i2c S.X.here S.ex rfl (S.hd hd) rfl q
theorem Go.ineg (S : St p l e R s m args below meth c Z own bytes nl ret nm h0 ws T h locs cells slots) {x : Int32} (hd : decode bytes pc = .ok (.ineg, 1)) (hp : pc + 1 = pc') (k : Go p e below P T (mkF m pc' Ls (.int (-x) :: st))) : Go p e below P T (mkF m pc Ls (.int x :: st)) := by
  subst hp
  exact k.of fun t q => XS.ineg S.X.here S.ex rfl (S.hd hd) rfl q
theorem Go.lneg (S : St p l e R s m args below meth c Z own bytes nl ret nm h0 ws T h locs cells slots) {x : Int64} (hd : decode bytes pc = .ok (.lneg, 1)) (hp : pc + 1 = pc') (k : Go p e below P T (mkF m pc' Ls (.long (-x) :: st))) : Go p e below P T (mkF m pc Ls (.long x :: st)) := by
  subst hp
  exact k.of fun t q => XS.lneg S.X.here S.ex rfl (S.hd hd) rfl q
theorem Go.idiv (S : St p l e R s m args below meth c Z own bytes nl ret nm h0 ws T h locs cells slots) {x y : Int32} (hd : decode bytes pc = .ok (.idiv, 1)) (hy : y ≠ 0) (hp : pc + 1 = pc') (k : Go p e below P T (mkF m pc' Ls (.int (x / y) :: st))) : Go p e below P T (mkF m pc Ls (.int y :: .int x :: st)) := by
  subst hp
  exact k.of fun t q => XS.idiv S.X.here S.ex rfl (S.hd hd) rfl hy q
theorem Go.ldiv (S : St p l e R s m args below meth c Z own bytes nl ret nm h0 ws T h locs cells slots) {x y : Int64} (hd : decode bytes pc = .ok (.ldiv, 1)) (hy : y ≠ 0) (hp : pc + 1 = pc') (k : Go p e below P T (mkF m pc' Ls (.long (x / y) :: st))) : Go p e below P T (mkF m pc Ls (.long y :: .long x :: st)) := by
  subst hp
  exact k.of fun t q => XS.ldiv S.X.here S.ex rfl (S.hd hd) rfl hy q
theorem Go.irem (S : St p l e R s m args below meth c Z own bytes nl ret nm h0 ws T h locs cells slots) {x y : Int32} (hd : decode bytes pc = .ok (.irem, 1)) (hy : y ≠ 0) (hp : pc + 1 = pc') (k : Go p e below P T (mkF m pc' Ls (.int (x % y) :: st))) : Go p e below P T (mkF m pc Ls (.int y :: .int x :: st)) := by
  subst hp
  exact k.of fun t q => Jvm.RoadKit.iremM S.X S.ex rfl (S.hd hd) rfl hy q
theorem Go.lrem (S : St p l e R s m args below meth c Z own bytes nl ret nm h0 ws T h locs cells slots) {x y : Int64} (hd : decode bytes pc = .ok (.lrem, 1)) (hy : y ≠ 0) (hp : pc + 1 = pc') (k : Go p e below P T (mkF m pc' Ls (.long (x % y) :: st))) : Go p e below P T (mkF m pc Ls (.long y :: .long x :: st)) := by
  subst hp
  rw [← lrem_mod] at k
  exact k.of fun t q => XS.lrem S.X.here S.ex rfl (S.hd hd) rfl hy q
theorem Go.iinc (S : St p l e R s m args below meth c Z own bytes nl ret nm h0 ws T h locs cells slots) {k : Nat} {cst : Int} {x : Int32} (hd : decode bytes pc = .ok (.iinc k cst, 3)) (hl : Ls[k]? = some (.val (.int x))) (hl' : storeLocals Ls k (.int (x + Int32.ofInt cst)) = some Ls') (hp : pc + 3 = pc') (k : Go p e below P T (mkF m pc' Ls' st)) : Go p e below P T (mkF m pc Ls st) := by
  subst hp
  exact k.of fun t q => XS.iinc S.X.here S.ex rfl (S.hd hd) hl hl' q
theorem Go.dup (S : St p l e R s m args below meth c Z own bytes nl ret nm h0 ws T h locs cells slots) {x : Value} (hd : decode bytes pc = .ok (.dup, 1)) (hc : x.category = 1) (hp : pc + 1 = pc') (k : Go p e below P T (mkF m pc' Ls (x :: x :: st))) : Go p e below P T (mkF m pc Ls (x :: st)) := by
  subst hp
  exact k.of fun t q => XS.dup S.X.here S.ex rfl (S.hd hd) rfl hc q
theorem Go.pop (S : St p l e R s m args below meth c Z own bytes nl ret nm h0 ws T h locs cells slots) {x : Value} (hd : decode bytes pc = .ok (.pop, 1)) (hc : x.category = 1) (hp : pc + 1 = pc') (k : Go p e below P T (mkF m pc' Ls st)) : Go p e below P T (mkF m pc Ls (x :: st)) := by
  subst hp
  exact k.of fun t q => XS.pop S.X.here S.ex rfl (S.hd hd) rfl hc q
theorem Go.dup_x1 (S : St p l e R s m args below meth c Z own bytes nl ret nm h0 ws T h locs cells slots) {x y : Value} (hd : decode bytes pc = .ok (.dup_x1, 1)) (hc : x.category = 1) (hc' : y.category = 1) (hp : pc + 1 = pc') (k : Go p e below P T (mkF m pc' Ls (x :: y :: x :: st))) : Go p e below P T (mkF m pc Ls (x :: y :: st)) := by
  subst hp
  exact k.of fun t q => XS.dupX1 S.X.here S.ex rfl (S.hd hd) rfl hc hc' q
theorem Go.goto (S : St p l e R s m args below meth c Z own bytes nl ret nm h0 ws T h locs cells slots) {o : Int} (hd : decode bytes pc = .ok (.goto o, 3)) (hp : (pc : Int) + o = (pc' : Int)) (k : Go p e below P T (mkF m pc' Ls st)) : Go p e below P T (mkF m pc Ls st) :=
  k.of fun t q => XS.goto S.X.here S.ex rfl (pc0 := pc) rfl (S.hd hd) (off0 hp) (off1 hp) q
theorem Go.if_eq (S : St p l e R s m args below meth c Z own bytes nl ret nm h0 ws T h locs cells slots) {x : Int32} {o : Int} {pt : Nat} (hd : decode bytes pc = .ok (.ifCond .eq o, 3)) (ht : (pc : Int) + o = (pt : Int)) (hf : pc + 3 = pc') (ky : x = 0 → Go p e below P T (mkF m pt Ls st)) (kn : ¬ x = 0 → Go p e below P T (mkF m pc' Ls st)) : Go p e below P T (mkF m pc Ls (.int x :: st)) := by
  subst hf
  by_cases q : x = 0
  · exact (ky q).of fun t q' => XS.ifYes S.X.here S.ex rfl (pc0 := pc) rfl (S.hd hd) rfl (Jvm.Free.XT.i0_eq_t q) (off0 ht) (off1 ht) q'
  · exact (kn q).of fun t q' => XS.ifNo S.X.here S.ex rfl (S.hd hd) rfl (Jvm.Free.XT.i0_eq_f q) q'
theorem Go.icmp_eq (S : St p l e R s m args below meth c Z own bytes nl ret nm h0 ws T h locs cells slots) {x y : Int32} {o : Int} {pt : Nat} (hd : decode bytes pc = .ok (.if_icmp .eq o, 3)) (ht : (pc : Int) + o = (pt : Int)) (hf : pc + 3 = pc') (ky : x = y → Go p e below P T (mkF m pt Ls st)) (kn : ¬ x = y → Go p e below P T (mkF m pc' Ls st)) : Go p e below P T (mkF m pc Ls (.int y :: .int x :: st)) := by
  subst hf
  by_cases q : x = y
  · exact (ky q).of fun t q' => XS.icmpYes S.X.here S.ex rfl (pc0 := pc) rfl (S.hd hd) rfl (Jvm.Free.XT.ii_eq_t q) (off0 ht) (off1 ht) q'
  · exact (kn q).of fun t q' => XS.icmpNo S.X.here S.ex rfl (S.hd hd) rfl (Jvm.Free.XT.ii_eq_f q) q'
theorem Go.lcmp_eq (S : St p l e R s m args below meth c Z own bytes nl ret nm h0 ws T h locs cells slots) {x y : Int64} {o : Int} {pt : Nat} {pc1 : Nat} (hd1 : decode bytes pc = .ok (.lcmp, 1)) (h1 : pc + 1 = pc1) (hd : decode bytes pc1 = .ok (.ifCond .eq o, 3)) (ht : (pc1 : Int) + o = (pt : Int)) (hf : pc1 + 3 = pc') (ky : x = y → Go p e below P T (mkF m pt Ls st)) (kn : ¬ x = y → Go p e below P T (mkF m pc' Ls st)) : Go p e below P T (mkF m pc Ls (.long y :: .long x :: st)) := by
  subst hf h1
  by_cases q : x = y
  · exact (ky q).of fun t q' => Jvm.Free.XT.lcmp S.X.here S.ex rfl (S.hd hd1) rfl (XS.ifYes S.X.here S.ex rfl (pc0 := pc + 1) rfl (S.hd hd) rfl (Jvm.Free.XT.ll_eq_t q) (off0 ht) (off1 ht) q')
  · exact (kn q).of fun t q' => Jvm.Free.XT.lcmp S.X.here S.ex rfl (S.hd hd1) rfl (XS.ifNo S.X.here S.ex rfl (S.hd hd) rfl (Jvm.Free.XT.ll_eq_f q) q')
theorem Go.if_ne (S : St p l e R s m args below meth c Z own bytes nl ret nm h0 ws T h locs cells slots) {x : Int32} {o : Int} {pt : Nat} (hd : decode bytes pc = .ok (.ifCond .ne o, 3)) (ht : (pc : Int) + o = (pt : Int)) (hf : pc + 3 = pc') (ky : ¬ x = 0 → Go p e below P T (mkF m pt Ls st)) (kn : x = 0 → Go p e below P T (mkF m pc' Ls st)) : Go p e below P T (mkF m pc Ls (.int x :: st)) := by
  subst hf
  by_cases q : x = 0
  · exact (kn q).of fun t q' => XS.ifNo S.X.here S.ex rfl (S.hd hd) rfl (Jvm.Free.XT.i0_ne_f q) q'
  · exact (ky q).of fun t q' => XS.ifYes S.X.here S.ex rfl (pc0 := pc) rfl (S.hd hd) rfl (Jvm.Free.XT.i0_ne_t q) (off0 ht) (off1 ht) q'
theorem Go.icmp_ne (S : St p l e R s m args below meth c Z own bytes nl ret nm h0 ws T h locs cells slots) {x y : Int32} {o : Int} {pt : Nat} (hd : decode bytes pc = .ok (.if_icmp .ne o, 3)) (ht : (pc : Int) + o = (pt : Int)) (hf : pc + 3 = pc') (ky : ¬ x = y → Go p e below P T (mkF m pt Ls st)) (kn : x = y → Go p e below P T (mkF m pc' Ls st)) : Go p e below P T (mkF m pc Ls (.int y :: .int x :: st)) := by
  subst hf
  by_cases q : x = y
  · exact (kn q).of fun t q' => XS.icmpNo S.X.here S.ex rfl (S.hd hd) rfl (Jvm.Free.XT.ii_ne_f q) q'
  · exact (ky q).of fun t q' => XS.icmpYes S.X.here S.ex rfl (pc0 := pc) rfl (S.hd hd) rfl (Jvm.Free.XT.ii_ne_t q) (off0 ht) (off1 ht) q'
theorem Go.lcmp_ne (S : St p l e R s m args below meth c Z own bytes nl ret nm h0 ws T h locs cells slots) {x y : Int64} {o : Int} {pt : Nat} {pc1 : Nat} (hd1 : decode bytes pc = .ok (.lcmp, 1)) (h1 : pc + 1 = pc1) (hd : decode bytes pc1 = .ok (.ifCond .ne o, 3)) (ht : (pc1 : Int) + o = (pt : Int)) (hf : pc1 + 3 = pc') (ky : ¬ x = y → Go p e below P T (mkF m pt Ls st)) (kn : x = y → Go p e below P T (mkF m pc' Ls st)) : Go p e below P T (mkF m pc Ls (.long y :: .long x :: st)) := by
  subst hf h1
  by_cases q : x = y
  · exact (kn q).of fun t q' => Jvm.Free.XT.lcmp S.X.here S.ex rfl (S.hd hd1) rfl (XS.ifNo S.X.here S.ex rfl (S.hd hd) rfl (Jvm.Free.XT.ll_ne_f q) q')
  · exact (ky q).of fun t q' => Jvm.Free.XT.lcmp S.X.here S.ex rfl (S.hd hd1) rfl (XS.ifYes S.X.here S.ex rfl (pc0 := pc + 1) rfl (S.hd hd) rfl (Jvm.Free.XT.ll_ne_t q) (off0 ht) (off1 ht) q')
theorem Go.if_lt (S : St p l e R s m args below meth c Z own bytes nl ret nm h0 ws T h locs cells slots) {x : Int32} {o : Int} {pt : Nat} (hd : decode bytes pc = .ok (.ifCond .lt o, 3)) (ht : (pc : Int) + o = (pt : Int)) (hf : pc + 3 = pc') (ky : x < 0 → Go p e below P T (mkF m pt Ls st)) (kn : ¬ x < 0 → Go p e below P T (mkF m pc' Ls st)) : Go p e below P T (mkF m pc Ls (.int x :: st)) := by
  subst hf
  by_cases q : x < 0
  · exact (ky q).of fun t q' => XS.ifYes S.X.here S.ex rfl (pc0 := pc) rfl (S.hd hd) rfl (Jvm.Free.XT.i0_lt_t q) (off0 ht) (off1 ht) q'
  · exact (kn q).of fun t q' => XS.ifNo S.X.here S.ex rfl (S.hd hd) rfl (Jvm.Free.XT.i0_lt_f q) q'
theorem Go.icmp_lt (S : St p l e R s m args below meth c Z own bytes nl ret nm h0 ws T h locs cells slots) {x y : Int32} {o : Int} {pt : Nat} (hd : decode bytes pc = .ok (.if_icmp .lt o, 3)) (ht : (pc : Int) + o = (pt : Int)) (hf : pc + 3 = pc') (ky : x < y → Go p e below P T (mkF m pt Ls st)) (kn : ¬ x < y → Go p e below P T (mkF m pc' Ls st)) : Go p e below P T (mkF m pc Ls (.int y :: .int x :: st)) := by
  subst hf
  by_cases q : x < y
  · exact (ky q).of fun t q' => XS.icmpYes S.X.here S.ex rfl (pc0 := pc) rfl (S.hd hd) rfl (Jvm.Free.XT.ii_lt_t q) (off0 ht) (off1 ht) q'
  · exact (kn q).of fun t q' => XS.icmpNo S.X.here S.ex rfl (S.hd hd) rfl (Jvm.Free.XT.ii_lt_f q) q'
theorem Go.lcmp_lt (S : St p l e R s m args below meth c Z own bytes nl ret nm h0 ws T h locs cells slots) {x y : Int64} {o : Int} {pt : Nat} {pc1 : Nat} (hd1 : decode bytes pc = .ok (.lcmp, 1)) (h1 : pc + 1 = pc1) (hd : decode bytes pc1 = .ok (.ifCond .lt o, 3)) (ht : (pc1 : Int) + o = (pt : Int)) (hf : pc1 + 3 = pc') (ky : x < y → Go p e below P T (mkF m pt Ls st)) (kn : ¬ x < y → Go p e below P T (mkF m pc' Ls st)) : Go p e below P T (mkF m pc Ls (.long y :: .long x :: st)) := by
  subst hf h1
  by_cases q : x < y
  · exact (ky q).of fun t q' => Jvm.Free.XT.lcmp S.X.here S.ex rfl (S.hd hd1) rfl (XS.ifYes S.X.here S.ex rfl (pc0 := pc + 1) rfl (S.hd hd) rfl (Jvm.Free.XT.ll_lt_t q) (off0 ht) (off1 ht) q')
  · exact (kn q).of fun t q' => Jvm.Free.XT.lcmp S.X.here S.ex rfl (S.hd hd1) rfl (XS.ifNo S.X.here S.ex rfl (S.hd hd) rfl (Jvm.Free.XT.ll_lt_f q) q')
theorem Go.if_ge (S : St p l e R s m args below meth c Z own bytes nl ret nm h0 ws T h locs cells slots) {x : Int32} {o : Int} {pt : Nat} (hd : decode bytes pc = .ok (.ifCond .ge o, 3)) (ht : (pc : Int) + o = (pt : Int)) (hf : pc + 3 = pc') (ky : ¬ x < 0 → Go p e below P T (mkF m pt Ls st)) (kn : x < 0 → Go p e below P T (mkF m pc' Ls st)) : Go p e below P T (mkF m pc Ls (.int x :: st)) := by
  subst hf
  by_cases q : x < 0
  · exact (kn q).of fun t q' => XS.ifNo S.X.here S.ex rfl (S.hd hd) rfl (Jvm.Free.XT.i0_ge_f q) q'
  · exact (ky q).of fun t q' => XS.ifYes S.X.here S.ex rfl (pc0 := pc) rfl (S.hd hd) rfl (Jvm.Free.XT.i0_ge_t q) (off0 ht) (off1 ht) q'
theorem Go.icmp_ge (S : St p l e R s m args below meth c Z own bytes nl ret nm h0 ws T h locs cells slots) {x y : Int32} {o : Int} {pt : Nat} (hd : decode bytes pc = .ok (.if_icmp .ge o, 3)) (ht : (pc : Int) + o = (pt : Int)) (hf : pc + 3 = pc') (ky : ¬ x < y → Go p e below P T (mkF m pt Ls st)) (kn : x < y → Go p e below P T (mkF m pc' Ls st)) : Go p e below P T (mkF m pc Ls (.int y :: .int x :: st)) := by
  subst hf
  by_cases q : x < y
  · exact (kn q).of fun t q' => XS.icmpNo S.X.here S.ex rfl (S.hd hd) rfl (Jvm.Free.XT.ii_ge_f q) q'
  · exact (ky q).of fun t q' => XS.icmpYes S.X.here S.ex rfl (pc0 := pc) rfl (S.hd hd) rfl (Jvm.Free.XT.ii_ge_t q) (off0 ht) (off1 ht) q'
theorem Go.lcmp_ge (S : St p l e R s m args below meth c Z own bytes nl ret nm h0 ws T h locs cells slots) {x y : Int64} {o : Int} {pt : Nat} {pc1 : Nat} (hd1 : decode bytes pc = .ok (.lcmp, 1)) (h1 : pc + 1 = pc1) (hd : decode bytes pc1 = .ok (.ifCond .ge o, 3)) (ht : (pc1 : Int) + o = (pt : Int)) (hf : pc1 + 3 = pc') (ky : ¬ x < y → Go p e below P T (mkF m pt Ls st)) (kn : x < y → Go p e below P T (mkF m pc' Ls st)) : Go p e below P T (mkF m pc Ls (.long y :: .long x :: st)) := by
  subst hf h1
  by_cases q : x < y
  · exact (kn q).of fun t q' => Jvm.Free.XT.lcmp S.X.here S.ex rfl (S.hd hd1) rfl (XS.ifNo S.X.here S.ex rfl (S.hd hd) rfl (Jvm.Free.XT.ll_ge_f q) q')
  · exact (ky q).of fun t q' => Jvm.Free.XT.lcmp S.X.here S.ex rfl (S.hd hd1) rfl (XS.ifYes S.X.here S.ex rfl (pc0 := pc + 1) rfl (S.hd hd) rfl (Jvm.Free.XT.ll_ge_t q) (off0 ht) (off1 ht) q')
theorem Go.if_gt (S : St p l e R s m args below meth c Z own bytes nl ret nm h0 ws T h locs cells slots) {x : Int32} {o : Int} {pt : Nat} (hd : decode bytes pc = .ok (.ifCond .gt o, 3)) (ht : (pc : Int) + o = (pt : Int)) (hf : pc + 3 = pc') (ky : 0 < x → Go p e below P T (mkF m pt Ls st)) (kn : ¬ 0 < x → Go p e below P T (mkF m pc' Ls st)) : Go p e below P T (mkF m pc Ls (.int x :: st)) := by
  subst hf
  by_cases q : 0 < x
  · exact (ky q).of fun t q' => XS.ifYes S.X.here S.ex rfl (pc0 := pc) rfl (S.hd hd) rfl (Jvm.Free.XT.i0_gt_t q) (off0 ht) (off1 ht) q'
  · exact (kn q).of fun t q' => XS.ifNo S.X.here S.ex rfl (S.hd hd) rfl (Jvm.Free.XT.i0_gt_f q) q'
theorem Go.icmp_gt (S : St p l e R s m args below meth c Z own bytes nl ret nm h0 ws T h locs cells slots) {x y : Int32} {o : Int} {pt : Nat} (hd : decode bytes pc = .ok (.if_icmp .gt o, 3)) (ht : (pc : Int) + o = (pt : Int)) (hf : pc + 3 = pc') (ky : y < x → Go p e below P T (mkF m pt Ls st)) (kn : ¬ y < x → Go p e below P T (mkF m pc' Ls st)) : Go p e below P T (mkF m pc Ls (.int y :: .int x :: st)) := by
  subst hf
  by_cases q : y < x
  · exact (ky q).of fun t q' => XS.icmpYes S.X.here S.ex rfl (pc0 := pc) rfl (S.hd hd) rfl (Jvm.Free.XT.ii_gt_t q) (off0 ht) (off1 ht) q'
  · exact (kn q).of fun t q' => XS.icmpNo S.X.here S.ex rfl (S.hd hd) rfl (Jvm.Free.XT.ii_gt_f q) q'
theorem Go.lcmp_gt (S : St p l e R s m args below meth c Z own bytes nl ret nm h0 ws T h locs cells slots) {x y : Int64} {o : Int} {pt : Nat} {pc1 : Nat} (hd1 : decode bytes pc = .ok (.lcmp, 1)) (h1 : pc + 1 = pc1) (hd : decode bytes pc1 = .ok (.ifCond .gt o, 3)) (ht : (pc1 : Int) + o = (pt : Int)) (hf : pc1 + 3 = pc') (ky : y < x → Go p e below P T (mkF m pt Ls st)) (kn : ¬ y < x → Go p e below P T (mkF m pc' Ls st)) : Go p e below P T (mkF m pc Ls (.long y :: .long x :: st)) := by
  subst hf h1
  by_cases q : y < x
  · exact (ky q).of fun t q' => Jvm.Free.XT.lcmp S.X.here S.ex rfl (S.hd hd1) rfl (XS.ifYes S.X.here S.ex rfl (pc0 := pc + 1) rfl (S.hd hd) rfl (Jvm.Free.XT.ll_gt_t q) (off0 ht) (off1 ht) q')
  · exact (kn q).of fun t q' => Jvm.Free.XT.lcmp S.X.here S.ex rfl (S.hd hd1) rfl (XS.ifNo S.X.here S.ex rfl (S.hd hd) rfl (Jvm.Free.XT.ll_gt_f q) q')
theorem Go.if_le (S : St p l e R s m args below meth c Z own bytes nl ret nm h0 ws T h locs cells slots) {x : Int32} {o : Int} {pt : Nat} (hd : decode bytes pc = .ok (.ifCond .le o, 3)) (ht : (pc : Int) + o = (pt : Int)) (hf : pc + 3 = pc') (ky : ¬ 0 < x → Go p e below P T (mkF m pt Ls st)) (kn : 0 < x → Go p e below P T (mkF m pc' Ls st)) : Go p e below P T (mkF m pc Ls (.int x :: st)) := by
  subst hf
  by_cases q : 0 < x
  · exact (kn q).of fun t q' => XS.ifNo S.X.here S.ex rfl (S.hd hd) rfl (Jvm.Free.XT.i0_le_f q) q'
  · exact (ky q).of fun t q' => XS.ifYes S.X.here S.ex rfl (pc0 := pc) rfl (S.hd hd) rfl (Jvm.Free.XT.i0_le_t q) (off0 ht) (off1 ht) q'
theorem Go.icmp_le (S : St p l e R s m args below meth c Z own bytes nl ret nm h0 ws T h locs cells slots) {x y : Int32} {o : Int} {pt : Nat} (hd : decode bytes pc = .ok (.if_icmp .le o, 3)) (ht : (pc : Int) + o = (pt : Int)) (hf : pc + 3 = pc') (ky : ¬ y < x → Go p e below P T (mkF m pt Ls st)) (kn : y < x → Go p e below P T (mkF m pc' Ls st)) : Go p e below P T (mkF m pc Ls (.int y :: .int x :: st)) := by
  subst hf
  by_cases q : y < x
  · exact (kn q).of fun t q' => XS.icmpNo S.X.here S.ex rfl (S.hd hd) rfl (Jvm.Free.XT.ii_le_f q) q'
  · exact (ky q).of fun t q' => XS.icmpYes S.X.here S.ex rfl (pc0 := pc) rfl (S.hd hd) rfl (Jvm.Free.XT.ii_le_t q) (off0 ht) (off1 ht) q'
theorem Go.lcmp_le (S : St p l e R s m args below meth c Z own bytes nl ret nm h0 ws T h locs cells slots) {x y : Int64} {o : Int} {pt : Nat} {pc1 : Nat} (hd1 : decode bytes pc = .ok (.lcmp, 1)) (h1 : pc + 1 = pc1) (hd : decode bytes pc1 = .ok (.ifCond .le o, 3)) (ht : (pc1 : Int) + o = (pt : Int)) (hf : pc1 + 3 = pc') (ky : ¬ y < x → Go p e below P T (mkF m pt Ls st)) (kn : y < x → Go p e below P T (mkF m pc' Ls st)) : Go p e below P T (mkF m pc Ls (.long y :: .long x :: st)) := by
  subst hf h1
  by_cases q : y < x
  · exact (kn q).of fun t q' => Jvm.Free.XT.lcmp S.X.here S.ex rfl (S.hd hd1) rfl (XS.ifNo S.X.here S.ex rfl (S.hd hd) rfl (Jvm.Free.XT.ll_le_f q) q')
  · exact (ky q).of fun t q' => Jvm.Free.XT.lcmp S.X.here S.ex rfl (S.hd hd1) rfl (XS.ifYes S.X.here S.ex rfl (pc0 := pc + 1) rfl (S.hd hd) rfl (Jvm.Free.XT.ll_le_t q) (off0 ht) (off1 ht) q')
theorem Go.acmp_eq (S : St p l e R s m args below meth c Z own bytes nl ret nm h0 ws T h locs cells slots) {x y : Value} {o : Int} {pt : Nat} (hd : decode bytes pc = .ok (.if_acmp .eq o, 3)) (ht : (pc : Int) + o = (pt : Int)) (hf : pc + 3 = pc') (rx : x.isRef = true) (ry : y.isRef = true) (ky : x = y → Go p e below P T (mkF m pt Ls st)) (kn : ¬ x = y → Go p e below P T (mkF m pc' Ls st)) : Go p e below P T (mkF m pc Ls (y :: x :: st)) := by
  subst hf
  by_cases q : x = y
  · exact (ky q).of fun t q' => Jvm.RoadKit.acmp (g := mkF m pc Ls (y :: x :: st)) S.X S.ex rfl rx ry (pc0 := pc) (same := true) rfl (S.hd hd) rfl (decide_eq_true q) (off0 ht) ((off1 ht).symm.trans (if_pos rfl).symm) q'
  · exact (kn q).of fun t q' => Jvm.RoadKit.acmp (g := mkF m pc Ls (y :: x :: st)) S.X S.ex rfl rx ry (pc0 := pc) (same := false) rfl (S.hd hd) rfl (decide_eq_false q) (off0 ht) ((if_neg (fun z => nomatch z)).symm) q'
theorem Go.acmp_ne (S : St p l e R s m args below meth c Z own bytes nl ret nm h0 ws T h locs cells slots) {x y : Value} {o : Int} {pt : Nat} (hd : decode bytes pc = .ok (.if_acmp .ne o, 3)) (ht : (pc : Int) + o = (pt : Int)) (hf : pc + 3 = pc') (rx : x.isRef = true) (ry : y.isRef = true) (ky : ¬ x = y → Go p e below P T (mkF m pt Ls st)) (kn : x = y → Go p e below P T (mkF m pc' Ls st)) : Go p e below P T (mkF m pc Ls (y :: x :: st)) := by
  subst hf
  by_cases q : x = y
  · exact (kn q).of fun t q' => Jvm.RoadKit.acmp (g := mkF m pc Ls (y :: x :: st)) S.X S.ex rfl rx ry (pc0 := pc) (same := true) rfl (S.hd hd) rfl (decide_eq_true q) (off0 ht) ((if_neg (fun z => nomatch z)).symm) q'
  · exact (ky q).of fun t q' => Jvm.RoadKit.acmp (g := mkF m pc Ls (y :: x :: st)) S.X S.ex rfl rx ry (pc0 := pc) (same := false) rfl (S.hd hd) rfl (decide_eq_false q) (off0 ht) ((off1 ht).symm.trans (if_pos rfl).symm) q'
theorem Go.ifnullY (S : St p l e R s m args below meth c Z own bytes nl ret nm h0 ws T h locs cells slots) {o : Int} {pt : Nat} (hd : decode bytes pc = .ok (.ifnull o, 3)) (ht : (pc : Int) + o = (pt : Int)) (k : Go p e below P T (mkF m pt Ls st)) : Go p e below P T (mkF m pc Ls (.null :: st)) :=
  k.of fun t q => XS.ifnullYes S.X.here S.ex rfl (pc0 := pc) rfl (S.hd hd) rfl (off0 ht) (off1 ht) q
theorem Go.ifnullN (S : St p l e R s m args below meth c Z own bytes nl ret nm h0 ws T h locs cells slots) {o : Int} {b : Addr} (hd : decode bytes pc = .ok (.ifnull o, 3)) (hf : pc + 3 = pc') (k : Go p e below P T (mkF m pc' Ls st)) : Go p e below P T (mkF m pc Ls (.ref b :: st)) := by
  subst hf
  exact k.of fun t q => XS.ifnullNo S.X.here S.ex rfl (S.hd hd) rfl q
theorem Go.ifnonnullY (S : St p l e R s m args below meth c Z own bytes nl ret nm h0 ws T h locs cells slots) {o : Int} {pt : Nat} {b : Addr} (hd : decode bytes pc = .ok (.ifnonnull o, 3)) (ht : (pc : Int) + o = (pt : Int)) (k : Go p e below P T (mkF m pt Ls st)) : Go p e below P T (mkF m pc Ls (.ref b :: st)) :=
  k.of fun t q => XS.ifnonnullYes S.X.here S.ex rfl (pc0 := pc) rfl (S.hd hd) rfl (off0 ht) (off1 ht) q
theorem Go.ifnonnullN (S : St p l e R s m args below meth c Z own bytes nl ret nm h0 ws T h locs cells slots) {o : Int} (hd : decode bytes pc = .ok (.ifnonnull o, 3)) (hf : pc + 3 = pc') (k : Go p e below P T (mkF m pc' Ls st)) : Go p e below P T (mkF m pc Ls (.null :: st)) := by
  subst hf
  exact k.of fun t q => XS.ifnonnullNo S.X.here S.ex rfl (S.hd hd) rfl q
theorem Go.ldc (S : St p l e R s m args below meth c Z own bytes nl ret nm h0 ws T h locs cells slots) {index : Nat} {v : Int32} (w : (Jvm.Cond.constant own index v).before a0 Z = true) (hd : decode bytes pc = .ok (.ldc index, 2)) (hp : pc + 2 = pc') (k : Go p e below P T (mkF m pc' Ls (.int v :: st))) : Go p e below P T (mkF m pc Ls st) := by
  subst hp
  exact k.of fun t q => S.X.ldcInt S.ex S.hown (mvT S.hZ w) (g := mkF m pc Ls st) rfl (S.hd hd) _ q
theorem Go.ldc2 (S : St p l e R s m args below meth c Z own bytes nl ret nm h0 ws T h locs cells slots) {index : Nat} {v : Int64} (w : (Jvm.Cond.constantLong own index v).before a0 Z = true) (hd : decode bytes pc = .ok (.ldc2_w index, 3)) (hp : pc + 3 = pc') (k : Go p e below P T (mkF m pc' Ls (.long v :: st))) : Go p e below P T (mkF m pc Ls st) := by
  subst hp
  exact k.of fun t q => S.X.ldc2Long S.ex S.hown (mvT S.hZ w) (g := mkF m pc Ls st) rfl (S.hd hd) _ q
theorem Go.leaves (S : St p l e R s m args below meth c Z own bytes nl ret nm h0 ws T h locs cells slots) {kc ks : Nat} {Q : Option Value → Heap → Prop} {g : JFrame} {v : Option Value} (hv : ret = none → v = none) (hc : cells ≤ kc) (hs : slots ≤ ks)
    (step : ∀ fs : List Frame, (∀ (f : JFrame) (acts : List Action), f.method = m → f.locked = none → f.entered = [] → (doReturn e (T.setTop f) acts v).1 = T.setFrames fs) → Steps p.tables e below (T.setTop g) (T.setFrames fs)) (q : Q v h) : Go p e below (PostOf Z s h0 ws kc ks Q) T g := by
  obtain ⟨fs, hr, hrun, hended, hW, hsame⟩ := S.X.leave (v := v) (fun q => hv (S.hret ▸ q)) S.locks
  refine ⟨_, _, step fs hr, hrun, hended, v, locs, rfl, ⟨S.fr, ?_, ?_, ?_⟩, ⟨_, rfl⟩, hW, hsame.mono hc hs⟩
  · show Keep h0 T.heap ws
    rw [S.eT]; exact S.keep
  · show Ext Z.heap T.heap
    rw [S.eT]; exact S.ext
  · show Q v T.heap
    rw [S.eT]; exact q
theorem St.leaves0 (S : St p l e R s m args below meth c Z own bytes nl ret nm h0 ws T h locs cells slots) {kc ks : Nat} {Q : Option Value → Heap → Prop} {g : JFrame} {w : Value} {t : FieldType} (hret : ret = some t) (hc : cells ≤ kc) (hs : slots ≤ ks) (q : Q (some w) h)
    (step : ∀ fs : List Frame, (∀ (f : JFrame) (acts : List Action), f.method = m → f.locked = none → f.entered = [] → (doReturn e (T.setTop f) acts (some w)).1 = T.setFrames fs) → Steps p.tables e below (T.setTop g) (T.setFrames fs)) : Go p e below (PostOf Z s h0 ws kc ks Q) T g :=
  Go.leaves S (fun q => by rw [hret] at q; cases q) hc hs step q
theorem narrow_ref {t : FieldType} {w : Value} (ht : t.isReference = true) (hw : w.isRef = true) : narrow t w = w := by
  rcases ref_cases hw with rfl | ⟨a, rfl⟩ <;> cases t <;> rfl
theorem Go.ireturn (S : St p l e R s m args below meth c Z own bytes nl ret nm h0 ws T h locs cells slots) {kc ks : Nat} {Q : Option Value → Heap → Prop} {z : Int32} (hret : ret = some .int) (hd : decode bytes pc = .ok (.ireturn, 1)) (hc : cells ≤ kc) (hs : slots ≤ ks) (q : Q (some (.int z)) h) : Go p e below (PostOf Z s h0 ws kc ks Q) T (mkF m pc Ls (.int z :: st)) :=
  S.leaves0 hret hc hs q fun fs hr => retOut S.X S.ex (t := .int) (i := .ireturn) (S.hret.trans hret) rfl (Or.inl ⟨rfl, Or.inl rfl, z, rfl⟩) (S.hd hd) hr
theorem Go.lreturn (S : St p l e R s m args below meth c Z own bytes nl ret nm h0 ws T h locs cells slots) {kc ks : Nat} {Q : Option Value → Heap → Prop} {z : Int64} (hret : ret = some .long) (hd : decode bytes pc = .ok (.lreturn, 1)) (hc : cells ≤ kc) (hs : slots ≤ ks) (q : Q (some (.long z)) h) : Go p e below (PostOf Z s h0 ws kc ks Q) T (mkF m pc Ls (.long z :: st)) :=
  S.leaves0 hret hc hs q fun fs hr => retOut S.X S.ex (t := .long) (i := .lreturn) (S.hret.trans hret) rfl (Or.inr (Or.inl ⟨rfl, rfl, z, rfl⟩)) (S.hd hd) hr
theorem Go.areturn (S : St p l e R s m args below meth c Z own bytes nl ret nm h0 ws T h locs cells slots) {kc ks : Nat} {Q : Option Value → Heap → Prop} {w : Value} {t : FieldType} (hret : ret = some t) (ht : t.isReference = true) (hw : w.isRef = true) (hd : decode bytes pc = .ok (.areturn, 1)) (hc : cells ≤ kc) (hs : slots ≤ ks) (q : Q (some w) h) : Go p e below (PostOf Z s h0 ws kc ks Q) T (mkF m pc Ls (w :: st)) :=
  S.leaves0 hret hc hs q fun fs hr => retOut S.X S.ex (i := .areturn) (S.hret.trans hret) (narrow_ref ht hw) (Or.inr (Or.inr (Or.inr (Or.inr ⟨rfl, ht, hw⟩)))) (S.hd hd) hr
theorem Go.zreturn (S : St p l e R s m args below meth c Z own bytes nl ret nm h0 ws T h locs cells slots) {kc ks : Nat} {Q : Option Value → Heap → Prop} {z z' : Int32} {t : FieldType} (hret : ret = some t) (ht : t = .boolean ∨ t = .byte ∨ t = .char ∨ t = .short) (hd : decode bytes pc = .ok (.ireturn, 1)) (hz : nar t z = z') (hc : cells ≤ kc) (hs : slots ≤ ks) (q : Q (some (.int z')) h) : Go p e below (PostOf Z s h0 ws kc ks Q) T (mkF m pc Ls (.int z :: st)) := by
  subst hz
  exact S.leaves0 hret hc hs q fun fs hr => retN S.X S.ex (S.hret.trans hret) ht (S.hd hd) hr
theorem Go.vreturn (S : St p l e R s m args below meth c Z own bytes nl ret nm h0 ws T h locs cells slots) {kc ks : Nat} {Q : Option Value → Heap → Prop} (hret : ret = none) (hd : decode bytes pc = .ok (.return_, 1)) (hc : cells ≤ kc) (hs : slots ≤ ks) (q : Q none h) : Go p e below (PostOf Z s h0 ws kc ks Q) T (mkF m pc Ls []) :=
  Go.leaves S (fun _ => rfl) hc hs (fun fs hr => S.X.returnOut S.ex (S.hret.trans hret) (S.hd hd) hr) q
theorem Go.getfield (S : St p l e R s m args below meth c Z own bytes nl ret nm h0 ws T h locs cells slots) {R0 O n d host : String} {index : Nat} {a : Addr} {v : Value} (w : ((Jvm.Cond.fieldLink own index R0 n d).before a0 Z = true ∨ (Jvm.Cond.fieldLinkNest own index R0 n d host).before a0 Z = true)) (via : Via Z R0 O n d) (F : Fld Z h a O n d v) (hd : decode bytes pc = .ok (.getfield index, 3)) (hp : pc + 3 = pc')
    (k : ∀ T', St p l e R s m args below meth c Z own bytes nl ret nm h0 ws T' h locs cells slots → Go p e below P T' (mkF m pc' Ls (v :: st))) : Go p e below P T (mkF m pc Ls (.ref a :: st)) := by
  subst hp
  obtain ⟨T', X', e', f⟩ := getF S.X S.ex S.hZ S.hown w via S.eT F (g := mkF m pc Ls (.ref a :: st)) rfl rfl (S.hd hd)
  exact (k T' (S.next X' e' S.fr S.keep S.ext)).of f
theorem Go.getstatic (S : St p l e R s m args below meth c Z own bytes nl ret nm h0 ws T h locs cells slots) {R0 O n d host : String} {index : Nat} {v : Value} (w : ((Jvm.Cond.fieldLink own index R0 n d).before a0 Z = true ∨ (Jvm.Cond.fieldLinkNest own index R0 n d host).before a0 Z = true)) (via : Via Z R0 O n d) (F : Sta Z Z.heap O n d v) (hd : decode bytes pc = .ok (.getstatic index, 3)) (hp : pc + 3 = pc')
    (k : ∀ T', St p l e R s m args below meth c Z own bytes nl ret nm h0 ws T' h locs cells slots → Go p e below P T' (mkF m pc' Ls (v :: st))) : Go p e below P T (mkF m pc Ls st) := by
  subst hp
  obtain ⟨T', X', e', f⟩ := getS2 S.X S.ex S.hZ S.hown w via S.eT (F.ext S.ext) (g := mkF m pc Ls st) rfl (S.hd hd)
  exact (k T' (S.next X' e' S.fr S.keep S.ext)).of f
theorem St.wrote (S : St p l e R s m args below meth c Z own bytes nl ret nm h0 ws T h locs cells slots) {T' : State} {h' : Heap} {a : Addr} {sl : Nat} {v : Value} (X : Stand p l e R s m args below meth c T' (locs ++ [⟨a, sl⟩]) cells slots) (e1 : T'.heap = h') (W : Wr h h' a sl v) (hz : Z.heap.size ≤ a) (hws : a ∈ ws ∨ h0.size ≤ a) : St p l e R s m args below meth c Z own bytes nl ret nm h0 ws T' h' (locs ++ [⟨a, sl⟩]) cells slots :=
  S.next X e1 (Fr.snoc X S.fr hz) (S.keep.wr W hws) (Old.wr (n0 := Z.heap.size) ⟨rfl, S.ext⟩ W hz).2
theorem Go.putfield (S : St p l e R s m args below meth c Z own bytes nl ret nm h0 ws T h locs cells slots) {R0 O n d host C : String} {index kk : Nat} {ty : FieldType} {a : Addr} {v old : Value} (w : ((Jvm.Cond.fieldLink own index R0 n d).before a0 Z = true ∨ (Jvm.Cond.fieldLinkNest own index R0 n d host).before a0 Z = true)) (via : Via Z R0 O n d) (F : Fld Z h a O n d old) (E : Exa Z h a C)
    (L : (Jvm.Cond.lays C O n d).before a0 Z = true ∨ ((Jvm.Cond.laysFinal C O n d).before a0 Z = true ∧ own = O ∧ nm = "<init>")) (wi : (Jvm.Cond.instantiable C kk).before a0 Z = true) (hty : parseFieldDescriptor d = some ty) (hn : narrow ty v = v) (hf : fits ty v = true)
    (hz : Z.heap.size ≤ a) (hws : a ∈ ws ∨ h0.size ≤ a) (hd : decode bytes pc = .ok (.putfield index, 3)) (hp : pc + 3 = pc')
    (k : ∀ T' h' locs', St p l e R s m args below meth c Z own bytes nl ret nm h0 ws T' h' locs' cells slots → Wr h h' a (Jvm.RoadKit.slotOf Z O n d) v → Go p e below P T' (mkF m pc' Ls st)) : Go p e below P T (mkF m pc Ls (v :: .ref a :: st)) := by
  subst hp
  obtain ⟨T', h', X', e', W, f⟩ := putF S.X S.ex S.hZ S.hown w via S.eT F E (L.imp id fun q => ⟨q.1, q.2.1, S.hnm.trans q.2.2⟩) wi hty hn hf (g := mkF m pc Ls (v :: .ref a :: st)) rfl rfl (S.hd hd)
  exact (k T' h' _ (S.wrote X' e' W hz hws) W).of f
theorem Go.putfieldN (S : St p l e R s m args below meth c Z own bytes nl ret nm h0 ws T h locs cells slots) {R0 O n d C : String} {index kk : Nat} {ty : FieldType} {a : Addr} {v v' old : Value} (w : (Jvm.Cond.fieldLink own index R0 n d).before a0 Z = true) (via : Via Z R0 O n d) (F : Fld Z h a O n d old) (E : Exa Z h a C)
    (L : (Jvm.Cond.lays C O n d).before a0 Z = true ∨ ((Jvm.Cond.laysFinal C O n d).before a0 Z = true ∧ own = O ∧ nm = "<init>")) (wi : (Jvm.Cond.instantiable C kk).before a0 Z = true) (hty : parseFieldDescriptor d = some ty) (hn : narrow ty v = v') (hf : fits ty v' = true)
    (hz : Z.heap.size ≤ a) (hws : a ∈ ws ∨ h0.size ≤ a) (hd : decode bytes pc = .ok (.putfield index, 3)) (hp : pc + 3 = pc')
    (k : ∀ T' h' locs', St p l e R s m args below meth c Z own bytes nl ret nm h0 ws T' h' locs' cells slots → Wr h h' a (Jvm.RoadKit.slotOf Z O n d) v' → Go p e below P T' (mkF m pc' Ls st)) : Go p e below P T (mkF m pc Ls (v :: .ref a :: st)) := by
  subst hp
  obtain ⟨T', h', X', e', W, f⟩ := putFN S.X S.ex S.hZ S.hown w via S.eT F E (L.imp id fun q => ⟨q.1, q.2.1, S.hnm.trans q.2.2⟩) wi hty hn hf (g := mkF m pc Ls (v :: .ref a :: st)) rfl rfl (S.hd hd)
  exact (k T' h' _ (S.wrote X' e' W hz hws) W).of f
theorem St.made (S : St p l e R s m args below meth c Z own bytes nl ret nm h0 ws T h locs cells slots) {T' : State} {h' : Heap} {cells' slots' : Nat} (X : Stand p l e R s m args below meth c T' locs cells' slots') (e1 : T'.heap = h') (E : Ext h h') : St p l e R s m args below meth c Z own bytes nl ret nm h0 ws T' h' locs cells' slots' :=
  S.next X e1 S.fr (S.keep.ext E) (Old.ext (n0 := Z.heap.size) ⟨rfl, S.ext⟩ E).2
theorem Go.new (S : St p l e R s m args below meth c Z own bytes nl ret nm h0 ws T h locs cells slots) {C : String} {index n : Nat} (w : (Jvm.Cond.classLink own index C).before a0 Z = true) (wi : (Jvm.Cond.instantiable C n).before a0 Z = true) (wz : (Jvm.Cond.initialized C).before a0 Z = true) (hd : decode bytes pc = .ok (.new index, 3)) (hc : cells + 1 ≤ R.cells) (hl : slots + n ≤ R.slots) (hp : pc + 3 = pc')
    (k : ∀ T' h' a, St p l e R s m args below meth c Z own bytes nl ret nm h0 ws T' h' locs (cells + 1) (slots + n) → Ext h h' → h.size = a → Z.heap.size ≤ a → h0.size ≤ a → Exa Z h' a C → (∀ {O nm d : String} {ty : FieldType}, Laid Z a0 C O nm d → parseFieldDescriptor d = some ty → Fld Z h' a O nm d (defaultValue ty)) → Go p e below P T' (mkF m pc' Ls (.ref a :: st))) : Go p e below P T (mkF m pc Ls st) := by
  subst hp
  obtain ⟨T', h', X', e', E, A, D, -, f⟩ := newO S.X S.ex S.hZ S.hown w wi wz S.eT (g := mkF m pc Ls st) rfl (S.hd hd) hc hl
  exact (k T' h' h.size (S.made X' e' E) E rfl S.ext.1 S.keep.1 A D).of f
theorem Go.newarray (S : St p l e R s m args below meth c Z own bytes nl ret nm h0 ws T h locs cells slots) {aty : ArrayType} {n : Int32} {cap : Nat} {ty : FieldType} {dv : Value} (hty : newarray.typeOf aty = ty) (hdv : defaultValue ty = dv) (w : (Jvm.Cond.arrayClass ty).before a0 Z = true) (hd : decode bytes pc = .ok (.newarray aty, 2)) (hn : ¬ n < 0) (hcap : n.toNatClampNeg ≤ cap) (hb : cap * 8 ≤ 536870912) (hc : cells + 1 ≤ R.cells) (hl : slots + cap ≤ R.slots) (hp : pc + 2 = pc')
    (k : ∀ T' h' a cA, St p l e R s m args below meth c Z own bytes nl ret nm h0 ws T' h' locs (cells + 1) (slots + cap) → Ext h h' → h.size = a → Z.heap.size ≤ a → h0.size ≤ a → Arv Z h' a cA ty n (List.replicate cap dv) dv → Go p e below P T' (mkF m pc' Ls (.ref a :: st))) : Go p e below P T (mkF m pc Ls (.int n :: st)) := by
  subst hp hty hdv
  obtain ⟨T', h', cA, X', e', E, A, f⟩ := newP S.X S.ex S.hZ w S.eT (g := mkF m pc Ls (.int n :: st)) rfl (S.hd hd) rfl hn hcap hb hc hl
  exact (k T' h' h.size cA (S.made X' e' E) E rfl S.ext.1 S.keep.1 ((Arv.new A hn).pad (pad_rep [] _ cap))).of f
theorem Go.anewarray (S : St p l e R s m args below meth c Z own bytes nl ret nm h0 ws T h locs cells slots) {C : String} {index : Nat} {n : Int32} {cap : Nat} (w1 : (Jvm.Cond.classLink own index C).before a0 Z = true) (w2 : (Jvm.Cond.arrayOver (.object C)).before a0 Z = true) (hd : decode bytes pc = .ok (.anewarray index, 3)) (hn : ¬ n < 0) (hcap : n.toNatClampNeg ≤ cap) (hb : cap * 8 ≤ 536870912) (hc : cells + 1 ≤ R.cells) (hl : slots + cap ≤ R.slots) (hp : pc + 3 = pc')
    (k : ∀ T' h' a cA, St p l e R s m args below meth c Z own bytes nl ret nm h0 ws T' h' locs (cells + 1) (slots + cap) → Ext h h' → h.size = a → Z.heap.size ≤ a → h0.size ≤ a → Arv Z h' a cA (.object C) n (List.replicate cap .null) .null → Ovr Z cA C → Go p e below P T' (mkF m pc' Ls (.ref a :: st))) : Go p e below P T (mkF m pc Ls (.int n :: st)) := by
  subst hp
  obtain ⟨T', h', cA, X', e', E, A, O, f⟩ := newR S.X S.ex S.hZ S.hown w1 w2 S.eT (g := mkF m pc Ls (.int n :: st)) rfl (S.hd hd) rfl hn hcap hb hc hl
  exact (k T' h' h.size cA (S.made X' e' E) E rfl S.ext.1 S.keep.1 ((Arv.new A hn).pad (pad_rep [] _ cap)) O).of f
theorem Go.iastore (S : St p l e R s m args below meth c Z own bytes nl ret nm h0 ws T h locs cells slots) {a : Addr} {kA : ClassId} {n j : Int32} {x : Int32} {vs : List Value} {dv : Value} {i : Nat} (V : Arv Z h a kA .int n vs dv) (hj : ¬ j < 0 ∧ j < n) (hi : j.toNatClampNeg = i) (hl : i < vs.length) (hz : Z.heap.size ≤ a) (hws : a ∈ ws ∨ h0.size ≤ a) (hd : decode bytes pc = .ok (.iastore, 1)) (hp : pc + 1 = pc')
    (k : ∀ T' h' locs', St p l e R s m args below meth c Z own bytes nl ret nm h0 ws T' h' locs' cells slots → Wr h h' a j.toNatClampNeg (.int x) → Arv Z h' a kA .int n (vs.set i (.int x)) dv → Go p e below P T' (mkF m pc' Ls st)) : Go p e below P T (mkF m pc Ls (.int x :: .int j :: .ref a :: st)) := by
  subst hp
  obtain ⟨cl, A, q1, q2, q3, H, F⟩ := V
  obtain ⟨T', h', X', e', W, f⟩ := stI S.X S.ex S.hZ S.eT A (j := j) (x := x) (inb_of q2 hj) (g := mkF m pc Ls (.int x :: .int j :: .ref a :: st)) rfl rfl (S.hd hd)
  exact (k T' h' _ (S.wrote X' e' W hz hws) W (Arv.set A q1 q2 q3 H F rfl W i hi hl)).of f
theorem Go.castore (S : St p l e R s m args below meth c Z own bytes nl ret nm h0 ws T h locs cells slots) {a : Addr} {kA : ClassId} {n j : Int32} {x : Int32} {vs : List Value} {dv : Value} {i : Nat} (V : Arv Z h a kA .char n vs dv) (hj : ¬ j < 0 ∧ j < n) (hi : j.toNatClampNeg = i) (hl : i < vs.length) (hz : Z.heap.size ≤ a) (hws : a ∈ ws ∨ h0.size ≤ a) (hd : decode bytes pc = .ok (.castore, 1)) (hp : pc + 1 = pc')
    (k : ∀ T' h' locs', St p l e R s m args below meth c Z own bytes nl ret nm h0 ws T' h' locs' cells slots → Wr h h' a j.toNatClampNeg (.int (nar .char x)) → Arv Z h' a kA .char n (vs.set i (.int (nar .char x))) dv → Go p e below P T' (mkF m pc' Ls st)) : Go p e below P T (mkF m pc Ls (.int x :: .int j :: .ref a :: st)) := by
  subst hp
  obtain ⟨cl, A, q1, q2, q3, H, F⟩ := V
  obtain ⟨T', h', X', e', W, f⟩ := stC S.X S.ex S.hZ S.eT A (j := j) (x := x) (inb_of q2 hj) (g := mkF m pc Ls (.int x :: .int j :: .ref a :: st)) rfl rfl (S.hd hd)
  exact (k T' h' _ (S.wrote X' e' W hz hws) W (Arv.set A q1 q2 q3 H F (fits_nar_char _) W i hi hl)).of f
theorem Go.bastore (S : St p l e R s m args below meth c Z own bytes nl ret nm h0 ws T h locs cells slots) {a : Addr} {kA : ClassId} {n j : Int32} {x : Int32} {vs : List Value} {dv : Value} {i : Nat} (V : Arv Z h a kA .byte n vs dv) (hj : ¬ j < 0 ∧ j < n) (hi : j.toNatClampNeg = i) (hl : i < vs.length) (hz : Z.heap.size ≤ a) (hws : a ∈ ws ∨ h0.size ≤ a) (hd : decode bytes pc = .ok (.bastore, 1)) (hp : pc + 1 = pc')
    (k : ∀ T' h' locs', St p l e R s m args below meth c Z own bytes nl ret nm h0 ws T' h' locs' cells slots → Wr h h' a j.toNatClampNeg (.int (nar .byte x)) → Arv Z h' a kA .byte n (vs.set i (.int (nar .byte x))) dv → Go p e below P T' (mkF m pc' Ls st)) : Go p e below P T (mkF m pc Ls (.int x :: .int j :: .ref a :: st)) := by
  subst hp
  obtain ⟨cl, A, q1, q2, q3, H, F⟩ := V
  obtain ⟨T', h', X', e', W, f⟩ := stB S.X S.ex S.hZ S.eT A (j := j) (x := x) (inb_of q2 hj) (g := mkF m pc Ls (.int x :: .int j :: .ref a :: st)) rfl rfl (S.hd hd)
  exact (k T' h' _ (S.wrote X' e' W hz hws) W (Arv.set A q1 q2 q3 H F (fits_nar_byte _) W i hi hl)).of f
theorem Go.lastore (S : St p l e R s m args below meth c Z own bytes nl ret nm h0 ws T h locs cells slots) {a : Addr} {kA : ClassId} {n j : Int32} {x : Int64} {vs : List Value} {dv : Value} {i : Nat} (V : Arv Z h a kA .long n vs dv) (hj : ¬ j < 0 ∧ j < n) (hi : j.toNatClampNeg = i) (hl : i < vs.length) (hz : Z.heap.size ≤ a) (hws : a ∈ ws ∨ h0.size ≤ a) (hd : decode bytes pc = .ok (.lastore, 1)) (hp : pc + 1 = pc')
    (k : ∀ T' h' locs', St p l e R s m args below meth c Z own bytes nl ret nm h0 ws T' h' locs' cells slots → Wr h h' a j.toNatClampNeg (.long x) → Arv Z h' a kA .long n (vs.set i (.long x)) dv → Go p e below P T' (mkF m pc' Ls st)) : Go p e below P T (mkF m pc Ls (.long x :: .int j :: .ref a :: st)) := by
  subst hp
  obtain ⟨cl, A, q1, q2, q3, H, F⟩ := V
  obtain ⟨T', h', X', e', W, f⟩ := stJ S.X S.ex S.hZ S.eT A (j := j) (x := x) (inb_of q2 hj) (g := mkF m pc Ls (.long x :: .int j :: .ref a :: st)) rfl rfl (S.hd hd)
  exact (k T' h' _ (S.wrote X' e' W hz hws) W (Arv.set A q1 q2 q3 H F rfl W i hi hl)).of f
theorem Go.aastore (S : St p l e R s m args below meth c Z own bytes nl ret nm h0 ws T h locs cells slots) {a : Addr} {kA : ClassId} {ty : FieldType} {n j : Int32} {v : Value} {vs : List Value} {dv : Value} {i : Nat} (V : Arv Z h a kA ty n vs dv) (hty : ty.isReference = true) (hj : ¬ j < 0 ∧ j < n) (hi : j.toNatClampNeg = i) (hl : i < vs.length) (hfit : fits ty v = true) (F : Sto Z h a v) (hz : Z.heap.size ≤ a) (hws : a ∈ ws ∨ h0.size ≤ a) (hd : decode bytes pc = .ok (.aastore, 1)) (hp : pc + 1 = pc')
    (k : ∀ T' h' locs', St p l e R s m args below meth c Z own bytes nl ret nm h0 ws T' h' locs' cells slots → Wr h h' a j.toNatClampNeg v → Arv Z h' a kA ty n (vs.set i v) dv → Go p e below P T' (mkF m pc' Ls st)) : Go p e below P T (mkF m pc Ls (v :: .int j :: .ref a :: st)) := by
  subst hp
  obtain ⟨cl, A, q1, q2, q3, H, F'⟩ := V
  obtain ⟨T', h', X', e', W, f⟩ := stR S.X S.ex S.hZ S.eT A (j := j) (v := v) (inb_of q2 hj) hty F (g := mkF m pc Ls (v :: .int j :: .ref a :: st)) rfl rfl (S.hd hd)
  exact (k T' h' _ (S.wrote X' e' W hz hws) W (Arv.set A q1 q2 q3 H F' hfit W i hi hl)).of f
theorem Go.iaload (S : St p l e R s m args below meth c Z own bytes nl ret nm h0 ws T h locs cells slots) {a : Addr} {kA : ClassId} {n j : Int32} {v : Value} {vs : List Value} {dv : Value} (V : Arv Z h a kA .int n vs dv) (hj : ¬ j < 0 ∧ j < n) (hv : vs.getD j.toNatClampNeg dv = v) (hd : decode bytes pc = .ok (.iaload, 1)) (hp : pc + 1 = pc') (k : Go p e below P T (mkF m pc' Ls (v :: st))) : Go p e below P T (mkF m pc Ls (.int j :: .ref a :: st)) := by
  subst hp
  obtain ⟨cl, A, q1, q2, q3, H, F⟩ := V
  exact k.of fun t q => S.X.iaload S.ex (j := j) (v := v) (by rw [S.eT]; exact A.1) (State.isArrayOf_alike S.hZ.alike A.2.1) A.2.2 (inb_of q2 hj) (H.at (inb_of q2 hj) hv) (g := mkF m pc Ls (.int j :: .ref a :: st)) rfl rfl (S.hd hd) _ q
theorem Go.laload (S : St p l e R s m args below meth c Z own bytes nl ret nm h0 ws T h locs cells slots) {a : Addr} {kA : ClassId} {n j : Int32} {v : Value} {vs : List Value} {dv : Value} (V : Arv Z h a kA .long n vs dv) (hj : ¬ j < 0 ∧ j < n) (hv : vs.getD j.toNatClampNeg dv = v) (hd : decode bytes pc = .ok (.laload, 1)) (hp : pc + 1 = pc') (k : Go p e below P T (mkF m pc' Ls (v :: st))) : Go p e below P T (mkF m pc Ls (.int j :: .ref a :: st)) := by
  subst hp
  obtain ⟨cl, A, q1, q2, q3, H, F⟩ := V
  exact k.of fun t q => S.X.laload S.ex (j := j) (v := v) (by rw [S.eT]; exact A.1) (State.isArrayOf_alike S.hZ.alike A.2.1) A.2.2 (inb_of q2 hj) (H.at (inb_of q2 hj) hv) (g := mkF m pc Ls (.int j :: .ref a :: st)) rfl rfl (S.hd hd) _ q
theorem Go.caload (S : St p l e R s m args below meth c Z own bytes nl ret nm h0 ws T h locs cells slots) {a : Addr} {kA : ClassId} {n j : Int32} {v : Value} {vs : List Value} {dv : Value} (V : Arv Z h a kA .char n vs dv) (hj : ¬ j < 0 ∧ j < n) (hv : vs.getD j.toNatClampNeg dv = v) (hd : decode bytes pc = .ok (.caload, 1)) (hp : pc + 1 = pc') (k : Go p e below P T (mkF m pc' Ls (v :: st))) : Go p e below P T (mkF m pc Ls (.int j :: .ref a :: st)) := by
  subst hp
  obtain ⟨cl, A, q1, q2, q3, H, F⟩ := V
  exact k.of fun t q => S.X.caload S.ex (j := j) (v := v) (by rw [S.eT]; exact A.1) (State.isArrayOf_alike S.hZ.alike A.2.1) A.2.2 (inb_of q2 hj) (H.at (inb_of q2 hj) hv) (g := mkF m pc Ls (.int j :: .ref a :: st)) rfl rfl (S.hd hd) _ q
theorem Go.baload (S : St p l e R s m args below meth c Z own bytes nl ret nm h0 ws T h locs cells slots) {a : Addr} {kA : ClassId} {n j : Int32} {v : Value} {vs : List Value} {dv : Value} (V : Arv Z h a kA .byte n vs dv) (hj : ¬ j < 0 ∧ j < n) (hv : vs.getD j.toNatClampNeg dv = v) (hd : decode bytes pc = .ok (.baload, 1)) (hp : pc + 1 = pc') (k : Go p e below P T (mkF m pc' Ls (v :: st))) : Go p e below P T (mkF m pc Ls (.int j :: .ref a :: st)) := by
  subst hp
  obtain ⟨cl, A, q1, q2, q3, H, F⟩ := V
  exact k.of fun t q => S.X.baloadBytes S.ex (j := j) (v := v) (by rw [S.eT]; exact A.1) (State.isArrayOf_alike S.hZ.alike A.2.1) A.2.2 (inb_of q2 hj) (H.at (inb_of q2 hj) hv) (g := mkF m pc Ls (.int j :: .ref a :: st)) rfl rfl (S.hd hd) _ q
theorem Go.aaload (S : St p l e R s m args below meth c Z own bytes nl ret nm h0 ws T h locs cells slots) {a : Addr} {kA : ClassId} {ty : FieldType} {n j : Int32} {v : Value} {vs : List Value} {dv : Value} (V : Arv Z h a kA ty n vs dv) (hty : ty.isReference = true) (hj : ¬ j < 0 ∧ j < n) (hv : vs.getD j.toNatClampNeg dv = v) (hd : decode bytes pc = .ok (.aaload, 1)) (hp : pc + 1 = pc') (k : Go p e below P T (mkF m pc' Ls (v :: st))) : Go p e below P T (mkF m pc Ls (.int j :: .ref a :: st)) := by
  subst hp
  obtain ⟨cl, A, q1, q2, q3, H, F⟩ := V
  exact k.of fun t q => S.X.aaload S.ex (j := j) (v := v) (by rw [S.eT]; exact A.1) (State.isArrayOf_alike S.hZ.alike A.2.1) hty A.2.2 (inb_of q2 hj) (H.at (inb_of q2 hj) hv) (g := mkF m pc Ls (.int j :: .ref a :: st)) rfl rfl (S.hd hd) _ q
theorem Go.arraylength (S : St p l e R s m args below meth c Z own bytes nl ret nm h0 ws T h locs cells slots) {a : Addr} {kA : ClassId} {ty : FieldType} {n : Int32} {vs : List Value} {dv : Value} (V : Arv Z h a kA ty n vs dv) (hd : decode bytes pc = .ok (.arraylength, 1)) (hp : pc + 1 = pc') (k : Go p e below P T (mkF m pc' Ls (.int n :: st))) : Go p e below P T (mkF m pc Ls (.ref a :: st)) := by
  subst hp
  obtain ⟨cl, A, q1, q2, q3, H, F⟩ := V
  exact k.of fun t q => S.X.arraylength S.ex (by rw [S.eT]; exact A.1) (State.isArrayOf_alike S.hZ.alike A.2.1) (g := mkF m pc Ls (.ref a :: st)) rfl rfl (S.hd hd) _ (by rw [len_of q2 q3]; exact q)
theorem Go.initObject (S : St p l e R s m args below meth c Z own bytes nl ret nm h0 ws T h locs cells slots) {idx : Nat} {a : Addr} {W : Nat} (w1 : (Jvm.Cond.methodLink own idx Lib.objectInit).before a0 Z = true) (w2 : (Jvm.Cond.instanceMethod Lib.objectInit).before a0 Z = true) (w3 : (Jvm.Cond.code Lib.objectInit ⟨#[0xb1]⟩ 1 none).before a0 Z = true) (hd : decode bytes pc = .ok (.invokespecial idx, 3)) (hsz : Ls.size = nl) (hf : 1 ≤ R.frames) (hW : (st.map fun v => v.category).sum = W) (hl : W + 12 ≤ R.locals) (hp : pc + 3 = pc')
    (k : ∀ T', St p l e R s m args below meth c Z own bytes nl ret nm h0 ws T' h locs cells slots → Go p e below P T' (mkF m pc' Ls st)) : Go p e below P T (mkF m pc Ls (.ref a :: st)) := by
  subst hp
  obtain ⟨T', X', e', f⟩ := initO S.X S.ex S.hZ S.hown w1 w2 w3 S.eT (g := mkF m pc Ls (.ref a :: st)) rfl (hsz.trans S.hnl.symm) rfl (S.hd hd) hf (W := W) (by show 2 * 0 + _ ≤ _; rw [hW]; omega) hl
  exact (k T' (S.next X' e' S.fr S.keep S.ext)).of f
theorem Go.checkcast (S : St p l e R s m args below meth c Z own bytes nl ret nm h0 ws T h locs cells slots) {C : String} {index : Nat} {a : Addr} (w : (Jvm.Cond.classLink own index C).before a0 Z = true) (F : Ins Z h a C true) (hd : decode bytes pc = .ok (.checkcast index, 3)) (hp : pc + 3 = pc')
    (k : ∀ T', St p l e R s m args below meth c Z own bytes nl ret nm h0 ws T' h locs cells slots → Go p e below P T' (mkF m pc' Ls (.ref a :: st))) : Go p e below P T (mkF m pc Ls (.ref a :: st)) := by
  subst hp
  obtain ⟨T', X', e', f⟩ := castY S.X S.ex S.hZ S.hown w S.eT F (g := mkF m pc Ls (.ref a :: st)) rfl rfl (S.hd hd)
  exact (k T' (S.next X' e' S.fr S.keep S.ext)).of f
theorem Go.instanceofY (S : St p l e R s m args below meth c Z own bytes nl ret nm h0 ws T h locs cells slots) {C : String} {index : Nat} {a : Addr} (w : (Jvm.Cond.classLink own index C).before a0 Z = true) (F : Ins Z h a C true) (hd : decode bytes pc = .ok (.instanceof index, 3)) (hp : pc + 3 = pc')
    (k : ∀ T', St p l e R s m args below meth c Z own bytes nl ret nm h0 ws T' h locs cells slots → Go p e below P T' (mkF m pc' Ls (.int 1 :: st))) : Go p e below P T (mkF m pc Ls (.ref a :: st)) := by
  subst hp
  obtain ⟨T', X', e', f⟩ := instY S.X S.ex S.hZ S.hown w S.eT F (g := mkF m pc Ls (.ref a :: st)) rfl rfl (S.hd hd)
  exact (k T' (S.next X' e' S.fr S.keep S.ext)).of f
theorem Go.invokestatic (S : St p l e R s m args below meth c Z own bytes nl ret nm h0 ws T h locs cells slots) {y : MethodName} {bytes' : ByteArray} {nl' : Nat} {ret' : Option FieldType} {rm : Room} {as' : Array Value} {ws' : List Addr} {Q' : Option Value → Heap → Prop} {index W : Nat} {ps : List FieldType} {r : Option FieldType} {argsL : List Value} (M : OMeets l Z y bytes' nl' ret' rm as' h ws' Q') (w1 : (Jvm.Cond.methodLink own index y).before a0 Z = true) (w2 : (Jvm.Cond.static y).before a0 Z = true) (w3 : (Jvm.Cond.initialized y.cls).before a0 Z = true) (w4 : (Jvm.Cond.code y bytes' nl' ret').before a0 Z = true) (hy : y.cls ≠ "java/lang/invoke/MethodHandle" ∧ y.cls ≠ "java/lang/invoke/VarHandle") (hd : decode bytes pc = .ok (.invokestatic index, 3)) (hsz : Ls.size = nl) (hlen : parseMethodDescriptor y.desc = some ⟨ps, r⟩) (hn : argsL.length = ps.length) (has : argsL.toArray = as') {stk : List Value} (hstk : stk = argsL.reverse ++ st) (hf : rm.frames + 1 ≤ R.frames) (hW : (st.map fun v => v.category).sum = W) (hl : W + (nl' + 11) + rm.locals ≤ R.locals) (hc : cells + rm.cells ≤ R.cells) (hs : slots + rm.slots ≤ R.slots) (hws : ∀ x ∈ ws', x ∈ ws ∨ h0.size ≤ x) (hp : pc + 3 = pc')
    (k : ∀ v T' h' locs', St p l e R s m args below meth c Z own bytes nl ret nm h0 ws T' h' locs' (cells + rm.cells) (slots + rm.slots) → Keep h h' ws' → Q' v h' → Go p e below P T' (mkF m pc' Ls (v.toList ++ st))) : Go p e below P T (mkF m pc Ls stk) := by
  subst hp hstk
  obtain ⟨v, _, ⟨T', L', k', n'⟩, -, X', ⟨L, hQ, l1, l2, l3⟩, f⟩ := Jvm.LawKit.callS S.X S.ex S.hown (mvT S.hZ w1) (mvT S.hZ w2) (mvT S.hZ w3) (mvT S.hZ w4) hy (backOf (Q := fun v U L => Fr Z.heap.size L ∧ Keep h U ws' ∧ Ext Z.heap U ∧ Q' v U) (W := W) (M []) S.hZ w4 w3 hf hl) (g := mkF m pc Ls (argsL.reverse ++ st)) rfl (hsz.trans S.hnl.symm) (argsL := argsL) (rest := st) (lenOf hlen hn) rfl (by show 2 * 0 + _ ≤ _; rw [hW]; omega) (S.hd hd) (fun _ _ => ⟨has, S.eT, hc, hs⟩)
  dsimp only [Pt.U, Pt.locs, Pt.cells, Pt.slots] at X' l1 l2 l3 hQ f
  subst l1 l2 l3
  obtain ⟨N, K', E', q⟩ := hQ
  exact (k v T' T'.heap _ (S.next X' rfl (S.fr.app N) (S.keep.trans K' hws) E') K' q).of f
theorem Go.invokespecial (S : St p l e R s m args below meth c Z own bytes nl ret nm h0 ws T h locs cells slots) {y : MethodName} {bytes' : ByteArray} {nl' : Nat} {ret' : Option FieldType} {rm : Room} {as' : Array Value} {ws' : List Addr} {Q' : Option Value → Heap → Prop} {index W : Nat} {ps : List FieldType} {r : Option FieldType} {argsL : List Value} {a : Addr} (M : OMeets l Z y bytes' nl' ret' rm as' h ws' Q') (hi : y.name = "<init>") (hr0 : ret' = none) (w1 : (Jvm.Cond.methodLink own index y).before a0 Z = true) (w2 : (Jvm.Cond.instanceMethod y).before a0 Z = true) (w3 : (Jvm.Cond.initialized y.cls).before a0 Z = true) (w4 : (Jvm.Cond.code y bytes' nl' ret').before a0 Z = true) (hy : y.cls ≠ "java/lang/invoke/MethodHandle" ∧ y.cls ≠ "java/lang/invoke/VarHandle") (hd : decode bytes pc = .ok (.invokespecial index, 3)) (hsz : Ls.size = nl) (hlen : parseMethodDescriptor y.desc = some ⟨ps, r⟩) (hn : argsL.length = ps.length) (has : (.ref a :: argsL).toArray = as') {stk : List Value} (hstk : stk = argsL.reverse ++ .ref a :: st) (hf : rm.frames + 1 ≤ R.frames) (hW : (st.map fun v => v.category).sum = W) (hl : W + (nl' + 11) + rm.locals ≤ R.locals) (hc : cells + rm.cells ≤ R.cells) (hs : slots + rm.slots ≤ R.slots) (hws : ∀ x ∈ ws', x ∈ ws ∨ h0.size ≤ x) (hp : pc + 3 = pc')
    (k : ∀ v T' h' locs', St p l e R s m args below meth c Z own bytes nl ret nm h0 ws T' h' locs' (cells + rm.cells) (slots + rm.slots) → Keep h h' ws' → Q' v h' → Go p e below P T' (mkF m pc' Ls (v.toList ++ st))) : Go p e below P T (mkF m pc Ls stk) := by
  subst hp hstk hr0
  obtain ⟨v, _, ⟨T', L', k', n'⟩, -, X', ⟨L, hQ, l1, l2, l3⟩, f⟩ := S.X.specialBack S.ex hi S.hown (mvT S.hZ w1) (mvT S.hZ w2) (mvT S.hZ w4) hy (backOf (Q := fun v U L => Fr Z.heap.size L ∧ Keep h U ws' ∧ Ext Z.heap U ∧ Q' v U) (W := W) (M []) S.hZ w4 w3 hf hl) (g := mkF m pc Ls (argsL.reverse ++ .ref a :: st)) rfl (hsz.trans S.hnl.symm) (Steps.refl _) (a := a) (argsL := argsL) (rest := st) (lenOf hlen hn) rfl (by show 2 * 0 + _ ≤ _; rw [hW]; omega) (S.hd hd) (fun _ _ => ⟨has, S.eT, hc, hs⟩)
  dsimp only [Pt.U, Pt.locs, Pt.cells, Pt.slots] at X' l1 l2 l3 hQ f
  subst l1 l2 l3
  obtain ⟨N, K', E', q⟩ := hQ
  exact (k v T' T'.heap _ (S.next X' rfl (S.fr.app N) (S.keep.trans K' hws) E') K' q).of fun t q => f.trans q
theorem Go.invokevirtual (S : St p l e R s m args below meth c Z own bytes nl ret nm h0 ws T h locs cells slots) {y : MethodName} {bytes' : ByteArray} {nl' : Nat} {ret' : Option FieldType} {rm : Room} {as' : Array Value} {ws' : List Addr} {Q' : Option Value → Heap → Prop} {index W : Nat} {ps : List FieldType} {r : Option FieldType} {argsL : List Value} {a : Addr} {x : MethodName} {C : String} (M : OMeets l Z y bytes' nl' ret' rm as' h ws' Q') (w1 : (Jvm.Cond.methodLink own index x).before a0 Z = true) (w2 : (Jvm.Cond.declares x).before a0 Z = true) (hnf : NotFace s x) (w5 : (Jvm.Cond.selects C x y).before a0 Z = true) (w6 : (Jvm.Cond.instanceMethod y).before a0 Z = true) (w3 : (Jvm.Cond.initialized y.cls).before a0 Z = true) (w4 : (Jvm.Cond.code y bytes' nl' ret').before a0 Z = true) (hy : x.cls ≠ "java/lang/invoke/MethodHandle" ∧ x.cls ≠ "java/lang/invoke/VarHandle") (E : Exa Z h a C) (hd : decode bytes pc = .ok (.invokevirtual index, 3)) (hsz : Ls.size = nl) (hlen : parseMethodDescriptor x.desc = some ⟨ps, r⟩) (hn : argsL.length = ps.length) (has : (.ref a :: argsL).toArray = as') {stk : List Value} (hstk : stk = argsL.reverse ++ .ref a :: st) (hf : rm.frames + 1 ≤ R.frames) (hW : (st.map fun v => v.category).sum = W) (hl : W + (nl' + 11) + rm.locals ≤ R.locals) (hc : cells + rm.cells ≤ R.cells) (hs : slots + rm.slots ≤ R.slots) (hws : ∀ x ∈ ws', x ∈ ws ∨ h0.size ≤ x) (hp : pc + 3 = pc')
    (k : ∀ v T' h' locs', St p l e R s m args below meth c Z own bytes nl ret nm h0 ws T' h' locs' (cells + rm.cells) (slots + rm.slots) → Keep h h' ws' → Q' v h' → Go p e below P T' (mkF m pc' Ls (v.toList ++ st))) : Go p e below P T (mkF m pc Ls stk) := by
  subst hp hstk
  obtain ⟨cq, kq, q1, q2, q3⟩ := isOf S.hZ S.eT E
  obtain ⟨v, _, ⟨T', L', k', n'⟩, -, X', ⟨L, hQ, l1, l2, l3⟩, f⟩ := S.X.virtualBack S.ex S.hown (mvT S.hZ w1) (mvT S.hZ w2) hnf (mvT S.hZ w5) (mvT S.hZ w6) hy (backOf (Q := fun v U L => Fr Z.heap.size L ∧ Keep h U ws' ∧ Ext Z.heap U ∧ Q' v U) (W := W) (M []) S.hZ w4 w3 hf hl) q1 q3 (g := mkF m pc Ls (argsL.reverse ++ .ref a :: st)) rfl (hsz.trans S.hnl.symm) (Steps.refl _) (argsL := argsL) (rest := st) (lenOf hlen hn) rfl (by show 2 * 0 + _ ≤ _; rw [hW]; omega) (S.hd hd) (fun _ _ => ⟨has, S.eT, hc, hs⟩)
  dsimp only [Pt.U, Pt.locs, Pt.cells, Pt.slots] at X' l1 l2 l3 hQ f
  subst l1 l2 l3
  obtain ⟨N, K', E', q⟩ := hQ
  exact (k v T' T'.heap _ (S.next X' rfl (S.fr.app N) (S.keep.trans K' hws) E') K' q).of fun t q => f.trans q
theorem St.nf (S : St p l e R s m args below meth c Z own bytes nl ret nm h0 ws T h locs cells slots) {C : String} {x : MethodName} (w : (Jvm.Cond.selects C x x).before a0 Z = true) : NotFace s x := notFace_of_selects (args := #[]) (mvT S.hZ w)
theorem Go.invokevirtualUp (S : St p l e R s m args below meth c Z own bytes nl ret nm h0 ws T h locs cells slots) {y : MethodName} {bytes' : ByteArray} {nl' : Nat} {ret' : Option FieldType} {rm : Room} {as' : Array Value} {ws' : List Addr} {Q' : Option Value → Heap → Prop} {index W : Nat} {ps : List FieldType} {r : Option FieldType} {argsL : List Value} {a : Addr} {x : MethodName} {C owner : String} (M : OMeets l Z y bytes' nl' ret' rm as' h ws' Q') (w1 : (Jvm.Cond.methodLink own index x).before a0 Z = true) (w2 : (Jvm.Cond.declares ⟨owner, x.name, x.desc⟩).before a0 Z = true) (w7 : (Jvm.Cond.sameMethod x.cls owner x.name x.desc).before a0 Z = true) (w5 : (Jvm.Cond.selects C x y).before a0 Z = true) (w6 : (Jvm.Cond.instanceMethod y).before a0 Z = true) (w3 : (Jvm.Cond.initialized y.cls).before a0 Z = true) (w4 : (Jvm.Cond.code y bytes' nl' ret').before a0 Z = true) (hy : owner ≠ "java/lang/invoke/MethodHandle" ∧ owner ≠ "java/lang/invoke/VarHandle") (E : Exa Z h a C) (hd : decode bytes pc = .ok (.invokevirtual index, 3)) (hsz : Ls.size = nl) (hlen : parseMethodDescriptor x.desc = some ⟨ps, r⟩) (hn : argsL.length = ps.length) (has : (.ref a :: argsL).toArray = as') {stk : List Value} (hstk : stk = argsL.reverse ++ .ref a :: st) (hf : rm.frames + 1 ≤ R.frames) (hW : (st.map fun v => v.category).sum = W) (hl : W + (nl' + 11) + rm.locals ≤ R.locals) (hc : cells + rm.cells ≤ R.cells) (hs : slots + rm.slots ≤ R.slots) (hws : ∀ x ∈ ws', x ∈ ws ∨ h0.size ≤ x) (hp : pc + 3 = pc')
    (k : ∀ v T' h' locs', St p l e R s m args below meth c Z own bytes nl ret nm h0 ws T' h' locs' (cells + rm.cells) (slots + rm.slots) → Keep h h' ws' → Q' v h' → Go p e below P T' (mkF m pc' Ls (v.toList ++ st))) : Go p e below P T (mkF m pc Ls stk) := by
  subst hp hstk
  obtain ⟨cq, kq, q1, q2, q3⟩ := isOf S.hZ S.eT E
  obtain ⟨v, _, ⟨T', L', k', n'⟩, -, X', ⟨L, hQ, l1, l2, l3⟩, f⟩ := S.X.virtualBackUp S.ex S.hown (mvT S.hZ w1) (mvT S.hZ w7) (mvT S.hZ w2) hy (mvT S.hZ w5) (mvT S.hZ w6) (backOf (Q := fun v U L => Fr Z.heap.size L ∧ Keep h U ws' ∧ Ext Z.heap U ∧ Q' v U) (W := W) (M []) S.hZ w4 w3 hf hl) q1 q3 (g := mkF m pc Ls (argsL.reverse ++ .ref a :: st)) rfl (hsz.trans S.hnl.symm) (Steps.refl _) (argsL := argsL) (rest := st) (lenOf hlen hn) rfl (by show 2 * 0 + _ ≤ _; rw [hW]; omega) (S.hd hd) (fun _ _ => ⟨has, S.eT, hc, hs⟩)
  dsimp only [Pt.U, Pt.locs, Pt.cells, Pt.slots] at X' l1 l2 l3 hQ f
  subst l1 l2 l3
  obtain ⟨N, K', E', q⟩ := hQ
  exact (k v T' T'.heap _ (S.next X' rfl (S.fr.app N) (S.keep.trans K' hws) E') K' q).of fun t q => f.trans q
theorem Go.tableswitch (S : St p l e R s m args below meth c Z own bytes nl ret nm h0 ws T h locs cells slots) {dflt low high : Int} {offs : Array Int} {len : Nat} {o : Int} {i : Int32} (hd : decode bytes pc = .ok (.tableswitch dflt low high offs, len)) (hin : ¬ (i.toInt < low ∨ i.toInt > high)) (hoff : offs[(i.toInt - low).toNat]? = some o) (hp : (pc : Int) + o = (pc' : Int)) (k : Go p e below P T (mkF m pc' Ls st)) : Go p e below P T (mkF m pc Ls (.int i :: st)) :=
  k.of fun t q => XS.tswIn S.X.here S.ex rfl (pc0 := pc) rfl (S.hd hd) rfl hin hoff (off0 hp) (off1 hp) q
theorem Go.instanceofN (S : St p l e R s m args below meth c Z own bytes nl ret nm h0 ws T h locs cells slots) {C K : String} {index : Nat} {a : Addr} (w : (Jvm.Cond.classLink own index K).before a0 Z = true) (E : Exa Z h a C) (F : ∃ c t, Z.vm.findClass C = some c ∧ Z.vm.findClass K = some t ∧ Z.vm.assignable c t = false) (hd : decode bytes pc = .ok (.instanceof index, 3)) (hp : pc + 3 = pc')
    (k : ∀ T', St p l e R s m args below meth c Z own bytes nl ret nm h0 ws T' h locs cells slots → Go p e below P T' (mkF m pc' Ls (.int 0 :: st))) : Go p e below P T (mkF m pc Ls (.ref a :: st)) := by
  subst hp
  obtain ⟨T', X', e', f⟩ := instNo S.X S.ex S.hZ S.hown w S.eT E F (g := mkF m pc Ls (.ref a :: st)) rfl rfl (S.hd hd)
  exact (k T' (S.next X' e' S.fr S.keep S.ext)).of f
theorem Go.instanceofNull (S : St p l e R s m args below meth c Z own bytes nl ret nm h0 ws T h locs cells slots) {index : Nat} (hd : decode bytes pc = .ok (.instanceof index, 3)) (hp : pc + 3 = pc') (k : Go p e below P T (mkF m pc' Ls (.int 0 :: st))) : Go p e below P T (mkF m pc Ls (.null :: st)) := by
  subst hp
  exact k.of fun t q => S.X.instanceofNull S.ex (g := mkF m pc Ls (.null :: st)) rfl rfl (S.hd hd) _ q
theorem Go.checkcastNull (S : St p l e R s m args below meth c Z own bytes nl ret nm h0 ws T h locs cells slots) {index : Nat} (hd : decode bytes pc = .ok (.checkcast index, 3)) (hp : pc + 3 = pc') (k : Go p e below P T (mkF m pc' Ls (.null :: st))) : Go p e below P T (mkF m pc Ls (.null :: st)) := by
  subst hp
  exact k.of fun t q => S.X.checkcastNull S.ex (g := mkF m pc Ls (.null :: st)) rfl rfl (S.hd hd) _ q
theorem Go.aaloadA (S : St p l e R s m args below meth c Z own bytes nl ret nm h0 ws T h locs cells slots) {a : Addr} {cl : Cell} {ty : FieldType} {j : Int32} {v : Value} (A : Arr Z h a cl ty) (hty : ty.isReference = true) (hj : ¬ (j < 0 ∨ cl.slots.size ≤ j.toNatClampNeg)) (hv : cl.slots[j.toNatClampNeg]? = some v) (hd : decode bytes pc = .ok (.aaload, 1)) (hp : pc + 1 = pc') (k : Go p e below P T (mkF m pc' Ls (v :: st))) : Go p e below P T (mkF m pc Ls (.int j :: .ref a :: st)) := by
  subst hp
  exact k.of fun t q => S.X.aaload S.ex (j := j) (v := v) (by rw [S.eT]; exact A.1) (State.isArrayOf_alike S.hZ.alike A.2.1) hty A.2.2 hj hv (g := mkF m pc Ls (.int j :: .ref a :: st)) rfl rfl (S.hd hd) _ q
theorem Go.clone (S : St p l e R s m args below meth c Z own bytes nl ret nm h0 ws T h locs cells slots) {ad : String} {index : Nat} {a : Addr} {kA : ClassId} {ty : FieldType} {n : Int32} {vs : List Value} {dv : Value} {W cap : Nat} (w1 : (Jvm.Cond.methodLink own index ⟨ad, "clone", "()Ljava/lang/Object;"⟩).before a0 Z = true) (w2 : (Jvm.Cond.sameMethod ad "java/lang/Object" "clone" "()Ljava/lang/Object;").before a0 Z = true) (w3 : (Jvm.Cond.native ⟨"java/lang/Object", "clone", "()Ljava/lang/Object;"⟩).before a0 Z = true) (w4 : (Jvm.Cond.instanceMethod ⟨"java/lang/Object", "clone", "()Ljava/lang/Object;"⟩).before a0 Z = true) (w5 : (Jvm.Cond.selects ad ⟨ad, "clone", "()Ljava/lang/Object;"⟩ ⟨"java/lang/Object", "clone", "()Ljava/lang/Object;"⟩).before a0 Z = true) (w6 : (Jvm.Cond.castable ad "java/lang/Cloneable").before a0 Z = true)
    (V : Arv Z Z.heap a kA ty n vs dv) (hfit : Fit Z) (E : Exa Z Z.heap a ad) (hd : decode bytes pc = .ok (.invokevirtual index, 3)) (hsz : Ls.size = nl) (hf : 1 ≤ R.frames) (hW : (st.map fun v => v.category).sum = W) (hl : W + 14 ≤ R.locals) (hcap : n.toNatClampNeg ≤ cap) (hc : cells + 1 ≤ R.cells) (hsl : slots + cap ≤ R.slots) (hp : pc + 3 = pc')
    (k : ∀ T' h' b, St p l e R s m args below meth c Z own bytes nl ret nm h0 ws T' h' locs (cells + 1) (slots + cap) → Ext h h' → h.size = b → Arv Z h' b kA ty n vs dv → Exa Z h' b ad → Go p e below P T' (mkF m pc' Ls (.ref b :: st))) : Go p e below P T (mkF m pc Ls (.ref a :: st)) := by
  subst hp
  obtain ⟨cl, A, q1, q2, q3, H, F⟩ := V
  obtain ⟨T', h', X', e', E', A', EA, f⟩ := cloneA S.X S.ex S.hZ S.hown w1 w2 w3 w4 w5 w6 S.eT (A.ext S.ext) (E.ext S.ext) (FitC.start hfit A) (g := mkF m pc Ls (.ref a :: st)) rfl (hsz.trans S.hnl.symm) rfl (S.hd hd) hf (W := W) (by show 2 * 0 + _ ≤ _; rw [hW]; omega) hl (cap := cap) (by rw [q2]; exact hcap) hc hsl
  exact (k T' h' h.size (S.made X' e' E') E' rfl ⟨_, A', q1, q2, q3, H, F⟩ EA).of f
theorem Go.invokeinterface (S : St p l e R s m args below meth c Z own bytes nl ret nm h0 ws T h locs cells slots) {y : MethodName} {bytes' : ByteArray} {nl' : Nat} {ret' : Option FieldType} {rm : Room} {as' : Array Value} {ws' : List Addr} {Q' : Option Value → Heap → Prop} {index W : Nat} {ps : List FieldType} {r : Option FieldType} {argsL : List Value} {count : Nat} {a : Addr} {x : MethodName} {C : String} (M : OMeets l Z y bytes' nl' ret' rm as' h ws' Q') (w1 : (Jvm.Cond.methodLink own index x).before a0 Z = true) (w2 : (Jvm.Cond.declares x).before a0 Z = true) (w7 : (Jvm.Cond.interfaceMethod x.cls x.cls x.name x.desc).before a0 Z = true) (h7 : ((Jvm.Cond.interfaceMethod x.cls x.cls x.name x.desc).onTables && (Jvm.Cond.interfaceMethod x.cls x.cls x.name x.desc).keepsFace) = true) (w5 : (Jvm.Cond.selects C x y).before a0 Z = true) (w6 : (Jvm.Cond.instanceMethod y).before a0 Z = true) (w8 : (Jvm.Cond.publicMethod y).before a0 Z = true) (w9 : (Jvm.Cond.unhidden C x.name x.desc).before a0 Z = true) (w10 : (Jvm.Cond.castable C x.cls).before a0 Z = true) (w3 : (Jvm.Cond.initialized y.cls).before a0 Z = true) (w4 : (Jvm.Cond.code y bytes' nl' ret').before a0 Z = true) (hy : x.cls ≠ "java/lang/invoke/MethodHandle" ∧ x.cls ≠ "java/lang/invoke/VarHandle") (E : Exa Z h a C) (hd : decode bytes pc = .ok (.invokeinterface index count, 5)) (hsz : Ls.size = nl) (hlen : parseMethodDescriptor x.desc = some ⟨ps, r⟩) (hn : argsL.length = ps.length) (has : (.ref a :: argsL).toArray = as') {stk : List Value} (hstk : stk = argsL.reverse ++ .ref a :: st) (hf : rm.frames + 1 ≤ R.frames) (hW : (st.map fun v => v.category).sum = W) (hl : W + (nl' + 11) + rm.locals ≤ R.locals) (hc : cells + rm.cells ≤ R.cells) (hs : slots + rm.slots ≤ R.slots) (hws : ∀ x ∈ ws', x ∈ ws ∨ h0.size ≤ x) (hp : pc + 5 = pc')
    (k : ∀ v T' h' locs', St p l e R s m args below meth c Z own bytes nl ret nm h0 ws T' h' locs' (cells + rm.cells) (slots + rm.slots) → Keep h h' ws' → Q' v h' → Go p e below P T' (mkF m pc' Ls (v.toList ++ st))) : Go p e below P T (mkF m pc Ls stk) := by
  subst hp hstk
  obtain ⟨cq, kq, q1, q2, q3⟩ := isOf S.hZ S.eT E
  obtain ⟨v, _, ⟨T', L', k', n'⟩, -, X', ⟨L, hQ, l1, l2, l3⟩, f⟩ := S.X.interfaceBack S.ex S.hown (mvT S.hZ w1) (mvT S.hZ w2) (mvT S.hZ w7 h7) (mvT S.hZ w5) (mvT S.hZ w6) (mvT S.hZ w8) (mvT S.hZ w9) (mvT S.hZ w10) hy (backOf (Q := fun v U L => Fr Z.heap.size L ∧ Keep h U ws' ∧ Ext Z.heap U ∧ Q' v U) (W := W) (M []) S.hZ w4 w3 hf hl) q1 q2 q3 (g := mkF m pc Ls (argsL.reverse ++ .ref a :: st)) rfl (hsz.trans S.hnl.symm) (Steps.refl _) (argsL := argsL) (rest := st) (lenOf hlen hn) rfl (by show 2 * 0 + _ ≤ _; rw [hW]; omega) (S.hd hd) (fun _ _ => ⟨has, S.eT, hc, hs⟩)
  dsimp only [Pt.U, Pt.locs, Pt.cells, Pt.slots] at X' l1 l2 l3 hQ f
  subst l1 l2 l3
  obtain ⟨N, K', E', q⟩ := hQ
  exact (k v T' T'.heap _ (S.next X' rfl (S.fr.app N) (S.keep.trans K' hws) E') K' q).of fun t q => f.trans q
theorem Go.newarrayE (S : St p l e R s m args below meth c Z own bytes nl ret nm h0 ws T h locs cells slots) {aty : ArrayType} {n : Int32} {cap : Nat} {ty : FieldType} {dv : Value} {ad : String} (hty : newarray.typeOf aty = ty) (hdv : defaultValue ty = dv) (had : "[" ++ ty.toString = ad) (w : (Jvm.Cond.arrayClass ty).before a0 Z = true) (hd : decode bytes pc = .ok (.newarray aty, 2)) (hn : ¬ n < 0) (hcap : n.toNatClampNeg ≤ cap) (hb : cap * 8 ≤ 536870912) (hc : cells + 1 ≤ R.cells) (hl : slots + cap ≤ R.slots) (hp : pc + 2 = pc')
    (k : ∀ T' h' a cA, St p l e R s m args below meth c Z own bytes nl ret nm h0 ws T' h' locs (cells + 1) (slots + cap) → Ext h h' → h.size = a → Z.heap.size ≤ a → h0.size ≤ a → Arv Z h' a cA ty n (List.replicate cap dv) dv → Exa Z h' a ad → Go p e below P T' (mkF m pc' Ls (.ref a :: st))) : Go p e below P T (mkF m pc Ls (.int n :: st)) := by
  subst hp hty hdv
  obtain ⟨T', h', cA, X', e', E, A, XA, f⟩ := newPE S.X S.ex S.hZ w S.eT (g := mkF m pc Ls (.int n :: st)) rfl (S.hd hd) rfl hn hcap hb hc hl had
  exact (k T' h' h.size cA (S.made X' e' E) E rfl S.ext.1 S.keep.1 ((Arv.new A hn).pad (pad_rep [] _ cap)) XA).of f
theorem Go.anewarrayA (S : St p l e R s m args below meth c Z own bytes nl ret nm h0 ws T h locs cells slots) {C ad : String} {ty : FieldType} {index : Nat} {n : Int32} {cap : Nat} (hC : (FieldType.array ty).toString = C) (w1 : (Jvm.Cond.classLink own index C).before a0 Z = true) (w2 : (Jvm.Cond.arrayOver (.array ty)).before a0 Z = true) (had : "[" ++ C = ad) (hd : decode bytes pc = .ok (.anewarray index, 3)) (hn : ¬ n < 0) (hcap : n.toNatClampNeg ≤ cap) (hb : cap * 8 ≤ 536870912) (hc : cells + 1 ≤ R.cells) (hl : slots + cap ≤ R.slots) (hp : pc + 3 = pc')
    (k : ∀ T' h' a cA, St p l e R s m args below meth c Z own bytes nl ret nm h0 ws T' h' locs (cells + 1) (slots + cap) → Ext h h' → h.size = a → Z.heap.size ≤ a → h0.size ≤ a → Arv Z h' a cA (.array ty) n (List.replicate cap .null) .null → OvrA Z cA ty C → Go p e below P T' (mkF m pc' Ls (.ref a :: st))) : Go p e below P T (mkF m pc Ls (.int n :: st)) := by
  subst hp
  obtain ⟨T', h', cA, X', e', E, A, -, O, f⟩ := newRA S.X S.ex S.hZ S.hown hC w1 w2 S.eT (g := mkF m pc Ls (.int n :: st)) rfl (S.hd hd) rfl hn hcap hb hc hl had
  exact (k T' h' h.size cA (S.made X' e' E) E rfl S.ext.1 S.keep.1 ((Arv.new A hn).pad (pad_rep [] _ cap)) O).of f
theorem Go.invokeprivate (S : St p l e R s m args below meth c Z own bytes nl ret nm h0 ws T h locs cells slots) {y : MethodName} {bytes' : ByteArray} {nl' : Nat} {ret' : Option FieldType} {rm : Room} {as' : Array Value} {ws' : List Addr} {Q' : Option Value → Heap → Prop} {index W : Nat} {ps : List FieldType} {r : Option FieldType} {argsL : List Value} {a : Addr} {C : String} {kk : Nat} (M : OMeets l Z y bytes' nl' ret' rm as' h ws' Q') (w1 : (Jvm.Cond.methodLink own index y).before a0 Z = true) (w6 : (Jvm.Cond.instanceMethod y).before a0 Z = true) (w7 : (Jvm.Cond.privateMethod y).before a0 Z = true) (w8 : (Jvm.Cond.instantiable y.cls kk).before a0 Z = true) (w3 : (Jvm.Cond.initialized y.cls).before a0 Z = true) (w4 : (Jvm.Cond.code y bytes' nl' ret').before a0 Z = true) (hy : y.cls ≠ "java/lang/invoke/MethodHandle" ∧ y.cls ≠ "java/lang/invoke/VarHandle") (E : Exa Z h a C) (hd : decode bytes pc = .ok (.invokevirtual index, 3)) (hsz : Ls.size = nl) (hlen : parseMethodDescriptor y.desc = some ⟨ps, r⟩) (hn : argsL.length = ps.length) (has : (.ref a :: argsL).toArray = as') {stk : List Value} (hstk : stk = argsL.reverse ++ .ref a :: st) (hf : rm.frames + 1 ≤ R.frames) (hW : (st.map fun v => v.category).sum = W) (hl : W + (nl' + 11) + rm.locals ≤ R.locals) (hc : cells + rm.cells ≤ R.cells) (hs : slots + rm.slots ≤ R.slots) (hws : ∀ x ∈ ws', x ∈ ws ∨ h0.size ≤ x) (hp : pc + 3 = pc')
    (k : ∀ v T' h' locs', St p l e R s m args below meth c Z own bytes nl ret nm h0 ws T' h' locs' (cells + rm.cells) (slots + rm.slots) → Keep h h' ws' → Q' v h' → Go p e below P T' (mkF m pc' Ls (v.toList ++ st))) : Go p e below P T (mkF m pc Ls stk) := by
  subst hp hstk
  obtain ⟨cq, q1, q2⟩ := E.cell
  have hpr := Cond.privateMethod_at (mvP S.hZ w7 (args := args))
  have w8' : (Jvm.Cond.instantiable y.cls kk).before args s = true := mv S.hZ w8
  obtain ⟨ci, ki, i1, i2, -, i4, -⟩ := Cond.instantiable_spec w8'
  have hsel := selects_self_of_private i1 i2 (Bool.or_eq_false_iff.mp i4).1 hpr (mvT S.hZ w6 (args := args)) hy
  obtain ⟨v, _, ⟨T', L', k', n'⟩, -, X', ⟨L, hQ, l1, l2, l3⟩, f⟩ := S.X.privateBack S.ex S.hown (mvT S.hZ w1) (mvT S.hZ w6) hsel hpr (mvT S.hZ w4) hy (backOf (Q := fun v U L => Fr Z.heap.size L ∧ Keep h U ws' ∧ Ext Z.heap U ∧ Q' v U) (W := W) (M []) S.hZ w4 w3 hf hl) (g := mkF m pc Ls (argsL.reverse ++ .ref a :: st)) rfl (hsz.trans S.hnl.symm) (Steps.refl _) (a := a) (by rw [S.eT]; exact q1) q2 (argsL := argsL) (rest := st) (lenOf hlen hn) rfl (by show 2 * 0 + _ ≤ _; rw [hW]; omega) (S.hd hd) (fun _ _ => ⟨has, S.eT, hc, hs⟩)
  dsimp only [Pt.U, Pt.locs, Pt.cells, Pt.slots] at X' l1 l2 l3 hQ f
  subst l1 l2 l3
  obtain ⟨N, K', E', q⟩ := hQ
  exact (k v T' T'.heap _ (S.next X' rfl (S.fr.app N) (S.keep.trans K' hws) E') K' q).of fun t q => f.trans q
theorem own_face {Z : State} {a0 : Array Value} {C : String} {x : MethodName} (K : String) (hK : x.cls = K) (w : (Jvm.Cond.selects C x x).before a0 Z = true) (w' : (Jvm.Cond.instanceMethod x).before a0 Z = true) : ∃ c k, Z.vm.findClass K = some c ∧ Z.vm.classes[c]? = some k ∧ k.isInterface = false := by
  subst hK
  obtain ⟨r0, mm, hn, -⟩ := Cond.instanceMethod_spec w'
  obtain ⟨k, h1, h2⟩ := notFace_of_selects w r0 hn
  exact ⟨r0.cls, k, findClass_of_methodNamed hn, h1, h2⟩
theorem own_nfx {s : State} {y : MethodName} (F : ∃ c k, s.vm.findClass y.cls = some c ∧ s.vm.classes[c]? = some k ∧ k.isInterface = false) : NotFace s y := fun r0 hn => by
  obtain ⟨c, k, h1, h2, h3⟩ := F
  cases (findClass_of_methodNamed hn).symm.trans h1
  exact ⟨k, h2, h3⟩
theorem Exa.nex {Z : State} {h : Heap} {a b : Addr} {C D : String} (X : Exa Z h a C) (Y : Exa Z h b D) (hn : C ≠ D) : a ≠ b := fun e => by
  subst e
  obtain ⟨c1, k1, e1, e2, -⟩ := X
  obtain ⟨c2, k2, f1, f2, -⟩ := Y
  cases e1.symm.trans f1
  exact ids_ne e2 f2 hn rfl
theorem Arv.nez {Z : State} {h : Heap} {a b : Addr} {k k' : ClassId} {ty ty' : FieldType} {z z' : Int32} {vs vs' : List Value} {dv dv' : Value} (V : Arv Z h a k ty z vs dv) (U : Arv Z h b k' ty' z' vs' dv') (hn : z.toNatClampNeg ≠ z'.toNatClampNeg) : a ≠ b := fun e => by
  subst e
  obtain ⟨c1, X1, -, s1, -⟩ := V
  obtain ⟨c2, X2, -, s2, -⟩ := U
  cases X1.1.symm.trans X2.1
  exact hn (s1.symm.trans s2)
theorem own_sameM {Z : State} {a0 : Array Value} {y : MethodName} (F : ∃ c k, Z.vm.findClass y.cls = some c ∧ Z.vm.classes[c]? = some k ∧ k.isInterface = false) (w : (Jvm.Cond.instanceMethod y).before a0 Z = true) (hy : y.cls ≠ "java/lang/invoke/MethodHandle" ∧ y.cls ≠ "java/lang/invoke/VarHandle") : (Jvm.Cond.sameMethod y.cls y.cls y.name y.desc).before a0 Z = true := by
  obtain ⟨c, k, h1, h2, h3⟩ := F
  obtain ⟨r0, mm, hn, -⟩ := Cond.instanceMethod_spec w
  have hf : Z.methodFound? y.cls y.name y.desc = some r0 := State.methodFound?_of_named hn hy
  have hn' : Z.methodNamed? ⟨y.cls, y.name, y.desc⟩ = some r0 := hn
  simp [Cond.before, Cond.holds, Cond.value, h1, hf, hn', h2, h3]
theorem Go.invokesuper (S : St p l e R s m args below meth c Z own bytes nl ret nm h0 ws T h locs cells slots) {y : MethodName} {bytes' : ByteArray} {nl' : Nat} {ret' : Option FieldType} {rm : Room} {as' : Array Value} {ws' : List Addr} {Q' : Option Value → Heap → Prop} {index W : Nat} {ps : List FieldType} {r : Option FieldType} {argsL : List Value} {a : Addr} {C : String} (M : OMeets l Z y bytes' nl' ret' rm as' h ws' Q') (w1 : (Jvm.Cond.methodLink own index y).before a0 Z = true) (F : ∃ c k, Z.vm.findClass y.cls = some c ∧ Z.vm.classes[c]? = some k ∧ k.isInterface = false) (w6 : (Jvm.Cond.instanceMethod y).before a0 Z = true) (w7 : (Jvm.Cond.superclass own y.cls).before a0 Z = true) (hni : y.name ≠ "<init>") (w3 : (Jvm.Cond.initialized y.cls).before a0 Z = true) (w4 : (Jvm.Cond.code y bytes' nl' ret').before a0 Z = true) (hy : y.cls ≠ "java/lang/invoke/MethodHandle" ∧ y.cls ≠ "java/lang/invoke/VarHandle") (E : Exa Z h a C) (hd : decode bytes pc = .ok (.invokespecial index, 3)) (hsz : Ls.size = nl) (hlen : parseMethodDescriptor y.desc = some ⟨ps, r⟩) (hn : argsL.length = ps.length) (has : (.ref a :: argsL).toArray = as') {stk : List Value} (hstk : stk = argsL.reverse ++ .ref a :: st) (hf : rm.frames + 1 ≤ R.frames) (hW : (st.map fun v => v.category).sum = W) (hl : W + (nl' + 11) + rm.locals ≤ R.locals) (hc : cells + rm.cells ≤ R.cells) (hs : slots + rm.slots ≤ R.slots) (hws : ∀ x ∈ ws', x ∈ ws ∨ h0.size ≤ x) (hp : pc + 3 = pc')
    (k : ∀ v T' h' locs', St p l e R s m args below meth c Z own bytes nl ret nm h0 ws T' h' locs' (cells + rm.cells) (slots + rm.slots) → Keep h h' ws' → Q' v h' → Go p e below P T' (mkF m pc' Ls (v.toList ++ st))) : Go p e below P T (mkF m pc Ls stk) := by
  subst hp hstk
  obtain ⟨v, _, ⟨T', L', k', n'⟩, -, X', ⟨L, hQ, l1, l2, l3⟩, f⟩ := superBack S.X S.ex S.hZ S.hown w1 (own_sameM F w6 hy) w6 w7 hni (backOf (Q := fun v U L => Fr Z.heap.size L ∧ Keep h U ws' ∧ Ext Z.heap U ∧ Q' v U) (W := W) (M []) S.hZ w4 w3 hf hl) S.eT (Ins.self E) (g := mkF m pc Ls (argsL.reverse ++ .ref a :: st)) rfl (hsz.trans S.hnl.symm) w4 (argsL := argsL) (rest := st) (lenOf hlen hn) rfl (by show 2 * 0 + _ ≤ _; rw [hW]; omega) (S.hd hd) (fun _ _ => ⟨has, S.eT, hc, hs⟩)
  dsimp only [Pt.U, Pt.locs, Pt.cells, Pt.slots] at X' l1 l2 l3 hQ f
  subst l1 l2 l3
  obtain ⟨N, K', E', q⟩ := hQ
  exact (k v T' T'.heap _ (S.next X' rfl (S.fr.app N) (S.keep.trans K' hws) E') K' q).of fun t q => f.trans q
theorem Go.invokeprivateF (S : St p l e R s m args below meth c Z own bytes nl ret nm h0 ws T h locs cells slots) {y : MethodName} {bytes' : ByteArray} {nl' : Nat} {ret' : Option FieldType} {rm : Room} {as' : Array Value} {ws' : List Addr} {Q' : Option Value → Heap → Prop} {index W : Nat} {ps : List FieldType} {r : Option FieldType} {argsL : List Value} {a : Addr} {C : String} (M : OMeets l Z y bytes' nl' ret' rm as' h ws' Q') (w1 : (Jvm.Cond.methodLink own index y).before a0 Z = true) (w6 : (Jvm.Cond.instanceMethod y).before a0 Z = true) (w7 : (Jvm.Cond.privateMethod y).before a0 Z = true) (F : ∃ c k, s.vm.findClass y.cls = some c ∧ s.vm.classes[c]? = some k ∧ k.isInterface = false) (w3 : (Jvm.Cond.initialized y.cls).before a0 Z = true) (w4 : (Jvm.Cond.code y bytes' nl' ret').before a0 Z = true) (hy : y.cls ≠ "java/lang/invoke/MethodHandle" ∧ y.cls ≠ "java/lang/invoke/VarHandle") (E : Exa Z h a C) (hd : decode bytes pc = .ok (.invokevirtual index, 3)) (hsz : Ls.size = nl) (hlen : parseMethodDescriptor y.desc = some ⟨ps, r⟩) (hn : argsL.length = ps.length) (has : (.ref a :: argsL).toArray = as') {stk : List Value} (hstk : stk = argsL.reverse ++ .ref a :: st) (hf : rm.frames + 1 ≤ R.frames) (hW : (st.map fun v => v.category).sum = W) (hl : W + (nl' + 11) + rm.locals ≤ R.locals) (hc : cells + rm.cells ≤ R.cells) (hs : slots + rm.slots ≤ R.slots) (hws : ∀ x ∈ ws', x ∈ ws ∨ h0.size ≤ x) (hp : pc + 3 = pc')
    (k : ∀ v T' h' locs', St p l e R s m args below meth c Z own bytes nl ret nm h0 ws T' h' locs' (cells + rm.cells) (slots + rm.slots) → Keep h h' ws' → Q' v h' → Go p e below P T' (mkF m pc' Ls (v.toList ++ st))) : Go p e below P T (mkF m pc Ls stk) := by
  subst hp hstk
  obtain ⟨cq, q1, q2⟩ := E.cell
  have hpr := Cond.privateMethod_at (mvP S.hZ w7 (args := args))
  obtain ⟨ci, ki, i1, i2, i4⟩ := F
  have hsel := selects_self_of_private i1 i2 i4 hpr (mvT S.hZ w6 (args := args)) hy
  obtain ⟨v, _, ⟨T', L', k', n'⟩, -, X', ⟨L, hQ, l1, l2, l3⟩, f⟩ := S.X.privateBack S.ex S.hown (mvT S.hZ w1) (mvT S.hZ w6) hsel hpr (mvT S.hZ w4) hy (backOf (Q := fun v U L => Fr Z.heap.size L ∧ Keep h U ws' ∧ Ext Z.heap U ∧ Q' v U) (W := W) (M []) S.hZ w4 w3 hf hl) (g := mkF m pc Ls (argsL.reverse ++ .ref a :: st)) rfl (hsz.trans S.hnl.symm) (Steps.refl _) (a := a) (by rw [S.eT]; exact q1) q2 (argsL := argsL) (rest := st) (lenOf hlen hn) rfl (by show 2 * 0 + _ ≤ _; rw [hW]; omega) (S.hd hd) (fun _ _ => ⟨has, S.eT, hc, hs⟩)
  dsimp only [Pt.U, Pt.locs, Pt.cells, Pt.slots] at X' l1 l2 l3 hQ f
  subst l1 l2 l3
  obtain ⟨N, K', E', q⟩ := hQ
  exact (k v T' T'.heap _ (S.next X' rfl (S.fr.app N) (S.keep.trans K' hws) E') K' q).of fun t q => f.trans q
theorem St.face (S : St p l e R s m args below meth c Z own bytes nl ret nm h0 ws T h locs cells slots) {C : String} {x : MethodName} (K : String) (hK : x.cls = K) (w : (Jvm.Cond.selects C x x).before a0 Z = true) (w' : (Jvm.Cond.instanceMethod x).before a0 Z = true) : ∃ c k, s.vm.findClass K = some c ∧ s.vm.classes[c]? = some k ∧ k.isInterface = false :=
  own_face (a0 := args) K hK (mvT S.hZ w) (mvT S.hZ w')
/-- System.arraycopy of bytes -/
theorem Go.arraycopyB (S : St p l e R s m args below meth c Z own bytes nl ret nm h0 ws T h locs cells slots) {index W : Nat} {a b : Addr} {k1 k2 : ClassId} {z z' sp dp nn : Int32} {vs vd us ue : List Value} {dv dd : Value} (w1 : (Jvm.Cond.methodLink own index Jvm.Stand.acN).before a0 Z = true) (w2 : (Jvm.Cond.native Jvm.Stand.acN).before a0 Z = true) (w3 : (Jvm.Cond.static Jvm.Stand.acN).before a0 Z = true) (w4 : (Jvm.Cond.initialized "java/lang/System").before a0 Z = true) (A : Arv Z h a k1 .byte z vs dv) (B : Arv Z h b k2 .byte z' vd dd)
    (h1 : ¬ sp < 0) (h2 : ¬ dp < 0) (h3 : ¬ nn < 0) (h4 : sp.toNatClampNeg + nn.toNatClampNeg ≤ z.toNatClampNeg) (h5 : dp.toNatClampNeg + nn.toNatClampNeg ≤ z'.toNatClampNeg) (hus : us = (List.range nn.toNatClampNeg).map fun i => vs.getD (sp.toNatClampNeg + i) dv) (hl : dp.toNatClampNeg + nn.toNatClampNeg ≤ vd.length) (hue : vd.take dp.toNatClampNeg ++ us ++ vd.drop (dp.toNatClampNeg + nn.toNatClampNeg) = ue) (hz : Z.heap.size ≤ b) (hws : b ∈ ws ∨ h0.size ≤ b)
    (hd : decode bytes pc = .ok (.invokestatic index, 3)) (hsz : Ls.size = nl) (hf : 1 ≤ R.frames) (hW : (st.map fun v => v.category).sum = W) (hlo : W + (nativeFrameWords "java/lang/System" "arraycopy" 5 + 11) ≤ R.locals) (hp : pc + 3 = pc')
    (k : ∀ T' h' locs', St p l e R s m args below meth c Z own bytes nl ret nm h0 ws T' h' locs' cells slots → Keep h h' [b] → Arv Z h' b k2 .byte z' ue dd → Go p e below P T' (mkF m pc' Ls st)) : Go p e below P T (mkF m pc Ls (.int nn :: .int dp :: .ref b :: .int sp :: .ref a :: st)) := by
  subst hp hue
  obtain ⟨T', h', L, X', e', N', K', V', f⟩ := cpA S.X S.ex S.hZ S.hown w1 w2 w3 w4 S.eT A B (Or.inl ⟨rfl, rfl⟩) h1 h2 h3 h4 h5 hus hl S.fr hz (g := mkF m pc Ls (.int nn :: .int dp :: .ref b :: .int sp :: .ref a :: st)) rfl (hsz.trans S.hnl.symm) rfl (S.hd hd) hf (W := W) (by show 2 * 0 + _ ≤ _; rw [hW]; omega) hlo
  have E' : Ext Z.heap h' := ⟨Nat.le_trans S.ext.1 K'.1, fun x c q => K'.2.1 x c (S.ext.2 x c q) (fun z => by
    have e1 := List.mem_singleton.mp z
    have e2 := (Array.getElem?_eq_some_iff.mp q).1
    rw [e1] at e2
    exact Nat.lt_irrefl _ (Nat.lt_of_lt_of_le e2 hz))⟩
  exact (k T' h' L ⟨S.1, X', e', N', S.keep.trans K' (fun x hx => by rw [List.mem_singleton.mp hx]; exact hws), E'⟩ K' V').of f
theorem OMeets.body {y : MethodName} {Q : Option Value → Heap → Prop} {as : Array Value} (hpl : plainFor y = true) (hE : Ext Z.heap h0) (Ls : Array Slot) (hef : ∀ m : MethodId, entryFrame m as nl = mkF m 0 Ls [])
    (H : ∀ p e s m below meth c T, St p l e R s m as below meth c Z y.cls bytes nl ret y.name h0 ws T h0 [] 0 0 → Go p e below (PostOf Z s h0 ws R.cells R.slots Q) T (mkF m 0 Ls [])) : OMeets l Z y bytes nl ret R as h0 ws Q := by
  intro wd
  refine MetFree.of_bodySF hpl hisR ?_
  intro p e s m args below meth c s₁ Bd hml hP _
  obtain ⟨rfl, hZ, hh⟩ := hP
  have X0 : Stand p l e R s m args below meth c s₁ [] 0 0 := Stand.of_body Bd
  have e0 : s₁.heap = h0 := by rw [← hh, Bd.state]; rfl
  have hg := H p e s m below meth c s₁ ⟨⟨Bd.exec, Bd.bytes, hml, hZ, findClass_of_methodNamed Bd.named, Bd.returns, Bd.notSynchronized, (name_of_methodNamed Bd.named Bd.method).1⟩, X0, e0, Fr.nil _, Keep.refl _ _, hE⟩
  rw [hef]
  exact hg
end Steps
end Jvm.Own
namespace Jvm.Own
open Sem ClassFile Op Lib Jvm.Stand Jvm.Free Jvm.LawKit Jvm.RoadKit
section Doubles
variable {p : Program} {l : Launch} {e : Env} {R : Room} {s : State} {m : MethodId} {args : Array Value} {below : List Frame} {meth : Method} {c : Code} {Z : State} {own : String} {bytes : ByteArray} {nl : Nat} {ret : Option FieldType} {nm : String}
  {h0 : Heap} {ws : List Addr} {T : State} {h : Heap} {locs : List Loc} {cells slots : Nat} {P : Outcome → State → Prop} {pc pc' : Nat} {Ls Ls' : Array Slot} {st : List Value} {a0 : Array Value}
theorem Go.dloadN (S : St p l e R s m args below meth c Z own bytes nl ret nm h0 ws T h locs cells slots) {k : Fin 4} {v : UInt64} (hd : decode bytes pc = .ok (.dload_n k, 1)) (hl : Ls[k.val]? = some (.val (.double v))) (hp : pc + 1 = pc') (k : Go p e below P T (mkF m pc' Ls (.double v :: st))) : Go p e below P T (mkF m pc Ls st) := by
  subst hp
  exact k.of fun t q => XS.dloadN S.X.here S.ex rfl (S.hd hd) hl q
theorem Go.dload (S : St p l e R s m args below meth c Z own bytes nl ret nm h0 ws T h locs cells slots) {k : Nat} {v : UInt64} (hd : decode bytes pc = .ok (.dload k, 2)) (hl : Ls[k]? = some (.val (.double v))) (hp : pc + 2 = pc') (k : Go p e below P T (mkF m pc' Ls (.double v :: st))) : Go p e below P T (mkF m pc Ls st) := by
  subst hp
  exact k.of fun t q => XS.dload S.X.here S.ex rfl (S.hd hd) hl q
theorem Go.dstoreN (S : St p l e R s m args below meth c Z own bytes nl ret nm h0 ws T h locs cells slots) {k : Fin 4} {v : UInt64} (hd : decode bytes pc = .ok (.dstore_n k, 1)) (hl : storeLocals Ls k.val (.double v) = some Ls') (hp : pc + 1 = pc') (k : Go p e below P T (mkF m pc' Ls' st)) : Go p e below P T (mkF m pc Ls (.double v :: st)) := by
  subst hp
  exact k.of fun t q => XS.dstoreN S.X.here S.ex rfl (S.hd hd) rfl hl q
theorem Go.dstore (S : St p l e R s m args below meth c Z own bytes nl ret nm h0 ws T h locs cells slots) {k : Nat} {v : UInt64} (hd : decode bytes pc = .ok (.dstore k, 2)) (hl : storeLocals Ls k (.double v) = some Ls') (hp : pc + 2 = pc') (k : Go p e below P T (mkF m pc' Ls' st)) : Go p e below P T (mkF m pc Ls (.double v :: st)) := by
  subst hp
  exact k.of fun t q => XS.dstore S.X.here S.ex rfl (S.hd hd) rfl hl q
theorem Go.i2d (S : St p l e R s m args below meth c Z own bytes nl ret nm h0 ws T h locs cells slots) {x : Int32} (hd : decode bytes pc = .ok (.i2d, 1)) (hp : pc + 1 = pc') (k : Go p e below P T (mkF m pc' Ls (.double (FP.l2d x.toInt64) :: st))) : Go p e below P T (mkF m pc Ls (.int x :: st)) := by
  subst hp
  exact k.of fun t q => XS.i2dS S.X.here S.ex rfl (S.hd hd) rfl (i2d_w x) q
theorem Go.l2d (S : St p l e R s m args below meth c Z own bytes nl ret nm h0 ws T h locs cells slots) {x : Int64} (hd : decode bytes pc = .ok (.l2d, 1)) (hp : pc + 1 = pc') (k : Go p e below P T (mkF m pc' Ls (.double (FP.l2d x) :: st))) : Go p e below P T (mkF m pc Ls (.long x :: st)) := by
  subst hp
  exact k.of fun t q => XS.l2dS S.X.here S.ex rfl (S.hd hd) rfl rfl q
theorem Go.dcmp_eq (S : St p l e R s m args below meth c Z own bytes nl ret nm h0 ws T h locs cells slots) {x y : Int64} {op : CmpOp} {o : Int} {pt pc1 : Nat} (bx : B53 x) (hy : B53 y) (hd1 : decode bytes pc = .ok (.dcmp op, 1)) (h1 : pc + 1 = pc1) (hd : decode bytes pc1 = .ok (.ifCond .eq o, 3)) (ht : (pc1 : Int) + o = (pt : Int)) (hf : pc1 + 3 = pc') (ky : x = y → Go p e below P T (mkF m pt Ls st)) (kn : ¬ x = y → Go p e below P T (mkF m pc' Ls st)) : Go p e below P T (mkF m pc Ls (.double (FP.l2d y) :: .double (FP.l2d x) :: st)) := by
  subst hf h1
  by_cases q : x = y
  · exact (ky q).of fun t q' => XS.dcmpS S.X.here S.ex rfl (S.hd hd1) rfl (dcmpV_w bx hy op) (XS.ifYes S.X.here S.ex rfl (pc0 := pc + 1) rfl (S.hd hd) rfl (Jvm.Free.XT.ll_eq_t q) (off0 ht) (off1 ht) q')
  · exact (kn q).of fun t q' => XS.dcmpS S.X.here S.ex rfl (S.hd hd1) rfl (dcmpV_w bx hy op) (XS.ifNo S.X.here S.ex rfl (S.hd hd) rfl (Jvm.Free.XT.ll_eq_f q) q')
theorem Go.dcmp_ne (S : St p l e R s m args below meth c Z own bytes nl ret nm h0 ws T h locs cells slots) {x y : Int64} {op : CmpOp} {o : Int} {pt pc1 : Nat} (bx : B53 x) (hy : B53 y) (hd1 : decode bytes pc = .ok (.dcmp op, 1)) (h1 : pc + 1 = pc1) (hd : decode bytes pc1 = .ok (.ifCond .ne o, 3)) (ht : (pc1 : Int) + o = (pt : Int)) (hf : pc1 + 3 = pc') (ky : ¬ x = y → Go p e below P T (mkF m pt Ls st)) (kn : x = y → Go p e below P T (mkF m pc' Ls st)) : Go p e below P T (mkF m pc Ls (.double (FP.l2d y) :: .double (FP.l2d x) :: st)) := by
  subst hf h1
  by_cases q : x = y
  · exact (kn q).of fun t q' => XS.dcmpS S.X.here S.ex rfl (S.hd hd1) rfl (dcmpV_w bx hy op) (XS.ifNo S.X.here S.ex rfl (S.hd hd) rfl (Jvm.Free.XT.ll_ne_f q) q')
  · exact (ky q).of fun t q' => XS.dcmpS S.X.here S.ex rfl (S.hd hd1) rfl (dcmpV_w bx hy op) (XS.ifYes S.X.here S.ex rfl (pc0 := pc + 1) rfl (S.hd hd) rfl (Jvm.Free.XT.ll_ne_t q) (off0 ht) (off1 ht) q')
theorem Go.dcmp_lt (S : St p l e R s m args below meth c Z own bytes nl ret nm h0 ws T h locs cells slots) {x y : Int64} {op : CmpOp} {o : Int} {pt pc1 : Nat} (bx : B53 x) (hy : B53 y) (hd1 : decode bytes pc = .ok (.dcmp op, 1)) (h1 : pc + 1 = pc1) (hd : decode bytes pc1 = .ok (.ifCond .lt o, 3)) (ht : (pc1 : Int) + o = (pt : Int)) (hf : pc1 + 3 = pc') (ky : x < y → Go p e below P T (mkF m pt Ls st)) (kn : ¬ x < y → Go p e below P T (mkF m pc' Ls st)) : Go p e below P T (mkF m pc Ls (.double (FP.l2d y) :: .double (FP.l2d x) :: st)) := by
  subst hf h1
  by_cases q : x < y
  · exact (ky q).of fun t q' => XS.dcmpS S.X.here S.ex rfl (S.hd hd1) rfl (dcmpV_w bx hy op) (XS.ifYes S.X.here S.ex rfl (pc0 := pc + 1) rfl (S.hd hd) rfl (Jvm.Free.XT.ll_lt_t q) (off0 ht) (off1 ht) q')
  · exact (kn q).of fun t q' => XS.dcmpS S.X.here S.ex rfl (S.hd hd1) rfl (dcmpV_w bx hy op) (XS.ifNo S.X.here S.ex rfl (S.hd hd) rfl (Jvm.Free.XT.ll_lt_f q) q')
theorem Go.dcmp_ge (S : St p l e R s m args below meth c Z own bytes nl ret nm h0 ws T h locs cells slots) {x y : Int64} {op : CmpOp} {o : Int} {pt pc1 : Nat} (bx : B53 x) (hy : B53 y) (hd1 : decode bytes pc = .ok (.dcmp op, 1)) (h1 : pc + 1 = pc1) (hd : decode bytes pc1 = .ok (.ifCond .ge o, 3)) (ht : (pc1 : Int) + o = (pt : Int)) (hf : pc1 + 3 = pc') (ky : ¬ x < y → Go p e below P T (mkF m pt Ls st)) (kn : x < y → Go p e below P T (mkF m pc' Ls st)) : Go p e below P T (mkF m pc Ls (.double (FP.l2d y) :: .double (FP.l2d x) :: st)) := by
  subst hf h1
  by_cases q : x < y
  · exact (kn q).of fun t q' => XS.dcmpS S.X.here S.ex rfl (S.hd hd1) rfl (dcmpV_w bx hy op) (XS.ifNo S.X.here S.ex rfl (S.hd hd) rfl (Jvm.Free.XT.ll_ge_f q) q')
  · exact (ky q).of fun t q' => XS.dcmpS S.X.here S.ex rfl (S.hd hd1) rfl (dcmpV_w bx hy op) (XS.ifYes S.X.here S.ex rfl (pc0 := pc + 1) rfl (S.hd hd) rfl (Jvm.Free.XT.ll_ge_t q) (off0 ht) (off1 ht) q')
theorem Go.dcmp_gt (S : St p l e R s m args below meth c Z own bytes nl ret nm h0 ws T h locs cells slots) {x y : Int64} {op : CmpOp} {o : Int} {pt pc1 : Nat} (bx : B53 x) (hy : B53 y) (hd1 : decode bytes pc = .ok (.dcmp op, 1)) (h1 : pc + 1 = pc1) (hd : decode bytes pc1 = .ok (.ifCond .gt o, 3)) (ht : (pc1 : Int) + o = (pt : Int)) (hf : pc1 + 3 = pc') (ky : y < x → Go p e below P T (mkF m pt Ls st)) (kn : ¬ y < x → Go p e below P T (mkF m pc' Ls st)) : Go p e below P T (mkF m pc Ls (.double (FP.l2d y) :: .double (FP.l2d x) :: st)) := by
  subst hf h1
  by_cases q : y < x
  · exact (ky q).of fun t q' => XS.dcmpS S.X.here S.ex rfl (S.hd hd1) rfl (dcmpV_w bx hy op) (XS.ifYes S.X.here S.ex rfl (pc0 := pc + 1) rfl (S.hd hd) rfl (Jvm.Free.XT.ll_gt_t q) (off0 ht) (off1 ht) q')
  · exact (kn q).of fun t q' => XS.dcmpS S.X.here S.ex rfl (S.hd hd1) rfl (dcmpV_w bx hy op) (XS.ifNo S.X.here S.ex rfl (S.hd hd) rfl (Jvm.Free.XT.ll_gt_f q) q')
theorem Go.dcmp_le (S : St p l e R s m args below meth c Z own bytes nl ret nm h0 ws T h locs cells slots) {x y : Int64} {op : CmpOp} {o : Int} {pt pc1 : Nat} (bx : B53 x) (hy : B53 y) (hd1 : decode bytes pc = .ok (.dcmp op, 1)) (h1 : pc + 1 = pc1) (hd : decode bytes pc1 = .ok (.ifCond .le o, 3)) (ht : (pc1 : Int) + o = (pt : Int)) (hf : pc1 + 3 = pc') (ky : ¬ y < x → Go p e below P T (mkF m pt Ls st)) (kn : y < x → Go p e below P T (mkF m pc' Ls st)) : Go p e below P T (mkF m pc Ls (.double (FP.l2d y) :: .double (FP.l2d x) :: st)) := by
  subst hf h1
  by_cases q : y < x
  · exact (kn q).of fun t q' => XS.dcmpS S.X.here S.ex rfl (S.hd hd1) rfl (dcmpV_w bx hy op) (XS.ifNo S.X.here S.ex rfl (S.hd hd) rfl (Jvm.Free.XT.ll_le_f q) q')
  · exact (ky q).of fun t q' => XS.dcmpS S.X.here S.ex rfl (S.hd hd1) rfl (dcmpV_w bx hy op) (XS.ifYes S.X.here S.ex rfl (pc0 := pc + 1) rfl (S.hd hd) rfl (Jvm.Free.XT.ll_le_t q) (off0 ht) (off1 ht) q')
theorem Go.daload (S : St p l e R s m args below meth c Z own bytes nl ret nm h0 ws T h locs cells slots) {a : Addr} {kA : ClassId} {n j : Int32} {v : Value} {vs : List Value} {dv : Value} (V : Arv Z h a kA .double n vs dv) (hj : ¬ j < 0 ∧ j < n) (hv : vs.getD j.toNatClampNeg dv = v) (hd : decode bytes pc = .ok (.daload, 1)) (hp : pc + 1 = pc') (k : Go p e below P T (mkF m pc' Ls (v :: st))) : Go p e below P T (mkF m pc Ls (.int j :: .ref a :: st)) := by
  subst hp
  obtain ⟨cl, A, q1, q2, q3, H, F⟩ := V
  exact k.of fun t q => S.X.daload S.ex (j := j) (v := v) (by rw [S.eT]; exact A.1) (State.isArrayOf_alike S.hZ.alike A.2.1) A.2.2 (inb_of q2 hj) (H.at (inb_of q2 hj) hv) (g := mkF m pc Ls (.int j :: .ref a :: st)) rfl rfl (S.hd hd) _ q
theorem Go.dastore (S : St p l e R s m args below meth c Z own bytes nl ret nm h0 ws T h locs cells slots) {a : Addr} {kA : ClassId} {n j : Int32} {x : UInt64} {vs : List Value} {dv : Value} {i : Nat} (V : Arv Z h a kA .double n vs dv) (hj : ¬ j < 0 ∧ j < n) (hi : j.toNatClampNeg = i) (hl : i < vs.length) (hz : Z.heap.size ≤ a) (hws : a ∈ ws ∨ h0.size ≤ a) (hd : decode bytes pc = .ok (.dastore, 1)) (hp : pc + 1 = pc')
    (k : ∀ T' h' locs', St p l e R s m args below meth c Z own bytes nl ret nm h0 ws T' h' locs' cells slots → Wr h h' a j.toNatClampNeg (.double x) → Arv Z h' a kA .double n (vs.set i (.double x)) dv → Go p e below P T' (mkF m pc' Ls st)) : Go p e below P T (mkF m pc Ls (.double x :: .int j :: .ref a :: st)) := by
  subst hp
  obtain ⟨cl, A, q1, q2, q3, H, F⟩ := V
  obtain ⟨T', h', X', e', W, f⟩ := stD S.X S.ex S.hZ S.eT A (j := j) (x := x) (inb_of q2 hj) (g := mkF m pc Ls (.double x :: .int j :: .ref a :: st)) rfl rfl (S.hd hd)
  exact (k T' h' _ (S.wrote X' e' W hz hws) W (Arv.set A q1 q2 q3 H F rfl W i hi hl)).of f
end Doubles
end Jvm.Own
namespace Jvm.Pilot.@@N@@
open Jvm Jvm.ClassFile Sem Op Lib Jvm.Free Jvm.Stand Jvm.LawKit Jvm.RoadKit Jvm.Own Bundle Jvm.Pilot.@@N@@.Jvm.D
abbrev HW (Z : State) (a0 : Array Value) : Prop := ∀ d ∈ tables_1, d.before a0 Z = true
theorem wd0 {Z : State} {a0 : Array Value} (hw : HW Z a0) : Jvm.Cond.before (Jvm.Cond.classLink "com/example/opas/opas/RankingCouldKeepPinLaw" (7 : Nat) "com/example/opas/opas/Ranking") a0 Z = true := hw _ (List.mem_of_getElem? (i := 0) rfl)
theorem wd1 {Z : State} {a0 : Array Value} (hw : HW Z a0) : Jvm.Cond.before (Jvm.Cond.instantiable "com/example/opas/opas/Ranking" (5 : Nat)) a0 Z = true := hw _ (List.mem_of_getElem? (i := 1) rfl)
theorem wd2 {Z : State} {a0 : Array Value} (hw : HW Z a0) : Jvm.Cond.before (Jvm.Cond.initialized "com/example/opas/opas/Ranking") a0 Z = true := hw _ (List.mem_of_getElem? (i := 2) rfl)
theorem wd3 {Z : State} {a0 : Array Value} (hw : HW Z a0) : Jvm.Cond.before (Jvm.Cond.methodLink "com/example/opas/opas/RankingCouldKeepPinLaw" (9 : Nat) ({ cls := "com/example/opas/opas/Ranking", name := "<init>", desc := "(I)V" } : Jvm.MethodName)) a0 Z = true := hw _ (List.mem_of_getElem? (i := 3) rfl)
theorem wd4 {Z : State} {a0 : Array Value} (hw : HW Z a0) : Jvm.Cond.before (Jvm.Cond.instanceMethod ({ cls := "com/example/opas/opas/Ranking", name := "<init>", desc := "(I)V" } : Jvm.MethodName)) a0 Z = true := hw _ (List.mem_of_getElem? (i := 4) rfl)
theorem wd5 {Z : State} {a0 : Array Value} (hw : HW Z a0) : Jvm.Cond.before (Jvm.Cond.code ({ cls := "com/example/opas/opas/Ranking", name := "<init>", desc := "(I)V" } : Jvm.MethodName) prog_22_method_1_code (2 : Nat) (Option.none : Option Jvm.ClassFile.FieldType)) a0 Z = true := hw _ (List.mem_of_getElem? (i := 5) rfl)
theorem wd6 {Z : State} {a0 : Array Value} (hw : HW Z a0) : Jvm.Cond.before (Jvm.Cond.methodLink "com/example/opas/opas/Ranking" (1 : Nat) ({ cls := "java/lang/Object", name := "<init>", desc := "()V" } : Jvm.MethodName)) a0 Z = true := hw _ (List.mem_of_getElem? (i := 6) rfl)
theorem wd7 {Z : State} {a0 : Array Value} (hw : HW Z a0) : Jvm.Cond.before (Jvm.Cond.instanceMethod ({ cls := "java/lang/Object", name := "<init>", desc := "()V" } : Jvm.MethodName)) a0 Z = true := hw _ (List.mem_of_getElem? (i := 7) rfl)
theorem wd8 {Z : State} {a0 : Array Value} (hw : HW Z a0) : Jvm.Cond.before (Jvm.Cond.code ({ cls := "java/lang/Object", name := "<init>", desc := "()V" } : Jvm.MethodName) object_method_1_code (1 : Nat) (Option.none : Option Jvm.ClassFile.FieldType)) a0 Z = true := hw _ (List.mem_of_getElem? (i := 8) rfl)
theorem wd9 {Z : State} {a0 : Array Value} (hw : HW Z a0) : Jvm.Cond.before (Jvm.Cond.arrayClass Jvm.ClassFile.FieldType.int) a0 Z = true := hw _ (List.mem_of_getElem? (i := 9) rfl)
theorem wd10 {Z : State} {a0 : Array Value} (hw : HW Z a0) : Jvm.Cond.before (Jvm.Cond.fieldLink "com/example/opas/opas/Ranking" (7 : Nat) "com/example/opas/opas/Ranking" "excluded" "[I") a0 Z = true := hw _ (List.mem_of_getElem? (i := 10) rfl)
theorem wd11 {Z : State} {a0 : Array Value} (hw : HW Z a0) : Jvm.Cond.before (Jvm.Cond.lays "com/example/opas/opas/Ranking" "com/example/opas/opas/Ranking" "excluded" "[I") a0 Z = true := hw _ (List.mem_of_getElem? (i := 11) rfl)
theorem wd12 {Z : State} {a0 : Array Value} (hw : HW Z a0) : Jvm.Cond.before (Jvm.Cond.fieldLink "com/example/opas/opas/Ranking" (13 : Nat) "com/example/opas/opas/Ranking" "limit" "I") a0 Z = true := hw _ (List.mem_of_getElem? (i := 12) rfl)
theorem wd13 {Z : State} {a0 : Array Value} (hw : HW Z a0) : Jvm.Cond.before (Jvm.Cond.laysFinal "com/example/opas/opas/Ranking" "com/example/opas/opas/Ranking" "limit" "I") a0 Z = true := hw _ (List.mem_of_getElem? (i := 13) rfl)
theorem wd14 {Z : State} {a0 : Array Value} (hw : HW Z a0) : Jvm.Cond.before (Jvm.Cond.methodLink "com/example/opas/opas/Ranking" (17 : Nat) ({ cls := "java/lang/Math", name := "min", desc := "(II)I" } : Jvm.MethodName)) a0 Z = true := hw _ (List.mem_of_getElem? (i := 14) rfl)
theorem wd15 {Z : State} {a0 : Array Value} (hw : HW Z a0) : Jvm.Cond.before (Jvm.Cond.static ({ cls := "java/lang/Math", name := "min", desc := "(II)I" } : Jvm.MethodName)) a0 Z = true := hw _ (List.mem_of_getElem? (i := 15) rfl)
theorem wd16 {Z : State} {a0 : Array Value} (hw : HW Z a0) : Jvm.Cond.before (Jvm.Cond.initialized "java/lang/Math") a0 Z = true := hw _ (List.mem_of_getElem? (i := 16) rfl)
theorem wd17 {Z : State} {a0 : Array Value} (hw : HW Z a0) : Jvm.Cond.before (Jvm.Cond.code ({ cls := "java/lang/Math", name := "min", desc := "(II)I" } : Jvm.MethodName) jdk_29_method_69_code (2 : Nat) (Option.some Jvm.ClassFile.FieldType.int)) a0 Z = true := hw _ (List.mem_of_getElem? (i := 17) rfl)
theorem wd18 {Z : State} {a0 : Array Value} (hw : HW Z a0) : Jvm.Cond.before (Jvm.Cond.fieldLink "com/example/opas/opas/Ranking" (23 : Nat) "com/example/opas/opas/Ranking" "ids" "[I") a0 Z = true := hw _ (List.mem_of_getElem? (i := 18) rfl)
theorem wd19 {Z : State} {a0 : Array Value} (hw : HW Z a0) : Jvm.Cond.before (Jvm.Cond.lays "com/example/opas/opas/Ranking" "com/example/opas/opas/Ranking" "ids" "[I") a0 Z = true := hw _ (List.mem_of_getElem? (i := 19) rfl)
theorem wd20 {Z : State} {a0 : Array Value} (hw : HW Z a0) : Jvm.Cond.before (Jvm.Cond.arrayClass Jvm.ClassFile.FieldType.double) a0 Z = true := hw _ (List.mem_of_getElem? (i := 20) rfl)
theorem wd21 {Z : State} {a0 : Array Value} (hw : HW Z a0) : Jvm.Cond.before (Jvm.Cond.fieldLink "com/example/opas/opas/Ranking" (26 : Nat) "com/example/opas/opas/Ranking" "scores" "[D") a0 Z = true := hw _ (List.mem_of_getElem? (i := 21) rfl)
theorem wd22 {Z : State} {a0 : Array Value} (hw : HW Z a0) : Jvm.Cond.before (Jvm.Cond.lays "com/example/opas/opas/Ranking" "com/example/opas/opas/Ranking" "scores" "[D") a0 Z = true := hw _ (List.mem_of_getElem? (i := 22) rfl)
theorem wd23 {Z : State} {a0 : Array Value} (hw : HW Z a0) : Jvm.Cond.before (Jvm.Cond.constant "com/example/opas/opas/RankingCouldKeepPinLaw" (18 : Nat) (-2147483648 : Int32)) a0 Z = true := hw _ (List.mem_of_getElem? (i := 23) rfl)
theorem wd24 {Z : State} {a0 : Array Value} (hw : HW Z a0) : Jvm.Cond.before (Jvm.Cond.methodLink "com/example/opas/opas/RankingCouldKeepPinLaw" (19 : Nat) ({ cls := "com/example/opas/opas/RankingCouldKeepPinLaw", name := "largest", desc := "(IIII)J" } : Jvm.MethodName)) a0 Z = true := hw _ (List.mem_of_getElem? (i := 24) rfl)
theorem wd25 {Z : State} {a0 : Array Value} (hw : HW Z a0) : Jvm.Cond.before (Jvm.Cond.static ({ cls := "com/example/opas/opas/RankingCouldKeepPinLaw", name := "largest", desc := "(IIII)J" } : Jvm.MethodName)) a0 Z = true := hw _ (List.mem_of_getElem? (i := 25) rfl)
theorem wd26 {Z : State} {a0 : Array Value} (hw : HW Z a0) : Jvm.Cond.before (Jvm.Cond.initialized "com/example/opas/opas/RankingCouldKeepPinLaw") a0 Z = true := hw _ (List.mem_of_getElem? (i := 26) rfl)
theorem wd27 {Z : State} {a0 : Array Value} (hw : HW Z a0) : Jvm.Cond.before (Jvm.Cond.code ({ cls := "com/example/opas/opas/RankingCouldKeepPinLaw", name := "largest", desc := "(IIII)J" } : Jvm.MethodName) method_3_code (7 : Nat) (Option.some Jvm.ClassFile.FieldType.long)) a0 Z = true := hw _ (List.mem_of_getElem? (i := 27) rfl)
theorem wd28 {Z : State} {a0 : Array Value} (hw : HW Z a0) : Jvm.Cond.before (Jvm.Cond.methodLink "com/example/opas/opas/RankingCouldKeepPinLaw" (35 : Nat) ({ cls := "java/lang/Math", name := "max", desc := "(II)I" } : Jvm.MethodName)) a0 Z = true := hw _ (List.mem_of_getElem? (i := 28) rfl)
theorem wd29 {Z : State} {a0 : Array Value} (hw : HW Z a0) : Jvm.Cond.before (Jvm.Cond.static ({ cls := "java/lang/Math", name := "max", desc := "(II)I" } : Jvm.MethodName)) a0 Z = true := hw _ (List.mem_of_getElem? (i := 29) rfl)
theorem wd30 {Z : State} {a0 : Array Value} (hw : HW Z a0) : Jvm.Cond.before (Jvm.Cond.code ({ cls := "java/lang/Math", name := "max", desc := "(II)I" } : Jvm.MethodName) jdk_29_method_65_code (2 : Nat) (Option.some Jvm.ClassFile.FieldType.int)) a0 Z = true := hw _ (List.mem_of_getElem? (i := 30) rfl)
theorem wd31 {Z : State} {a0 : Array Value} (hw : HW Z a0) : Jvm.Cond.before (Jvm.Cond.methodLink "com/example/opas/opas/RankingCouldKeepPinLaw" (25 : Nat) ({ cls := "java/lang/Math", name := "min", desc := "(II)I" } : Jvm.MethodName)) a0 Z = true := hw _ (List.mem_of_getElem? (i := 31) rfl)
theorem wd32 {Z : State} {a0 : Array Value} (hw : HW Z a0) : Jvm.Cond.before (Jvm.Cond.methodLink "com/example/opas/opas/RankingCouldKeepPinLaw" (31 : Nat) ({ cls := "com/example/opas/opas/Ranking", name := "couldKeep", desc := "(D)Z" } : Jvm.MethodName)) a0 Z = true := hw _ (List.mem_of_getElem? (i := 32) rfl)
theorem wd33 {Z : State} {a0 : Array Value} (hw : HW Z a0) : Jvm.Cond.before (Jvm.Cond.declares ({ cls := "com/example/opas/opas/Ranking", name := "couldKeep", desc := "(D)Z" } : Jvm.MethodName)) a0 Z = true := hw _ (List.mem_of_getElem? (i := 33) rfl)
theorem wd34 {Z : State} {a0 : Array Value} (hw : HW Z a0) : Jvm.Cond.before (Jvm.Cond.instanceMethod ({ cls := "com/example/opas/opas/Ranking", name := "couldKeep", desc := "(D)Z" } : Jvm.MethodName)) a0 Z = true := hw _ (List.mem_of_getElem? (i := 34) rfl)
theorem wd35 {Z : State} {a0 : Array Value} (hw : HW Z a0) : Jvm.Cond.before (Jvm.Cond.selects "com/example/opas/opas/Ranking" ({ cls := "com/example/opas/opas/Ranking", name := "couldKeep", desc := "(D)Z" } : Jvm.MethodName) ({ cls := "com/example/opas/opas/Ranking", name := "couldKeep", desc := "(D)Z" } : Jvm.MethodName)) a0 Z = true := hw _ (List.mem_of_getElem? (i := 35) rfl)
theorem wd36 {Z : State} {a0 : Array Value} (hw : HW Z a0) : Jvm.Cond.before (Jvm.Cond.code ({ cls := "com/example/opas/opas/Ranking", name := "couldKeep", desc := "(D)Z" } : Jvm.MethodName) prog_22_method_5_code (3 : Nat) (Option.some Jvm.ClassFile.FieldType.boolean)) a0 Z = true := hw _ (List.mem_of_getElem? (i := 36) rfl)
theorem wd37 {Z : State} {a0 : Array Value} (hw : HW Z a0) : Jvm.Cond.before (Jvm.Cond.fieldLink "com/example/opas/opas/Ranking" (94 : Nat) "com/example/opas/opas/Ranking" "size" "I") a0 Z = true := hw _ (List.mem_of_getElem? (i := 37) rfl)
theorem wd38 {Z : State} {a0 : Array Value} (hw : HW Z a0) : Jvm.Cond.before (Jvm.Cond.lays "com/example/opas/opas/Ranking" "com/example/opas/opas/Ranking" "size" "I") a0 Z = true := hw _ (List.mem_of_getElem? (i := 38) rfl)
theorem wd39 {Z : State} {a0 : Array Value} (hw : HW Z a0) : Jvm.Cond.before (Jvm.Cond.methodLink "com/example/opas/opas/RankingCouldKeepPinLaw" (12 : Nat) ({ cls := "com/example/opas/opas/Ranking", name := "offer", desc := "(ID)V" } : Jvm.MethodName)) a0 Z = true := hw _ (List.mem_of_getElem? (i := 39) rfl)
theorem wd40 {Z : State} {a0 : Array Value} (hw : HW Z a0) : Jvm.Cond.before (Jvm.Cond.declares ({ cls := "com/example/opas/opas/Ranking", name := "offer", desc := "(ID)V" } : Jvm.MethodName)) a0 Z = true := hw _ (List.mem_of_getElem? (i := 40) rfl)
theorem wd41 {Z : State} {a0 : Array Value} (hw : HW Z a0) : Jvm.Cond.before (Jvm.Cond.instanceMethod ({ cls := "com/example/opas/opas/Ranking", name := "offer", desc := "(ID)V" } : Jvm.MethodName)) a0 Z = true := hw _ (List.mem_of_getElem? (i := 41) rfl)
theorem wd42 {Z : State} {a0 : Array Value} (hw : HW Z a0) : Jvm.Cond.before (Jvm.Cond.selects "com/example/opas/opas/Ranking" ({ cls := "com/example/opas/opas/Ranking", name := "offer", desc := "(ID)V" } : Jvm.MethodName) ({ cls := "com/example/opas/opas/Ranking", name := "offer", desc := "(ID)V" } : Jvm.MethodName)) a0 Z = true := hw _ (List.mem_of_getElem? (i := 42) rfl)
theorem wd43 {Z : State} {a0 : Array Value} (hw : HW Z a0) : Jvm.Cond.before (Jvm.Cond.code ({ cls := "com/example/opas/opas/Ranking", name := "offer", desc := "(ID)V" } : Jvm.MethodName) prog_22_method_7_code (5 : Nat) (Option.none : Option Jvm.ClassFile.FieldType)) a0 Z = true := hw _ (List.mem_of_getElem? (i := 43) rfl)
theorem wd44 {Z : State} {a0 : Array Value} (hw : HW Z a0) : Jvm.Cond.before (Jvm.Cond.methodLink "com/example/opas/opas/Ranking" (113 : Nat) ({ cls := "com/example/opas/opas/Ranking", name := "isExcluded", desc := "(I)Z" } : Jvm.MethodName)) a0 Z = true := hw _ (List.mem_of_getElem? (i := 44) rfl)
theorem wd45 {Z : State} {a0 : Array Value} (hw : HW Z a0) : Jvm.Cond.before (Jvm.Cond.instanceMethod ({ cls := "com/example/opas/opas/Ranking", name := "isExcluded", desc := "(I)Z" } : Jvm.MethodName)) a0 Z = true := hw _ (List.mem_of_getElem? (i := 45) rfl)
theorem wd46 {Z : State} {a0 : Array Value} (hw : HW Z a0) : Jvm.Cond.before (Jvm.Cond.privateMethod ({ cls := "com/example/opas/opas/Ranking", name := "isExcluded", desc := "(I)Z" } : Jvm.MethodName)) a0 Z = true := hw _ (List.mem_of_getElem? (i := 46) rfl)
theorem wd47 {Z : State} {a0 : Array Value} (hw : HW Z a0) : Jvm.Cond.before (Jvm.Cond.code ({ cls := "com/example/opas/opas/Ranking", name := "isExcluded", desc := "(I)Z" } : Jvm.MethodName) prog_22_method_9_code (2 : Nat) (Option.some Jvm.ClassFile.FieldType.boolean)) a0 Z = true := hw _ (List.mem_of_getElem? (i := 47) rfl)
theorem wd48 {Z : State} {a0 : Array Value} (hw : HW Z a0) : Jvm.Cond.before (Jvm.Cond.methodLink "com/example/opas/opas/Ranking" (131 : Nat) ({ cls := "com/example/opas/opas/Ranking", name := "siftUp", desc := "(I)V" } : Jvm.MethodName)) a0 Z = true := hw _ (List.mem_of_getElem? (i := 48) rfl)
theorem wd49 {Z : State} {a0 : Array Value} (hw : HW Z a0) : Jvm.Cond.before (Jvm.Cond.instanceMethod ({ cls := "com/example/opas/opas/Ranking", name := "siftUp", desc := "(I)V" } : Jvm.MethodName)) a0 Z = true := hw _ (List.mem_of_getElem? (i := 49) rfl)
theorem wd50 {Z : State} {a0 : Array Value} (hw : HW Z a0) : Jvm.Cond.before (Jvm.Cond.privateMethod ({ cls := "com/example/opas/opas/Ranking", name := "siftUp", desc := "(I)V" } : Jvm.MethodName)) a0 Z = true := hw _ (List.mem_of_getElem? (i := 50) rfl)
theorem wd51 {Z : State} {a0 : Array Value} (hw : HW Z a0) : Jvm.Cond.before (Jvm.Cond.code ({ cls := "com/example/opas/opas/Ranking", name := "siftUp", desc := "(I)V" } : Jvm.MethodName) prog_22_method_11_code (4 : Nat) (Option.none : Option Jvm.ClassFile.FieldType)) a0 Z = true := hw _ (List.mem_of_getElem? (i := 51) rfl)
theorem wd52 {Z : State} {a0 : Array Value} (hw : HW Z a0) : Jvm.Cond.before (Jvm.Cond.methodLink "com/example/opas/opas/Ranking" (109 : Nat) ({ cls := "com/example/opas/opas/Ranking", name := "isBetter", desc := "(IDI)Z" } : Jvm.MethodName)) a0 Z = true := hw _ (List.mem_of_getElem? (i := 52) rfl)
theorem wd53 {Z : State} {a0 : Array Value} (hw : HW Z a0) : Jvm.Cond.before (Jvm.Cond.instanceMethod ({ cls := "com/example/opas/opas/Ranking", name := "isBetter", desc := "(IDI)Z" } : Jvm.MethodName)) a0 Z = true := hw _ (List.mem_of_getElem? (i := 53) rfl)
theorem wd54 {Z : State} {a0 : Array Value} (hw : HW Z a0) : Jvm.Cond.before (Jvm.Cond.privateMethod ({ cls := "com/example/opas/opas/Ranking", name := "isBetter", desc := "(IDI)Z" } : Jvm.MethodName)) a0 Z = true := hw _ (List.mem_of_getElem? (i := 54) rfl)
theorem wd55 {Z : State} {a0 : Array Value} (hw : HW Z a0) : Jvm.Cond.before (Jvm.Cond.code ({ cls := "com/example/opas/opas/Ranking", name := "isBetter", desc := "(IDI)Z" } : Jvm.MethodName) prog_22_method_10_code (5 : Nat) (Option.some Jvm.ClassFile.FieldType.boolean)) a0 Z = true := hw _ (List.mem_of_getElem? (i := 55) rfl)
theorem wd56 {Z : State} {a0 : Array Value} (hw : HW Z a0) : Jvm.Cond.before (Jvm.Cond.methodLink "com/example/opas/opas/Ranking" (190 : Nat) ({ cls := "com/example/opas/opas/Ranking", name := "swap", desc := "(II)V" } : Jvm.MethodName)) a0 Z = true := hw _ (List.mem_of_getElem? (i := 56) rfl)
theorem wd57 {Z : State} {a0 : Array Value} (hw : HW Z a0) : Jvm.Cond.before (Jvm.Cond.instanceMethod ({ cls := "com/example/opas/opas/Ranking", name := "swap", desc := "(II)V" } : Jvm.MethodName)) a0 Z = true := hw _ (List.mem_of_getElem? (i := 57) rfl)
theorem wd58 {Z : State} {a0 : Array Value} (hw : HW Z a0) : Jvm.Cond.before (Jvm.Cond.privateMethod ({ cls := "com/example/opas/opas/Ranking", name := "swap", desc := "(II)V" } : Jvm.MethodName)) a0 Z = true := hw _ (List.mem_of_getElem? (i := 58) rfl)
theorem wd59 {Z : State} {a0 : Array Value} (hw : HW Z a0) : Jvm.Cond.before (Jvm.Cond.code ({ cls := "com/example/opas/opas/Ranking", name := "swap", desc := "(II)V" } : Jvm.MethodName) prog_22_method_13_code (6 : Nat) (Option.none : Option Jvm.ClassFile.FieldType)) a0 Z = true := hw _ (List.mem_of_getElem? (i := 59) rfl)
theorem wd60 {Z : State} {a0 : Array Value} (hw : HW Z a0) : Jvm.Cond.before (Jvm.Cond.methodLink "com/example/opas/opas/Ranking" (117 : Nat) ({ cls := "com/example/opas/opas/Ranking", name := "siftDown", desc := "(I)V" } : Jvm.MethodName)) a0 Z = true := hw _ (List.mem_of_getElem? (i := 60) rfl)
theorem wd61 {Z : State} {a0 : Array Value} (hw : HW Z a0) : Jvm.Cond.before (Jvm.Cond.instanceMethod ({ cls := "com/example/opas/opas/Ranking", name := "siftDown", desc := "(I)V" } : Jvm.MethodName)) a0 Z = true := hw _ (List.mem_of_getElem? (i := 61) rfl)
theorem wd62 {Z : State} {a0 : Array Value} (hw : HW Z a0) : Jvm.Cond.before (Jvm.Cond.privateMethod ({ cls := "com/example/opas/opas/Ranking", name := "siftDown", desc := "(I)V" } : Jvm.MethodName)) a0 Z = true := hw _ (List.mem_of_getElem? (i := 62) rfl)
theorem wd63 {Z : State} {a0 : Array Value} (hw : HW Z a0) : Jvm.Cond.before (Jvm.Cond.code ({ cls := "com/example/opas/opas/Ranking", name := "siftDown", desc := "(I)V" } : Jvm.MethodName) prog_22_method_12_code (4 : Nat) (Option.none : Option Jvm.ClassFile.FieldType)) a0 Z = true := hw _ (List.mem_of_getElem? (i := 63) rfl)
theorem pn0 : plainName "com/example/opas/opas/RankingCouldKeepPinLaw" = true := by first | (simp [plainName, overriddenIn]; done) | decide +kernel
theorem pn1 : plainName "com/example/opas/opas/Ranking" = true := by first | (simp [plainName, overriddenIn]; done) | decide +kernel
theorem pd0 : parseMethodDescriptor "(II)I" = some ⟨[.int, .int], some .int⟩ := by decide +kernel
theorem pd1 : parseMethodDescriptor "(IDI)Z" = some ⟨[.int, .double, .int], some .boolean⟩ := by decide +kernel
theorem pd2 : parseMethodDescriptor "(II)V" = some ⟨[.int, .int], none⟩ := by decide +kernel
theorem pd3 : parseMethodDescriptor "(I)Z" = some ⟨[.int], some .boolean⟩ := by decide +kernel
theorem pd4 : parseMethodDescriptor "(I)V" = some ⟨[.int], none⟩ := by decide +kernel
theorem pd5 : parseMethodDescriptor "(D)Z" = some ⟨[.double], some .boolean⟩ := by decide +kernel
theorem pd6 : parseMethodDescriptor "(IIII)J" = some ⟨[.int, .int, .int, .int], some .long⟩ := by decide +kernel
theorem pd7 : parseMethodDescriptor "(ID)V" = some ⟨[.int, .double], none⟩ := by decide +kernel
theorem d_jdk_29_method_65_code_0 : decode jdk_29_method_65_code 0 = .ok (.iload_n 0, 1) := by decide +kernel
theorem d_jdk_29_method_65_code_1 : decode jdk_29_method_65_code 1 = .ok (.iload_n 1, 1) := by decide +kernel
theorem d_jdk_29_method_65_code_2 : decode jdk_29_method_65_code 2 = .ok (.if_icmp .lt 7, 3) := by decide +kernel
theorem d_jdk_29_method_65_code_5 : decode jdk_29_method_65_code 5 = .ok (.iload_n 0, 1) := by decide +kernel
theorem d_jdk_29_method_65_code_6 : decode jdk_29_method_65_code 6 = .ok (.goto 4, 3) := by decide +kernel
theorem d_jdk_29_method_65_code_9 : decode jdk_29_method_65_code 9 = .ok (.iload_n 1, 1) := by decide +kernel
theorem d_jdk_29_method_65_code_10 : decode jdk_29_method_65_code 10 = .ok (.ireturn, 1) := by decide +kernel
theorem d_jdk_29_method_69_code_0 : decode jdk_29_method_69_code 0 = .ok (.iload_n 0, 1) := by decide +kernel
theorem d_jdk_29_method_69_code_1 : decode jdk_29_method_69_code 1 = .ok (.iload_n 1, 1) := by decide +kernel
theorem d_jdk_29_method_69_code_2 : decode jdk_29_method_69_code 2 = .ok (.if_icmp .gt 7, 3) := by decide +kernel
theorem d_jdk_29_method_69_code_5 : decode jdk_29_method_69_code 5 = .ok (.iload_n 0, 1) := by decide +kernel
theorem d_jdk_29_method_69_code_6 : decode jdk_29_method_69_code 6 = .ok (.goto 4, 3) := by decide +kernel
theorem d_jdk_29_method_69_code_9 : decode jdk_29_method_69_code 9 = .ok (.iload_n 1, 1) := by decide +kernel
theorem d_jdk_29_method_69_code_10 : decode jdk_29_method_69_code 10 = .ok (.ireturn, 1) := by decide +kernel
theorem d_method_3_code_0 : decode method_3_code 0 = .ok (.iload_n 1, 1) := by decide +kernel
theorem d_method_3_code_1 : decode method_3_code 1 = .ok (.iload_n 2, 1) := by decide +kernel
theorem d_method_3_code_2 : decode method_3_code 2 = .ok (.iload_n 3, 1) := by decide +kernel
theorem d_method_3_code_3 : decode method_3_code 3 = .ok (.invokestatic 35, 3) := by decide +kernel
theorem d_method_3_code_6 : decode method_3_code 6 = .ok (.invokestatic 35, 3) := by decide +kernel
theorem d_method_3_code_9 : decode method_3_code 9 = .ok (.istore 4, 2) := by decide +kernel
theorem d_method_3_code_11 : decode method_3_code 11 = .ok (.iload_n 1, 1) := by decide +kernel
theorem d_method_3_code_12 : decode method_3_code 12 = .ok (.iload_n 2, 1) := by decide +kernel
theorem d_method_3_code_13 : decode method_3_code 13 = .ok (.iload_n 3, 1) := by decide +kernel
theorem d_method_3_code_14 : decode method_3_code 14 = .ok (.invokestatic 25, 3) := by decide +kernel
theorem d_method_3_code_17 : decode method_3_code 17 = .ok (.invokestatic 25, 3) := by decide +kernel
theorem d_method_3_code_20 : decode method_3_code 20 = .ok (.istore 5, 2) := by decide +kernel
theorem d_method_3_code_22 : decode method_3_code 22 = .ok (.iload_n 1, 1) := by decide +kernel
theorem d_method_3_code_23 : decode method_3_code 23 = .ok (.iload_n 2, 1) := by decide +kernel
theorem d_method_3_code_24 : decode method_3_code 24 = .ok (.invokestatic 25, 3) := by decide +kernel
theorem d_method_3_code_27 : decode method_3_code 27 = .ok (.iload_n 1, 1) := by decide +kernel
theorem d_method_3_code_28 : decode method_3_code 28 = .ok (.iload_n 2, 1) := by decide +kernel
theorem d_method_3_code_29 : decode method_3_code 29 = .ok (.invokestatic 35, 3) := by decide +kernel
theorem d_method_3_code_32 : decode method_3_code 32 = .ok (.iload_n 3, 1) := by decide +kernel
theorem d_method_3_code_33 : decode method_3_code 33 = .ok (.invokestatic 25, 3) := by decide +kernel
theorem d_method_3_code_36 : decode method_3_code 36 = .ok (.invokestatic 35, 3) := by decide +kernel
theorem d_method_3_code_39 : decode method_3_code 39 = .ok (.istore 6, 2) := by decide +kernel
theorem d_method_3_code_41 : decode method_3_code 41 = .ok (.iload_n 0, 1) := by decide +kernel
theorem d_method_3_code_42 : decode method_3_code 42 = .ok (.iconst 1, 1) := by decide +kernel
theorem d_method_3_code_43 : decode method_3_code 43 = .ok (.if_icmp .ne 7, 3) := by decide +kernel
theorem d_method_3_code_46 : decode method_3_code 46 = .ok (.iload 4, 2) := by decide +kernel
theorem d_method_3_code_48 : decode method_3_code 48 = .ok (.i2l, 1) := by decide +kernel
theorem d_method_3_code_49 : decode method_3_code 49 = .ok (.lreturn, 1) := by decide +kernel
theorem d_method_3_code_50 : decode method_3_code 50 = .ok (.iload_n 0, 1) := by decide +kernel
theorem d_method_3_code_51 : decode method_3_code 51 = .ok (.iconst 2, 1) := by decide +kernel
theorem d_method_3_code_52 : decode method_3_code 52 = .ok (.if_icmp .ne 7, 3) := by decide +kernel
theorem d_method_3_code_55 : decode method_3_code 55 = .ok (.iload 6, 2) := by decide +kernel
theorem d_method_3_code_57 : decode method_3_code 57 = .ok (.i2l, 1) := by decide +kernel
theorem d_method_3_code_58 : decode method_3_code 58 = .ok (.lreturn, 1) := by decide +kernel
theorem d_method_3_code_59 : decode method_3_code 59 = .ok (.iload 5, 2) := by decide +kernel
theorem d_method_3_code_61 : decode method_3_code 61 = .ok (.i2l, 1) := by decide +kernel
theorem d_method_3_code_62 : decode method_3_code 62 = .ok (.lreturn, 1) := by decide +kernel
theorem d_prog_22_method_10_code_0 : decode prog_22_method_10_code 0 = .ok (.dload_n 2, 1) := by decide +kernel
theorem d_prog_22_method_10_code_1 : decode prog_22_method_10_code 1 = .ok (.aload_n 0, 1) := by decide +kernel
theorem d_prog_22_method_10_code_2 : decode prog_22_method_10_code 2 = .ok (.getfield 26, 3) := by decide +kernel
theorem d_prog_22_method_10_code_5 : decode prog_22_method_10_code 5 = .ok (.iload 4, 2) := by decide +kernel
theorem d_prog_22_method_10_code_7 : decode prog_22_method_10_code 7 = .ok (.daload, 1) := by decide +kernel
theorem d_prog_22_method_10_code_8 : decode prog_22_method_10_code 8 = .ok (.dcmp .l, 1) := by decide +kernel
theorem d_prog_22_method_10_code_9 : decode prog_22_method_10_code 9 = .ok (.ifCond .gt 26, 3) := by decide +kernel
theorem d_prog_22_method_10_code_12 : decode prog_22_method_10_code 12 = .ok (.dload_n 2, 1) := by decide +kernel
theorem d_prog_22_method_10_code_13 : decode prog_22_method_10_code 13 = .ok (.aload_n 0, 1) := by decide +kernel
theorem d_prog_22_method_10_code_14 : decode prog_22_method_10_code 14 = .ok (.getfield 26, 3) := by decide +kernel
theorem d_prog_22_method_10_code_17 : decode prog_22_method_10_code 17 = .ok (.iload 4, 2) := by decide +kernel
theorem d_prog_22_method_10_code_19 : decode prog_22_method_10_code 19 = .ok (.daload, 1) := by decide +kernel
theorem d_prog_22_method_10_code_20 : decode prog_22_method_10_code 20 = .ok (.dcmp .l, 1) := by decide +kernel
theorem d_prog_22_method_10_code_21 : decode prog_22_method_10_code 21 = .ok (.ifCond .ne 18, 3) := by decide +kernel
theorem d_prog_22_method_10_code_24 : decode prog_22_method_10_code 24 = .ok (.iload_n 1, 1) := by decide +kernel
theorem d_prog_22_method_10_code_25 : decode prog_22_method_10_code 25 = .ok (.aload_n 0, 1) := by decide +kernel
theorem d_prog_22_method_10_code_26 : decode prog_22_method_10_code 26 = .ok (.getfield 23, 3) := by decide +kernel
theorem d_prog_22_method_10_code_29 : decode prog_22_method_10_code 29 = .ok (.iload 4, 2) := by decide +kernel
theorem d_prog_22_method_10_code_31 : decode prog_22_method_10_code 31 = .ok (.iaload, 1) := by decide +kernel
theorem d_prog_22_method_10_code_32 : decode prog_22_method_10_code 32 = .ok (.if_icmp .ge 7, 3) := by decide +kernel
theorem d_prog_22_method_10_code_35 : decode prog_22_method_10_code 35 = .ok (.iconst 1, 1) := by decide +kernel
theorem d_prog_22_method_10_code_36 : decode prog_22_method_10_code 36 = .ok (.goto 4, 3) := by decide +kernel
theorem d_prog_22_method_10_code_39 : decode prog_22_method_10_code 39 = .ok (.iconst 0, 1) := by decide +kernel
theorem d_prog_22_method_10_code_40 : decode prog_22_method_10_code 40 = .ok (.ireturn, 1) := by decide +kernel
theorem d_prog_22_method_11_code_0 : decode prog_22_method_11_code 0 = .ok (.iload_n 1, 1) := by decide +kernel
theorem d_prog_22_method_11_code_1 : decode prog_22_method_11_code 1 = .ok (.istore_n 2, 1) := by decide +kernel
theorem d_prog_22_method_11_code_2 : decode prog_22_method_11_code 2 = .ok (.iload_n 2, 1) := by decide +kernel
theorem d_prog_22_method_11_code_3 : decode prog_22_method_11_code 3 = .ok (.ifCond .le 41, 3) := by decide +kernel
theorem d_prog_22_method_11_code_6 : decode prog_22_method_11_code 6 = .ok (.iload_n 2, 1) := by decide +kernel
theorem d_prog_22_method_11_code_7 : decode prog_22_method_11_code 7 = .ok (.iconst 1, 1) := by decide +kernel
theorem d_prog_22_method_11_code_8 : decode prog_22_method_11_code 8 = .ok (.isub, 1) := by decide +kernel
theorem d_prog_22_method_11_code_9 : decode prog_22_method_11_code 9 = .ok (.iconst 2, 1) := by decide +kernel
theorem d_prog_22_method_11_code_10 : decode prog_22_method_11_code 10 = .ok (.idiv, 1) := by decide +kernel
theorem d_prog_22_method_11_code_11 : decode prog_22_method_11_code 11 = .ok (.istore_n 3, 1) := by decide +kernel
theorem d_prog_22_method_11_code_12 : decode prog_22_method_11_code 12 = .ok (.aload_n 0, 1) := by decide +kernel
theorem d_prog_22_method_11_code_13 : decode prog_22_method_11_code 13 = .ok (.aload_n 0, 1) := by decide +kernel
theorem d_prog_22_method_11_code_14 : decode prog_22_method_11_code 14 = .ok (.getfield 23, 3) := by decide +kernel
theorem d_prog_22_method_11_code_17 : decode prog_22_method_11_code 17 = .ok (.iload_n 3, 1) := by decide +kernel
theorem d_prog_22_method_11_code_18 : decode prog_22_method_11_code 18 = .ok (.iaload, 1) := by decide +kernel
theorem d_prog_22_method_11_code_19 : decode prog_22_method_11_code 19 = .ok (.aload_n 0, 1) := by decide +kernel
theorem d_prog_22_method_11_code_20 : decode prog_22_method_11_code 20 = .ok (.getfield 26, 3) := by decide +kernel
theorem d_prog_22_method_11_code_23 : decode prog_22_method_11_code 23 = .ok (.iload_n 3, 1) := by decide +kernel
theorem d_prog_22_method_11_code_24 : decode prog_22_method_11_code 24 = .ok (.daload, 1) := by decide +kernel
theorem d_prog_22_method_11_code_25 : decode prog_22_method_11_code 25 = .ok (.iload_n 2, 1) := by decide +kernel
theorem d_prog_22_method_11_code_26 : decode prog_22_method_11_code 26 = .ok (.invokevirtual 109, 3) := by decide +kernel
theorem d_prog_22_method_11_code_29 : decode prog_22_method_11_code 29 = .ok (.ifCond .ne 4, 3) := by decide +kernel
theorem d_prog_22_method_11_code_32 : decode prog_22_method_11_code 32 = .ok (.return_, 1) := by decide +kernel
theorem d_prog_22_method_11_code_33 : decode prog_22_method_11_code 33 = .ok (.aload_n 0, 1) := by decide +kernel
theorem d_prog_22_method_11_code_34 : decode prog_22_method_11_code 34 = .ok (.iload_n 3, 1) := by decide +kernel
theorem d_prog_22_method_11_code_35 : decode prog_22_method_11_code 35 = .ok (.iload_n 2, 1) := by decide +kernel
theorem d_prog_22_method_11_code_36 : decode prog_22_method_11_code 36 = .ok (.invokevirtual 190, 3) := by decide +kernel
theorem d_prog_22_method_11_code_39 : decode prog_22_method_11_code 39 = .ok (.iload_n 3, 1) := by decide +kernel
theorem d_prog_22_method_11_code_40 : decode prog_22_method_11_code 40 = .ok (.istore_n 2, 1) := by decide +kernel
theorem d_prog_22_method_11_code_41 : decode prog_22_method_11_code 41 = .ok (.goto (-39), 3) := by decide +kernel
theorem d_prog_22_method_11_code_44 : decode prog_22_method_11_code 44 = .ok (.return_, 1) := by decide +kernel
theorem d_prog_22_method_12_code_0 : decode prog_22_method_12_code 0 = .ok (.iload_n 1, 1) := by decide +kernel
theorem d_prog_22_method_12_code_1 : decode prog_22_method_12_code 1 = .ok (.istore_n 2, 1) := by decide +kernel
theorem d_prog_22_method_12_code_2 : decode prog_22_method_12_code 2 = .ok (.iconst 2, 1) := by decide +kernel
theorem d_prog_22_method_12_code_3 : decode prog_22_method_12_code 3 = .ok (.iload_n 2, 1) := by decide +kernel
theorem d_prog_22_method_12_code_4 : decode prog_22_method_12_code 4 = .ok (.imul, 1) := by decide +kernel
theorem d_prog_22_method_12_code_5 : decode prog_22_method_12_code 5 = .ok (.iconst 1, 1) := by decide +kernel
theorem d_prog_22_method_12_code_6 : decode prog_22_method_12_code 6 = .ok (.iadd, 1) := by decide +kernel
theorem d_prog_22_method_12_code_7 : decode prog_22_method_12_code 7 = .ok (.aload_n 0, 1) := by decide +kernel
theorem d_prog_22_method_12_code_8 : decode prog_22_method_12_code 8 = .ok (.getfield 94, 3) := by decide +kernel
theorem d_prog_22_method_12_code_11 : decode prog_22_method_12_code 11 = .ok (.if_icmp .ge 76, 3) := by decide +kernel
theorem d_prog_22_method_12_code_14 : decode prog_22_method_12_code 14 = .ok (.iconst 2, 1) := by decide +kernel
theorem d_prog_22_method_12_code_15 : decode prog_22_method_12_code 15 = .ok (.iload_n 2, 1) := by decide +kernel
theorem d_prog_22_method_12_code_16 : decode prog_22_method_12_code 16 = .ok (.imul, 1) := by decide +kernel
theorem d_prog_22_method_12_code_17 : decode prog_22_method_12_code 17 = .ok (.iconst 1, 1) := by decide +kernel
theorem d_prog_22_method_12_code_18 : decode prog_22_method_12_code 18 = .ok (.iadd, 1) := by decide +kernel
theorem d_prog_22_method_12_code_19 : decode prog_22_method_12_code 19 = .ok (.istore_n 3, 1) := by decide +kernel
theorem d_prog_22_method_12_code_20 : decode prog_22_method_12_code 20 = .ok (.iload_n 3, 1) := by decide +kernel
theorem d_prog_22_method_12_code_21 : decode prog_22_method_12_code 21 = .ok (.iconst 1, 1) := by decide +kernel
theorem d_prog_22_method_12_code_22 : decode prog_22_method_12_code 22 = .ok (.iadd, 1) := by decide +kernel
theorem d_prog_22_method_12_code_23 : decode prog_22_method_12_code 23 = .ok (.aload_n 0, 1) := by decide +kernel
theorem d_prog_22_method_12_code_24 : decode prog_22_method_12_code 24 = .ok (.getfield 94, 3) := by decide +kernel
theorem d_prog_22_method_12_code_27 : decode prog_22_method_12_code 27 = .ok (.if_icmp .ge 28, 3) := by decide +kernel
theorem d_prog_22_method_12_code_55 : decode prog_22_method_12_code 55 = .ok (.aload_n 0, 1) := by decide +kernel
theorem d_prog_22_method_12_code_56 : decode prog_22_method_12_code 56 = .ok (.aload_n 0, 1) := by decide +kernel
theorem d_prog_22_method_12_code_57 : decode prog_22_method_12_code 57 = .ok (.getfield 23, 3) := by decide +kernel
theorem d_prog_22_method_12_code_60 : decode prog_22_method_12_code 60 = .ok (.iload_n 2, 1) := by decide +kernel
theorem d_prog_22_method_12_code_61 : decode prog_22_method_12_code 61 = .ok (.iaload, 1) := by decide +kernel
theorem d_prog_22_method_12_code_62 : decode prog_22_method_12_code 62 = .ok (.aload_n 0, 1) := by decide +kernel
theorem d_prog_22_method_12_code_63 : decode prog_22_method_12_code 63 = .ok (.getfield 26, 3) := by decide +kernel
theorem d_prog_22_method_12_code_66 : decode prog_22_method_12_code 66 = .ok (.iload_n 2, 1) := by decide +kernel
theorem d_prog_22_method_12_code_67 : decode prog_22_method_12_code 67 = .ok (.daload, 1) := by decide +kernel
theorem d_prog_22_method_12_code_68 : decode prog_22_method_12_code 68 = .ok (.iload_n 3, 1) := by decide +kernel
theorem d_prog_22_method_12_code_69 : decode prog_22_method_12_code 69 = .ok (.invokevirtual 109, 3) := by decide +kernel
theorem d_prog_22_method_12_code_72 : decode prog_22_method_12_code 72 = .ok (.ifCond .ne 4, 3) := by decide +kernel
theorem d_prog_22_method_12_code_75 : decode prog_22_method_12_code 75 = .ok (.return_, 1) := by decide +kernel
theorem d_prog_22_method_12_code_76 : decode prog_22_method_12_code 76 = .ok (.aload_n 0, 1) := by decide +kernel
theorem d_prog_22_method_12_code_77 : decode prog_22_method_12_code 77 = .ok (.iload_n 2, 1) := by decide +kernel
theorem d_prog_22_method_12_code_78 : decode prog_22_method_12_code 78 = .ok (.iload_n 3, 1) := by decide +kernel
theorem d_prog_22_method_12_code_79 : decode prog_22_method_12_code 79 = .ok (.invokevirtual 190, 3) := by decide +kernel
theorem d_prog_22_method_12_code_82 : decode prog_22_method_12_code 82 = .ok (.iload_n 3, 1) := by decide +kernel
theorem d_prog_22_method_12_code_83 : decode prog_22_method_12_code 83 = .ok (.istore_n 2, 1) := by decide +kernel
theorem d_prog_22_method_12_code_84 : decode prog_22_method_12_code 84 = .ok (.goto (-82), 3) := by decide +kernel
theorem d_prog_22_method_12_code_87 : decode prog_22_method_12_code 87 = .ok (.return_, 1) := by decide +kernel
theorem d_prog_22_method_13_code_0 : decode prog_22_method_13_code 0 = .ok (.aload_n 0, 1) := by decide +kernel
theorem d_prog_22_method_13_code_1 : decode prog_22_method_13_code 1 = .ok (.getfield 23, 3) := by decide +kernel
theorem d_prog_22_method_13_code_4 : decode prog_22_method_13_code 4 = .ok (.iload_n 1, 1) := by decide +kernel
theorem d_prog_22_method_13_code_5 : decode prog_22_method_13_code 5 = .ok (.iaload, 1) := by decide +kernel
theorem d_prog_22_method_13_code_6 : decode prog_22_method_13_code 6 = .ok (.istore_n 3, 1) := by decide +kernel
theorem d_prog_22_method_13_code_7 : decode prog_22_method_13_code 7 = .ok (.aload_n 0, 1) := by decide +kernel
theorem d_prog_22_method_13_code_8 : decode prog_22_method_13_code 8 = .ok (.getfield 23, 3) := by decide +kernel
theorem d_prog_22_method_13_code_11 : decode prog_22_method_13_code 11 = .ok (.iload_n 1, 1) := by decide +kernel
theorem d_prog_22_method_13_code_12 : decode prog_22_method_13_code 12 = .ok (.aload_n 0, 1) := by decide +kernel
theorem d_prog_22_method_13_code_13 : decode prog_22_method_13_code 13 = .ok (.getfield 23, 3) := by decide +kernel
theorem d_prog_22_method_13_code_16 : decode prog_22_method_13_code 16 = .ok (.iload_n 2, 1) := by decide +kernel
theorem d_prog_22_method_13_code_17 : decode prog_22_method_13_code 17 = .ok (.iaload, 1) := by decide +kernel
theorem d_prog_22_method_13_code_18 : decode prog_22_method_13_code 18 = .ok (.iastore, 1) := by decide +kernel
theorem d_prog_22_method_13_code_19 : decode prog_22_method_13_code 19 = .ok (.aload_n 0, 1) := by decide +kernel
theorem d_prog_22_method_13_code_20 : decode prog_22_method_13_code 20 = .ok (.getfield 23, 3) := by decide +kernel
theorem d_prog_22_method_13_code_23 : decode prog_22_method_13_code 23 = .ok (.iload_n 2, 1) := by decide +kernel
theorem d_prog_22_method_13_code_24 : decode prog_22_method_13_code 24 = .ok (.iload_n 3, 1) := by decide +kernel
theorem d_prog_22_method_13_code_25 : decode prog_22_method_13_code 25 = .ok (.iastore, 1) := by decide +kernel
theorem d_prog_22_method_13_code_26 : decode prog_22_method_13_code 26 = .ok (.aload_n 0, 1) := by decide +kernel
theorem d_prog_22_method_13_code_27 : decode prog_22_method_13_code 27 = .ok (.getfield 26, 3) := by decide +kernel
theorem d_prog_22_method_13_code_30 : decode prog_22_method_13_code 30 = .ok (.iload_n 1, 1) := by decide +kernel
theorem d_prog_22_method_13_code_31 : decode prog_22_method_13_code 31 = .ok (.daload, 1) := by decide +kernel
theorem d_prog_22_method_13_code_32 : decode prog_22_method_13_code 32 = .ok (.dstore 4, 2) := by decide +kernel
theorem d_prog_22_method_13_code_34 : decode prog_22_method_13_code 34 = .ok (.aload_n 0, 1) := by decide +kernel
theorem d_prog_22_method_13_code_35 : decode prog_22_method_13_code 35 = .ok (.getfield 26, 3) := by decide +kernel
theorem d_prog_22_method_13_code_38 : decode prog_22_method_13_code 38 = .ok (.iload_n 1, 1) := by decide +kernel
theorem d_prog_22_method_13_code_39 : decode prog_22_method_13_code 39 = .ok (.aload_n 0, 1) := by decide +kernel
theorem d_prog_22_method_13_code_40 : decode prog_22_method_13_code 40 = .ok (.getfield 26, 3) := by decide +kernel
theorem d_prog_22_method_13_code_43 : decode prog_22_method_13_code 43 = .ok (.iload_n 2, 1) := by decide +kernel
theorem d_prog_22_method_13_code_44 : decode prog_22_method_13_code 44 = .ok (.daload, 1) := by decide +kernel
theorem d_prog_22_method_13_code_45 : decode prog_22_method_13_code 45 = .ok (.dastore, 1) := by decide +kernel
theorem d_prog_22_method_13_code_46 : decode prog_22_method_13_code 46 = .ok (.aload_n 0, 1) := by decide +kernel
theorem d_prog_22_method_13_code_47 : decode prog_22_method_13_code 47 = .ok (.getfield 26, 3) := by decide +kernel
theorem d_prog_22_method_13_code_50 : decode prog_22_method_13_code 50 = .ok (.iload_n 2, 1) := by decide +kernel
theorem d_prog_22_method_13_code_51 : decode prog_22_method_13_code 51 = .ok (.dload 4, 2) := by decide +kernel
theorem d_prog_22_method_13_code_53 : decode prog_22_method_13_code 53 = .ok (.dastore, 1) := by decide +kernel
theorem d_prog_22_method_13_code_54 : decode prog_22_method_13_code 54 = .ok (.return_, 1) := by decide +kernel
theorem d_prog_22_method_1_code_0 : decode prog_22_method_1_code 0 = .ok (.aload_n 0, 1) := by decide +kernel
theorem d_prog_22_method_1_code_1 : decode prog_22_method_1_code 1 = .ok (.invokespecial 1, 3) := by decide +kernel
theorem d_prog_22_method_1_code_4 : decode prog_22_method_1_code 4 = .ok (.aload_n 0, 1) := by decide +kernel
theorem d_prog_22_method_1_code_5 : decode prog_22_method_1_code 5 = .ok (.iconst 0, 1) := by decide +kernel
theorem d_prog_22_method_1_code_6 : decode prog_22_method_1_code 6 = .ok (.newarray .int, 2) := by decide +kernel
theorem d_prog_22_method_1_code_8 : decode prog_22_method_1_code 8 = .ok (.putfield 7, 3) := by decide +kernel
theorem d_prog_22_method_1_code_11 : decode prog_22_method_1_code 11 = .ok (.aload_n 0, 1) := by decide +kernel
theorem d_prog_22_method_1_code_12 : decode prog_22_method_1_code 12 = .ok (.iload_n 1, 1) := by decide +kernel
theorem d_prog_22_method_1_code_13 : decode prog_22_method_1_code 13 = .ok (.putfield 13, 3) := by decide +kernel
theorem d_prog_22_method_1_code_16 : decode prog_22_method_1_code 16 = .ok (.aload_n 0, 1) := by decide +kernel
theorem d_prog_22_method_1_code_17 : decode prog_22_method_1_code 17 = .ok (.iload_n 1, 1) := by decide +kernel
theorem d_prog_22_method_1_code_18 : decode prog_22_method_1_code 18 = .ok (.bipush 16, 2) := by decide +kernel
theorem d_prog_22_method_1_code_20 : decode prog_22_method_1_code 20 = .ok (.invokestatic 17, 3) := by decide +kernel
theorem d_prog_22_method_1_code_23 : decode prog_22_method_1_code 23 = .ok (.newarray .int, 2) := by decide +kernel
theorem d_prog_22_method_1_code_25 : decode prog_22_method_1_code 25 = .ok (.putfield 23, 3) := by decide +kernel
theorem d_prog_22_method_1_code_28 : decode prog_22_method_1_code 28 = .ok (.aload_n 0, 1) := by decide +kernel
theorem d_prog_22_method_1_code_29 : decode prog_22_method_1_code 29 = .ok (.aload_n 0, 1) := by decide +kernel
theorem d_prog_22_method_1_code_30 : decode prog_22_method_1_code 30 = .ok (.getfield 23, 3) := by decide +kernel
theorem d_prog_22_method_1_code_33 : decode prog_22_method_1_code 33 = .ok (.arraylength, 1) := by decide +kernel
theorem d_prog_22_method_1_code_34 : decode prog_22_method_1_code 34 = .ok (.newarray .double, 2) := by decide +kernel
theorem d_prog_22_method_1_code_36 : decode prog_22_method_1_code 36 = .ok (.putfield 26, 3) := by decide +kernel
theorem d_prog_22_method_1_code_39 : decode prog_22_method_1_code 39 = .ok (.return_, 1) := by decide +kernel
theorem d_prog_22_method_5_code_0 : decode prog_22_method_5_code 0 = .ok (.aload_n 0, 1) := by decide +kernel
theorem d_prog_22_method_5_code_1 : decode prog_22_method_5_code 1 = .ok (.getfield 94, 3) := by decide +kernel
theorem d_prog_22_method_5_code_4 : decode prog_22_method_5_code 4 = .ok (.aload_n 0, 1) := by decide +kernel
theorem d_prog_22_method_5_code_5 : decode prog_22_method_5_code 5 = .ok (.getfield 13, 3) := by decide +kernel
theorem d_prog_22_method_5_code_8 : decode prog_22_method_5_code 8 = .ok (.if_icmp .lt 21, 3) := by decide +kernel
theorem d_prog_22_method_5_code_11 : decode prog_22_method_5_code 11 = .ok (.aload_n 0, 1) := by decide +kernel
theorem d_prog_22_method_5_code_12 : decode prog_22_method_5_code 12 = .ok (.getfield 13, 3) := by decide +kernel
theorem d_prog_22_method_5_code_15 : decode prog_22_method_5_code 15 = .ok (.ifCond .le 18, 3) := by decide +kernel
theorem d_prog_22_method_5_code_18 : decode prog_22_method_5_code 18 = .ok (.dload_n 1, 1) := by decide +kernel
theorem d_prog_22_method_5_code_19 : decode prog_22_method_5_code 19 = .ok (.aload_n 0, 1) := by decide +kernel
theorem d_prog_22_method_5_code_20 : decode prog_22_method_5_code 20 = .ok (.getfield 26, 3) := by decide +kernel
theorem d_prog_22_method_5_code_23 : decode prog_22_method_5_code 23 = .ok (.iconst 0, 1) := by decide +kernel
theorem d_prog_22_method_5_code_24 : decode prog_22_method_5_code 24 = .ok (.daload, 1) := by decide +kernel
theorem d_prog_22_method_5_code_25 : decode prog_22_method_5_code 25 = .ok (.dcmp .l, 1) := by decide +kernel
theorem d_prog_22_method_5_code_26 : decode prog_22_method_5_code 26 = .ok (.ifCond .lt 7, 3) := by decide +kernel
theorem d_prog_22_method_5_code_29 : decode prog_22_method_5_code 29 = .ok (.iconst 1, 1) := by decide +kernel
theorem d_prog_22_method_5_code_30 : decode prog_22_method_5_code 30 = .ok (.goto 4, 3) := by decide +kernel
theorem d_prog_22_method_5_code_33 : decode prog_22_method_5_code 33 = .ok (.iconst 0, 1) := by decide +kernel
theorem d_prog_22_method_5_code_34 : decode prog_22_method_5_code 34 = .ok (.ireturn, 1) := by decide +kernel
theorem d_prog_22_method_7_code_0 : decode prog_22_method_7_code 0 = .ok (.aload_n 0, 1) := by decide +kernel
theorem d_prog_22_method_7_code_1 : decode prog_22_method_7_code 1 = .ok (.getfield 94, 3) := by decide +kernel
theorem d_prog_22_method_7_code_4 : decode prog_22_method_7_code 4 = .ok (.aload_n 0, 1) := by decide +kernel
theorem d_prog_22_method_7_code_5 : decode prog_22_method_7_code 5 = .ok (.getfield 13, 3) := by decide +kernel
theorem d_prog_22_method_7_code_8 : decode prog_22_method_7_code 8 = .ok (.if_icmp .ne 51, 3) := by decide +kernel
theorem d_prog_22_method_7_code_11 : decode prog_22_method_7_code 11 = .ok (.aload_n 0, 1) := by decide +kernel
theorem d_prog_22_method_7_code_12 : decode prog_22_method_7_code 12 = .ok (.getfield 13, 3) := by decide +kernel
theorem d_prog_22_method_7_code_15 : decode prog_22_method_7_code 15 = .ok (.ifCond .eq 21, 3) := by decide +kernel
theorem d_prog_22_method_7_code_18 : decode prog_22_method_7_code 18 = .ok (.aload_n 0, 1) := by decide +kernel
theorem d_prog_22_method_7_code_19 : decode prog_22_method_7_code 19 = .ok (.iload_n 1, 1) := by decide +kernel
theorem d_prog_22_method_7_code_20 : decode prog_22_method_7_code 20 = .ok (.dload_n 2, 1) := by decide +kernel
theorem d_prog_22_method_7_code_21 : decode prog_22_method_7_code 21 = .ok (.iconst 0, 1) := by decide +kernel
theorem d_prog_22_method_7_code_22 : decode prog_22_method_7_code 22 = .ok (.invokevirtual 109, 3) := by decide +kernel
theorem d_prog_22_method_7_code_25 : decode prog_22_method_7_code 25 = .ok (.ifCond .eq 11, 3) := by decide +kernel
theorem d_prog_22_method_7_code_28 : decode prog_22_method_7_code 28 = .ok (.aload_n 0, 1) := by decide +kernel
theorem d_prog_22_method_7_code_29 : decode prog_22_method_7_code 29 = .ok (.iload_n 1, 1) := by decide +kernel
theorem d_prog_22_method_7_code_30 : decode prog_22_method_7_code 30 = .ok (.invokevirtual 113, 3) := by decide +kernel
theorem d_prog_22_method_7_code_33 : decode prog_22_method_7_code 33 = .ok (.ifCond .eq 4, 3) := by decide +kernel
theorem d_prog_22_method_7_code_36 : decode prog_22_method_7_code 36 = .ok (.return_, 1) := by decide +kernel
theorem d_prog_22_method_7_code_37 : decode prog_22_method_7_code 37 = .ok (.aload_n 0, 1) := by decide +kernel
theorem d_prog_22_method_7_code_38 : decode prog_22_method_7_code 38 = .ok (.getfield 23, 3) := by decide +kernel
theorem d_prog_22_method_7_code_41 : decode prog_22_method_7_code 41 = .ok (.iconst 0, 1) := by decide +kernel
theorem d_prog_22_method_7_code_42 : decode prog_22_method_7_code 42 = .ok (.iload_n 1, 1) := by decide +kernel
theorem d_prog_22_method_7_code_43 : decode prog_22_method_7_code 43 = .ok (.iastore, 1) := by decide +kernel
theorem d_prog_22_method_7_code_44 : decode prog_22_method_7_code 44 = .ok (.aload_n 0, 1) := by decide +kernel
theorem d_prog_22_method_7_code_45 : decode prog_22_method_7_code 45 = .ok (.getfield 26, 3) := by decide +kernel
theorem d_prog_22_method_7_code_48 : decode prog_22_method_7_code 48 = .ok (.iconst 0, 1) := by decide +kernel
theorem d_prog_22_method_7_code_49 : decode prog_22_method_7_code 49 = .ok (.dload_n 2, 1) := by decide +kernel
theorem d_prog_22_method_7_code_50 : decode prog_22_method_7_code 50 = .ok (.dastore, 1) := by decide +kernel
theorem d_prog_22_method_7_code_51 : decode prog_22_method_7_code 51 = .ok (.aload_n 0, 1) := by decide +kernel
theorem d_prog_22_method_7_code_52 : decode prog_22_method_7_code 52 = .ok (.iconst 0, 1) := by decide +kernel
theorem d_prog_22_method_7_code_53 : decode prog_22_method_7_code 53 = .ok (.invokevirtual 117, 3) := by decide +kernel
theorem d_prog_22_method_7_code_56 : decode prog_22_method_7_code 56 = .ok (.goto 107, 3) := by decide +kernel
theorem d_prog_22_method_7_code_59 : decode prog_22_method_7_code 59 = .ok (.aload_n 0, 1) := by decide +kernel
theorem d_prog_22_method_7_code_60 : decode prog_22_method_7_code 60 = .ok (.iload_n 1, 1) := by decide +kernel
theorem d_prog_22_method_7_code_61 : decode prog_22_method_7_code 61 = .ok (.invokevirtual 113, 3) := by decide +kernel
theorem d_prog_22_method_7_code_64 : decode prog_22_method_7_code 64 = .ok (.ifCond .ne 99, 3) := by decide +kernel
theorem d_prog_22_method_7_code_67 : decode prog_22_method_7_code 67 = .ok (.aload_n 0, 1) := by decide +kernel
theorem d_prog_22_method_7_code_68 : decode prog_22_method_7_code 68 = .ok (.getfield 94, 3) := by decide +kernel
theorem d_prog_22_method_7_code_71 : decode prog_22_method_7_code 71 = .ok (.aload_n 0, 1) := by decide +kernel
theorem d_prog_22_method_7_code_72 : decode prog_22_method_7_code 72 = .ok (.getfield 23, 3) := by decide +kernel
theorem d_prog_22_method_7_code_75 : decode prog_22_method_7_code 75 = .ok (.arraylength, 1) := by decide +kernel
theorem d_prog_22_method_7_code_76 : decode prog_22_method_7_code 76 = .ok (.if_icmp .ne 49, 3) := by decide +kernel
theorem d_prog_22_method_7_code_125 : decode prog_22_method_7_code 125 = .ok (.aload_n 0, 1) := by decide +kernel
theorem d_prog_22_method_7_code_126 : decode prog_22_method_7_code 126 = .ok (.getfield 23, 3) := by decide +kernel
theorem d_prog_22_method_7_code_129 : decode prog_22_method_7_code 129 = .ok (.aload_n 0, 1) := by decide +kernel
theorem d_prog_22_method_7_code_130 : decode prog_22_method_7_code 130 = .ok (.getfield 94, 3) := by decide +kernel
theorem d_prog_22_method_7_code_133 : decode prog_22_method_7_code 133 = .ok (.iload_n 1, 1) := by decide +kernel
theorem d_prog_22_method_7_code_134 : decode prog_22_method_7_code 134 = .ok (.iastore, 1) := by decide +kernel
theorem d_prog_22_method_7_code_135 : decode prog_22_method_7_code 135 = .ok (.aload_n 0, 1) := by decide +kernel
theorem d_prog_22_method_7_code_136 : decode prog_22_method_7_code 136 = .ok (.getfield 26, 3) := by decide +kernel
theorem d_prog_22_method_7_code_139 : decode prog_22_method_7_code 139 = .ok (.aload_n 0, 1) := by decide +kernel
theorem d_prog_22_method_7_code_140 : decode prog_22_method_7_code 140 = .ok (.getfield 94, 3) := by decide +kernel
theorem d_prog_22_method_7_code_143 : decode prog_22_method_7_code 143 = .ok (.dload_n 2, 1) := by decide +kernel
theorem d_prog_22_method_7_code_144 : decode prog_22_method_7_code 144 = .ok (.dastore, 1) := by decide +kernel
theorem d_prog_22_method_7_code_145 : decode prog_22_method_7_code 145 = .ok (.aload_n 0, 1) := by decide +kernel
theorem d_prog_22_method_7_code_146 : decode prog_22_method_7_code 146 = .ok (.aload_n 0, 1) := by decide +kernel
theorem d_prog_22_method_7_code_147 : decode prog_22_method_7_code 147 = .ok (.getfield 94, 3) := by decide +kernel
theorem d_prog_22_method_7_code_150 : decode prog_22_method_7_code 150 = .ok (.invokevirtual 131, 3) := by decide +kernel
theorem d_prog_22_method_7_code_153 : decode prog_22_method_7_code 153 = .ok (.aload_n 0, 1) := by decide +kernel
theorem d_prog_22_method_7_code_154 : decode prog_22_method_7_code 154 = .ok (.dup, 1) := by decide +kernel
theorem d_prog_22_method_7_code_155 : decode prog_22_method_7_code 155 = .ok (.getfield 94, 3) := by decide +kernel
theorem d_prog_22_method_7_code_158 : decode prog_22_method_7_code 158 = .ok (.iconst 1, 1) := by decide +kernel
theorem d_prog_22_method_7_code_159 : decode prog_22_method_7_code 159 = .ok (.iadd, 1) := by decide +kernel
theorem d_prog_22_method_7_code_160 : decode prog_22_method_7_code 160 = .ok (.putfield 94, 3) := by decide +kernel
theorem d_prog_22_method_7_code_163 : decode prog_22_method_7_code 163 = .ok (.return_, 1) := by decide +kernel
theorem d_prog_22_method_9_code_0 : decode prog_22_method_9_code 0 = .ok (.aload_n 0, 1) := by decide +kernel
theorem d_prog_22_method_9_code_1 : decode prog_22_method_9_code 1 = .ok (.getfield 7, 3) := by decide +kernel
theorem d_prog_22_method_9_code_4 : decode prog_22_method_9_code 4 = .ok (.arraylength, 1) := by decide +kernel
theorem d_prog_22_method_9_code_5 : decode prog_22_method_9_code 5 = .ok (.ifCond .le 18, 3) := by decide +kernel
theorem d_prog_22_method_9_code_23 : decode prog_22_method_9_code 23 = .ok (.iconst 0, 1) := by decide +kernel
theorem d_prog_22_method_9_code_24 : decode prog_22_method_9_code 24 = .ok (.ireturn, 1) := by decide +kernel
def own_min (a b : Int32) : Int32 := if b < a then b else a
def own_max (a b : Int32) : Int32 := if a < b then b else a
theorem own_min_t (a b : Int32) : (own_min a b).toInt = min a.toInt b.toInt := by
  unfold own_min
  split
  · rename_i h; rw [Int32.lt_iff_toInt_lt] at h; omega
  · rename_i h; rw [Int32.lt_iff_toInt_lt] at h; omega
theorem own_max_t (a b : Int32) : (own_max a b).toInt = max a.toInt b.toInt := by
  unfold own_max
  split
  · rename_i h; rw [Int32.lt_iff_toInt_lt] at h; omega
  · rename_i h; rw [Int32.lt_iff_toInt_lt] at h; omega
def own_lg (k a b c : Int32) : Int64 := if k = 1 then (own_max a (own_max b c)).toInt64 else if k = 2 then (own_max (own_min a b) (own_min (own_max a b) c)).toInt64 else (own_min a (own_min b c)).toInt64
theorem own_ti (z : Int32) : z.toInt64.toInt = z.toInt := c_i2l z
theorem own_lg1 (a b c : Int32) : (own_lg 1 a b c).toInt = max a.toInt (max b.toInt c.toInt) := by
  rw [own_lg, if_pos rfl, own_ti, own_max_t, own_max_t]
theorem own_lg2 (a b c : Int32) : (own_lg 2 a b c).toInt = max (min a.toInt b.toInt) (min (max a.toInt b.toInt) c.toInt) := by
  rw [own_lg, if_neg (by decide), if_pos rfl, own_ti, own_max_t, own_min_t, own_min_t, own_max_t]
theorem own_lg3 (a b c : Int32) : (own_lg 3 a b c).toInt = min a.toInt (min b.toInt c.toInt) := by
  rw [own_lg, if_neg (by decide), if_neg (by decide), own_ti, own_min_t, own_min_t]
theorem own_r32 (z : Int32) : -2147483648 ≤ z.toInt ∧ z.toInt ≤ 2147483647 := by
  have r := rng32 z
  omega
theorem own_lgb (k a b c : Int32) : -2147483648 ≤ (own_lg k a b c).toInt ∧ (own_lg k a b c).toInt ≤ 2147483647 := by
  unfold own_lg
  repeat' split
  all_goals (rw [own_ti]; exact own_r32 _)
theorem own_b53 {a : Int64} (h : (-2147483648 ≤ a.toInt ∧ a.toInt ≤ 2147483647)) : B53 a := ⟨by have := h.1; omega, by have := h.2; omega⟩
theorem own_bd (z : Int32) : -2147483648 ≤ z.toInt64.toInt ∧ z.toInt64.toInt ≤ 2147483647 := by
  have q := own_ti z
  have r := rng32 z
  exact ⟨by omega, by omega⟩
theorem own_lt {a b : Int64} (h : a < b) : a.toInt ≤ b.toInt := by
  have := Int64.lt_iff_toInt_lt.mp h
  omega
theorem own_nlt {a b : Int64} (h : ¬ a < b) : b.toInt ≤ a.toInt := by
  rw [Int64.lt_iff_toInt_lt] at h
  omega
theorem own_m4 (z : Int32) : z &&& 3 = 0 ∨ z &&& 3 = 1 ∨ z &&& 3 = 2 ∨ z &&& 3 = 3 := by
  have b := c_mask z 3 2 (by decide) (by decide)
  simp only [← Int32.toInt_inj]
  have e0 : (0 : Int32).toInt = 0 := rfl
  have e1 : (1 : Int32).toInt = 1 := rfl
  have e2 : (2 : Int32).toInt = 2 := rfl
  have e3 : (3 : Int32).toInt = 3 := rfl
  omega
theorem own_near (z : Int32) : -1 ≤ ((z &&& 3) - 1).toInt64.toInt ∧ ((z &&& 3) - 1).toInt64.toInt ≤ 2 := by
  have b := c_mask z 3 2 (by decide) (by decide)
  have d := c_isub (z &&& 3) 1
  have r := rng32 ((z &&& 3) - 1)
  have e1 : (1 : Int32).toInt = 1 := rfl
  rw [own_ti]
  omega
theorem own_qb {t d : Int64} (ht : (-2147483648 ≤ t.toInt ∧ t.toInt ≤ 2147483647)) (hd : -1 ≤ d.toInt ∧ d.toInt ≤ 2) : -2147483650 ≤ (t + d).toInt ∧ (t + d).toInt ≤ 2147483652 := by
  have a := c_ladd t d
  have r := rng64 (t + d)
  have := ht.1
  have := ht.2
  omega
set_option maxRecDepth 65536 in
set_option maxHeartbeats 4000000 in
theorem rm_min {l : Launch} {Z : State} {a0 : Array Value} (hw : HW Z a0) (p1 : Int32) (p2 : Int32)  {h0 : Heap} (hE : Ext Z.heap h0) :
    OMeets l Z (⟨"java/lang/Math", "min", "(II)I"⟩ : MethodName) jdk_29_method_69_code 2 (some .int) ({ frames := 0, cells := 0, slots := 0, locals := 0 } : Room) #[(.int p1), (.int p2)] h0 [] (fun v h => v = some (.int (own_min p1 p2)) ∧ h0 = h) := by
  refine OMeets.body (Jvm.Free.JP.mathPlain rfl (by decide +kernel)) hE #[.val (.int p1), .val (.int p2)] (fun m => by first | rfl | (simp [entryFrame, mkF, argsToLocals, Value.category, maxLocals]; done)) ?_
  intro p e s m below meth co T S
  refine Go.iloadN S d_jdk_29_method_69_code_0 rfl (pc' := 1) rfl ?_
  refine Go.iloadN S d_jdk_29_method_69_code_1 rfl (pc' := 2) rfl ?_
  refine Go.icmp_gt S d_jdk_29_method_69_code_2 (pt := 9) (by decide) (pc' := 5) rfl ?_ ?_
  · intro c2
    refine Go.iloadN S d_jdk_29_method_69_code_9 rfl (pc' := 10) rfl ?_
    exact Go.ireturn S rfl d_jdk_29_method_69_code_10 (by decide) (by decide) (⟨by unfold own_min; rw [if_pos c2], rfl⟩)
  · intro c2
    refine Go.iloadN S d_jdk_29_method_69_code_5 rfl (pc' := 6) rfl ?_
    refine Go.goto S d_jdk_29_method_69_code_6 (pc' := 10) (by decide) ?_
    exact Go.ireturn S rfl d_jdk_29_method_69_code_10 (by decide) (by decide) (⟨by unfold own_min; rw [if_neg c2], rfl⟩)
set_option maxRecDepth 65536 in
set_option maxHeartbeats 4000000 in
theorem rm_max {l : Launch} {Z : State} {a0 : Array Value} (hw : HW Z a0) (p1 : Int32) (p2 : Int32)  {h0 : Heap} (hE : Ext Z.heap h0) :
    OMeets l Z (⟨"java/lang/Math", "max", "(II)I"⟩ : MethodName) jdk_29_method_65_code 2 (some .int) ({ frames := 0, cells := 0, slots := 0, locals := 0 } : Room) #[(.int p1), (.int p2)] h0 [] (fun v h => v = some (.int (own_max p1 p2)) ∧ h0 = h) := by
  refine OMeets.body (Jvm.Free.JP.mathPlain rfl (by decide +kernel)) hE #[.val (.int p1), .val (.int p2)] (fun m => by first | rfl | (simp [entryFrame, mkF, argsToLocals, Value.category, maxLocals]; done)) ?_
  intro p e s m below meth co T S
  refine Go.iloadN S d_jdk_29_method_65_code_0 rfl (pc' := 1) rfl ?_
  refine Go.iloadN S d_jdk_29_method_65_code_1 rfl (pc' := 2) rfl ?_
  refine Go.icmp_lt S d_jdk_29_method_65_code_2 (pt := 9) (by decide) (pc' := 5) rfl ?_ ?_
  · intro c2
    refine Go.iloadN S d_jdk_29_method_65_code_9 rfl (pc' := 10) rfl ?_
    exact Go.ireturn S rfl d_jdk_29_method_65_code_10 (by decide) (by decide) (⟨by unfold own_max; rw [if_pos c2], rfl⟩)
  · intro c2
    refine Go.iloadN S d_jdk_29_method_65_code_5 rfl (pc' := 6) rfl ?_
    refine Go.goto S d_jdk_29_method_65_code_6 (pc' := 10) (by decide) ?_
    exact Go.ireturn S rfl d_jdk_29_method_65_code_10 (by decide) (by decide) (⟨by unfold own_max; rw [if_neg c2], rfl⟩)
set_option maxRecDepth 65536 in
set_option maxHeartbeats 4000000 in
theorem rm_lg {l : Launch} {Z : State} {a0 : Array Value} (hw : HW Z a0) (k : Int32) (t0 : Int32) (t1 : Int32) (t2 : Int32)  {h0 : Heap} (hE : Ext Z.heap h0) :
    OMeets l Z (⟨"com/example/opas/opas/RankingCouldKeepPinLaw", "largest", "(IIII)J"⟩ : MethodName) method_3_code 7 (some .long) ({ frames := 1, cells := 0, slots := 0, locals := 14 } : Room) #[(.int k), (.int t0), (.int t1), (.int t2)] h0 [] (fun v h => v = some (.long (own_lg k t0 t1 t2)) ∧ h0 = h) := by
  refine OMeets.body (plainFor_of_name pn0) hE #[.val (.int k), .val (.int t0), .val (.int t1), .val (.int t2), .unset, .unset, .unset] (fun m => by first | rfl | (simp [entryFrame, mkF, argsToLocals, Value.category, maxLocals]; done)) ?_
  intro p e s m below meth co T S
  refine Go.iloadN S d_method_3_code_0 rfl (pc' := 1) rfl ?_
  refine Go.iloadN S d_method_3_code_1 rfl (pc' := 2) rfl ?_
  refine Go.iloadN S d_method_3_code_2 rfl (pc' := 3) rfl ?_
  refine Go.invokestatic S (y := ⟨"java/lang/Math", "max", "(II)I"⟩) (rm_max hw t1 t2 S.ext) (wd28 hw) (wd29 hw) (wd16 hw) (wd30 hw) (by decide) d_method_3_code_3 rfl pd0 (argsL := [(.int t1), (.int t2)]) rfl rfl rfl (by decide) (W := 1) rfl (by decide) (by decide) (by decide) all0 (pc' := 6) rfl ?_
  intro v1 T1 h1 L1 S1 K1 q1
  obtain ⟨rfl, rfl⟩ := q1
  show Go _ _ _ _ T1 (mkF m 6 #[.val (.int k), .val (.int t0), .val (.int t1), .val (.int t2), .unset, .unset, .unset] [(.int (own_max t1 t2)), (.int t0)])
  refine Go.invokestatic S1 (y := ⟨"java/lang/Math", "max", "(II)I"⟩) (rm_max hw t0 (own_max t1 t2) S1.ext) (wd28 hw) (wd29 hw) (wd16 hw) (wd30 hw) (by decide) d_method_3_code_6 rfl pd0 (argsL := [(.int t0), (.int (own_max t1 t2))]) rfl rfl rfl (by decide) (W := 0) rfl (by decide) (by decide) (by decide) all0 (pc' := 9) rfl ?_
  intro v2 T2 h2 L2 S2 K2 q2
  obtain ⟨rfl, rfl⟩ := q2
  show Go _ _ _ _ T2 (mkF m 9 #[.val (.int k), .val (.int t0), .val (.int t1), .val (.int t2), .unset, .unset, .unset] [(.int (own_max t0 (own_max t1 t2)))])
  refine Go.istore S2 d_method_3_code_9 (Ls' := #[.val (.int k), .val (.int t0), .val (.int t1), .val (.int t2), .val (.int (own_max t0 (own_max t1 t2))), .unset, .unset]) rfl (pc' := 11) rfl ?_
  refine Go.iloadN S2 d_method_3_code_11 rfl (pc' := 12) rfl ?_
  refine Go.iloadN S2 d_method_3_code_12 rfl (pc' := 13) rfl ?_
  refine Go.iloadN S2 d_method_3_code_13 rfl (pc' := 14) rfl ?_
  refine Go.invokestatic S2 (y := ⟨"java/lang/Math", "min", "(II)I"⟩) (rm_min hw t1 t2 S2.ext) (wd31 hw) (wd15 hw) (wd16 hw) (wd17 hw) (by decide) d_method_3_code_14 rfl pd0 (argsL := [(.int t1), (.int t2)]) rfl rfl rfl (by decide) (W := 1) rfl (by decide) (by decide) (by decide) all0 (pc' := 17) rfl ?_
  intro v3 T3 h3 L3 S3 K3 q3
  obtain ⟨rfl, rfl⟩ := q3
  show Go _ _ _ _ T3 (mkF m 17 #[.val (.int k), .val (.int t0), .val (.int t1), .val (.int t2), .val (.int (own_max t0 (own_max t1 t2))), .unset, .unset] [(.int (own_min t1 t2)), (.int t0)])
  refine Go.invokestatic S3 (y := ⟨"java/lang/Math", "min", "(II)I"⟩) (rm_min hw t0 (own_min t1 t2) S3.ext) (wd31 hw) (wd15 hw) (wd16 hw) (wd17 hw) (by decide) d_method_3_code_17 rfl pd0 (argsL := [(.int t0), (.int (own_min t1 t2))]) rfl rfl rfl (by decide) (W := 0) rfl (by decide) (by decide) (by decide) all0 (pc' := 20) rfl ?_
  intro v4 T4 h4 L4 S4 K4 q4
  obtain ⟨rfl, rfl⟩ := q4
  show Go _ _ _ _ T4 (mkF m 20 #[.val (.int k), .val (.int t0), .val (.int t1), .val (.int t2), .val (.int (own_max t0 (own_max t1 t2))), .unset, .unset] [(.int (own_min t0 (own_min t1 t2)))])
  refine Go.istore S4 d_method_3_code_20 (Ls' := #[.val (.int k), .val (.int t0), .val (.int t1), .val (.int t2), .val (.int (own_max t0 (own_max t1 t2))), .val (.int (own_min t0 (own_min t1 t2))), .unset]) rfl (pc' := 22) rfl ?_
  refine Go.iloadN S4 d_method_3_code_22 rfl (pc' := 23) rfl ?_
  refine Go.iloadN S4 d_method_3_code_23 rfl (pc' := 24) rfl ?_
  refine Go.invokestatic S4 (y := ⟨"java/lang/Math", "min", "(II)I"⟩) (rm_min hw t0 t1 S4.ext) (wd31 hw) (wd15 hw) (wd16 hw) (wd17 hw) (by decide) d_method_3_code_24 rfl pd0 (argsL := [(.int t0), (.int t1)]) rfl rfl rfl (by decide) (W := 0) rfl (by decide) (by decide) (by decide) all0 (pc' := 27) rfl ?_
  intro v5 T5 h5 L5 S5 K5 q5
  obtain ⟨rfl, rfl⟩ := q5
  show Go _ _ _ _ T5 (mkF m 27 #[.val (.int k), .val (.int t0), .val (.int t1), .val (.int t2), .val (.int (own_max t0 (own_max t1 t2))), .val (.int (own_min t0 (own_min t1 t2))), .unset] [(.int (own_min t0 t1))])
  refine Go.iloadN S5 d_method_3_code_27 rfl (pc' := 28) rfl ?_
  refine Go.iloadN S5 d_method_3_code_28 rfl (pc' := 29) rfl ?_
  refine Go.invokestatic S5 (y := ⟨"java/lang/Math", "max", "(II)I"⟩) (rm_max hw t0 t1 S5.ext) (wd28 hw) (wd29 hw) (wd16 hw) (wd30 hw) (by decide) d_method_3_code_29 rfl pd0 (argsL := [(.int t0), (.int t1)]) rfl rfl rfl (by decide) (W := 1) rfl (by decide) (by decide) (by decide) all0 (pc' := 32) rfl ?_
  intro v6 T6 h6 L6 S6 K6 q6
  obtain ⟨rfl, rfl⟩ := q6
  show Go _ _ _ _ T6 (mkF m 32 #[.val (.int k), .val (.int t0), .val (.int t1), .val (.int t2), .val (.int (own_max t0 (own_max t1 t2))), .val (.int (own_min t0 (own_min t1 t2))), .unset] [(.int (own_max t0 t1)), (.int (own_min t0 t1))])
  refine Go.iloadN S6 d_method_3_code_32 rfl (pc' := 33) rfl ?_
  refine Go.invokestatic S6 (y := ⟨"java/lang/Math", "min", "(II)I"⟩) (rm_min hw (own_max t0 t1) t2 S6.ext) (wd31 hw) (wd15 hw) (wd16 hw) (wd17 hw) (by decide) d_method_3_code_33 rfl pd0 (argsL := [(.int (own_max t0 t1)), (.int t2)]) rfl rfl rfl (by decide) (W := 1) rfl (by decide) (by decide) (by decide) all0 (pc' := 36) rfl ?_
  intro v7 T7 h7 L7 S7 K7 q7
  obtain ⟨rfl, rfl⟩ := q7
  show Go _ _ _ _ T7 (mkF m 36 #[.val (.int k), .val (.int t0), .val (.int t1), .val (.int t2), .val (.int (own_max t0 (own_max t1 t2))), .val (.int (own_min t0 (own_min t1 t2))), .unset] [(.int (own_min (own_max t0 t1) t2)), (.int (own_min t0 t1))])
  refine Go.invokestatic S7 (y := ⟨"java/lang/Math", "max", "(II)I"⟩) (rm_max hw (own_min t0 t1) (own_min (own_max t0 t1) t2) S7.ext) (wd28 hw) (wd29 hw) (wd16 hw) (wd30 hw) (by decide) d_method_3_code_36 rfl pd0 (argsL := [(.int (own_min t0 t1)), (.int (own_min (own_max t0 t1) t2))]) rfl rfl rfl (by decide) (W := 0) rfl (by decide) (by decide) (by decide) all0 (pc' := 39) rfl ?_
  intro v8 T8 h8 L8 S8 K8 q8
  obtain ⟨rfl, rfl⟩ := q8
  show Go _ _ _ _ T8 (mkF m 39 #[.val (.int k), .val (.int t0), .val (.int t1), .val (.int t2), .val (.int (own_max t0 (own_max t1 t2))), .val (.int (own_min t0 (own_min t1 t2))), .unset] [(.int (own_max (own_min t0 t1) (own_min (own_max t0 t1) t2)))])
  refine Go.istore S8 d_method_3_code_39 (Ls' := #[.val (.int k), .val (.int t0), .val (.int t1), .val (.int t2), .val (.int (own_max t0 (own_max t1 t2))), .val (.int (own_min t0 (own_min t1 t2))), .val (.int (own_max (own_min t0 t1) (own_min (own_max t0 t1) t2)))]) rfl (pc' := 41) rfl ?_
  refine Go.iloadN S8 d_method_3_code_41 rfl (pc' := 42) rfl ?_
  refine Go.iconst S8 (v := 1) d_method_3_code_42 rfl (pc' := 43) rfl ?_
  refine Go.icmp_ne S8 d_method_3_code_43 (pt := 50) (by decide) (pc' := 46) rfl ?_ ?_
  · intro c43
    refine Go.iloadN S8 d_method_3_code_50 rfl (pc' := 51) rfl ?_
    refine Go.iconst S8 (v := 2) d_method_3_code_51 rfl (pc' := 52) rfl ?_
    refine Go.icmp_ne S8 d_method_3_code_52 (pt := 59) (by decide) (pc' := 55) rfl ?_ ?_
    · intro c52
      refine Go.iload S8 d_method_3_code_59 rfl (pc' := 61) rfl ?_
      refine Go.i2l S8 d_method_3_code_61 (pc' := 62) rfl ?_
      exact Go.lreturn S8 rfl d_method_3_code_62 (by decide) (by decide) (⟨by unfold own_lg; rw [if_neg c43, if_neg c52], rfl⟩)
    · intro c52
      refine Go.iload S8 d_method_3_code_55 rfl (pc' := 57) rfl ?_
      refine Go.i2l S8 d_method_3_code_57 (pc' := 58) rfl ?_
      exact Go.lreturn S8 rfl d_method_3_code_58 (by decide) (by decide) (⟨by unfold own_lg; rw [if_neg c43, if_pos c52], rfl⟩)
  · intro c43
    refine Go.iload S8 d_method_3_code_46 rfl (pc' := 48) rfl ?_
    refine Go.i2l S8 d_method_3_code_48 (pc' := 49) rfl ?_
    exact Go.lreturn S8 rfl d_method_3_code_49 (by decide) (by decide) (⟨by unfold own_lg; rw [if_pos c43], rfl⟩)
set_option maxRecDepth 65536 in
set_option maxHeartbeats 4000000 in
theorem rm_better {l : Launch} {Z : State} {a0 : Array Value} (hw : HW Z a0) (r : Addr) (dn : Int32) (sx : Int64) (k : Int32) (ia sa : Addr) (kI kS : ClassId) (nL : Int32) (wi wv : List Value) (ak : Int64) (dk : Int32) {h0 : Heap} (hE : Ext Z.heap h0) (Fi : Fld Z h0 r "com/example/opas/opas/Ranking" "ids" "[I" (.ref ia)) (Fs : Fld Z h0 r "com/example/opas/opas/Ranking" "scores" "[D" (.ref sa)) (VI : Arv Z h0 ia kI .int nL wi (.int 0)) (VS : Arv Z h0 sa kS .double nL wv (.double (FP.l2d 0))) (hj : ¬ k < 0 ∧ k < nL) (hvi : wi.getD k.toNatClampNeg (.int 0) = .int dk) (hvs : wv.getD k.toNatClampNeg (.double (FP.l2d 0)) = .double (FP.l2d ak)) (bS : (-2147483648 ≤ sx.toInt ∧ sx.toInt ≤ 2147483647)) (bA : (-2147483648 ≤ ak.toInt ∧ ak.toInt ≤ 2147483647)) :
    OMeets l Z (⟨"com/example/opas/opas/Ranking", "isBetter", "(IDI)Z"⟩ : MethodName) prog_22_method_10_code 5 (some .boolean) ({ frames := 0, cells := 0, slots := 0, locals := 0 } : Room) #[(.ref r), (.int dn), (.double (FP.l2d sx)), (.int k)] h0 [] (fun v h => (∃ w, v = some (.int w) ∧ (w = 0 → sx.toInt ≤ ak.toInt) ∧ (¬ w = 0 → ak.toInt ≤ sx.toInt)) ∧ h0 = h) := by
  refine OMeets.body (plainFor_of_name pn1) hE #[.val (.ref r), .val (.int dn), .val (.double (FP.l2d sx)), .second, .val (.int k)] (fun m => by first | rfl | (simp [entryFrame, mkF, argsToLocals, Value.category, maxLocals]; done)) ?_
  intro p e s m below meth co T S
  refine Go.dloadN S d_prog_22_method_10_code_0 rfl (pc' := 1) rfl ?_
  refine Go.aloadN S d_prog_22_method_10_code_1 rfl rfl (pc' := 2) rfl ?_
  refine Go.getfield S (host := "") (Or.inl (wd21 hw)) Via.refl Fs d_prog_22_method_10_code_2 (pc' := 5) rfl ?_
  intro T1 S1
  refine Go.iload S1 d_prog_22_method_10_code_5 rfl (pc' := 7) rfl ?_
  refine Go.daload S1 VS hj (v := (.double (FP.l2d ak))) hvs d_prog_22_method_10_code_7 (pc' := 8) rfl ?_
  refine Go.dcmp_gt S1 (own_b53 bS) (own_b53 bA) d_prog_22_method_10_code_8 (pc1 := 9) rfl d_prog_22_method_10_code_9 (pt := 35) (by decide) (pc' := 12) rfl ?_ ?_
  · intro c8
    refine Go.iconst S1 (v := 1) d_prog_22_method_10_code_35 rfl (pc' := 36) rfl ?_
    refine Go.goto S1 d_prog_22_method_10_code_36 (pc' := 40) (by decide) ?_
    exact Go.zreturn S1 rfl (by decide) d_prog_22_method_10_code_40 (z' := (1 : Int32)) rfl (by decide) (by decide) (⟨⟨1, rfl, fun z => absurd z (by decide), fun _ => own_lt c8⟩, rfl⟩)
  · intro c8
    refine Go.dloadN S1 d_prog_22_method_10_code_12 rfl (pc' := 13) rfl ?_
    refine Go.aloadN S1 d_prog_22_method_10_code_13 rfl rfl (pc' := 14) rfl ?_
    refine Go.getfield S1 (host := "") (Or.inl (wd21 hw)) Via.refl Fs d_prog_22_method_10_code_14 (pc' := 17) rfl ?_
    intro T2 S2
    refine Go.iload S2 d_prog_22_method_10_code_17 rfl (pc' := 19) rfl ?_
    refine Go.daload S2 VS hj (v := (.double (FP.l2d ak))) hvs d_prog_22_method_10_code_19 (pc' := 20) rfl ?_
    refine Go.dcmp_ne S2 (own_b53 bS) (own_b53 bA) d_prog_22_method_10_code_20 (pc1 := 21) rfl d_prog_22_method_10_code_21 (pt := 39) (by decide) (pc' := 24) rfl ?_ ?_
    · intro c20
      refine Go.iconst S2 (v := 0) d_prog_22_method_10_code_39 rfl (pc' := 40) rfl ?_
      exact Go.zreturn S2 rfl (by decide) d_prog_22_method_10_code_40 (z' := (0 : Int32)) rfl (by decide) (by decide) (⟨⟨0, rfl, fun _ => own_nlt c8, fun z => absurd rfl z⟩, rfl⟩)
    · intro c20
      refine Go.iloadN S2 d_prog_22_method_10_code_24 rfl (pc' := 25) rfl ?_
      refine Go.aloadN S2 d_prog_22_method_10_code_25 rfl rfl (pc' := 26) rfl ?_
      refine Go.getfield S2 (host := "") (Or.inl (wd18 hw)) Via.refl Fi d_prog_22_method_10_code_26 (pc' := 29) rfl ?_
      intro T3 S3
      refine Go.iload S3 d_prog_22_method_10_code_29 rfl (pc' := 31) rfl ?_
      refine Go.iaload S3 VI hj (v := (.int dk)) hvi d_prog_22_method_10_code_31 (pc' := 32) rfl ?_
      refine Go.icmp_ge S3 d_prog_22_method_10_code_32 (pt := 39) (by decide) (pc' := 35) rfl ?_ ?_
      · intro c32
        refine Go.iconst S3 (v := 0) d_prog_22_method_10_code_39 rfl (pc' := 40) rfl ?_
        exact Go.zreturn S3 rfl (by decide) d_prog_22_method_10_code_40 (z' := (0 : Int32)) rfl (by decide) (by decide) (⟨⟨0, rfl, fun _ => Int.le_of_eq (congrArg Int64.toInt c20), fun z => absurd rfl z⟩, rfl⟩)
      · intro c32
        refine Go.iconst S3 (v := 1) d_prog_22_method_10_code_35 rfl (pc' := 36) rfl ?_
        refine Go.goto S3 d_prog_22_method_10_code_36 (pc' := 40) (by decide) ?_
        exact Go.zreturn S3 rfl (by decide) d_prog_22_method_10_code_40 (z' := (1 : Int32)) rfl (by decide) (by decide) (⟨⟨1, rfl, fun z => absurd z (by decide), fun _ => Int.le_of_eq (congrArg Int64.toInt c20.symm)⟩, rfl⟩)
set_option maxRecDepth 65536 in
set_option maxHeartbeats 4000000 in
theorem rm_keep {l : Launch} {Z : State} {a0 : Array Value} (hw : HW Z a0) (r : Addr) (q : Int64) (sa : Addr) (msz lm : Int32) (b0 : Int64) {h0 : Heap} (hE : Ext Z.heap h0) (Fl : Fld Z h0 r "com/example/opas/opas/Ranking" "limit" "I" (.int lm)) (Fs : Fld Z h0 r "com/example/opas/opas/Ranking" "scores" "[D" (.ref sa)) (Fn : Fld Z h0 r "com/example/opas/opas/Ranking" "size" "I" (.int msz)) (bq : B53 q) (hV : ¬ msz < lm → 0 < lm → (-2147483648 ≤ b0.toInt ∧ b0.toInt ≤ 2147483647) ∧ ∃ kS nL wv, Arv Z h0 sa kS .double nL (.double (FP.l2d b0) :: wv) (.double (FP.l2d 0)) ∧ ¬ (0 : Int32) < 0 ∧ 0 < nL) :
    OMeets l Z (⟨"com/example/opas/opas/Ranking", "couldKeep", "(D)Z"⟩ : MethodName) prog_22_method_5_code 3 (some .boolean) ({ frames := 0, cells := 0, slots := 0, locals := 0 } : Room) #[(.ref r), (.double (FP.l2d q))] h0 [] (fun v h => v = some (.int (if msz < lm then 1 else if 0 < lm then (if q < b0 then 0 else 1) else 0)) ∧ h0 = h) := by
  refine OMeets.body (plainFor_of_name pn1) hE #[.val (.ref r), .val (.double (FP.l2d q)), .second] (fun m => by first | rfl | (simp [entryFrame, mkF, argsToLocals, Value.category, maxLocals]; done)) ?_
  intro p e s m below meth co T S
  refine Go.aloadN S d_prog_22_method_5_code_0 rfl rfl (pc' := 1) rfl ?_
  refine Go.getfield S (host := "") (Or.inl (wd37 hw)) Via.refl Fn d_prog_22_method_5_code_1 (pc' := 4) rfl ?_
  intro T1 S1
  refine Go.aloadN S1 d_prog_22_method_5_code_4 rfl rfl (pc' := 5) rfl ?_
  refine Go.getfield S1 (host := "") (Or.inl (wd12 hw)) Via.refl Fl d_prog_22_method_5_code_5 (pc' := 8) rfl ?_
  intro T2 S2
  refine Go.icmp_lt S2 d_prog_22_method_5_code_8 (pt := 29) (by decide) (pc' := 11) rfl ?_ ?_
  · intro c8
    refine Go.iconst S2 (v := 1) d_prog_22_method_5_code_29 rfl (pc' := 30) rfl ?_
    refine Go.goto S2 d_prog_22_method_5_code_30 (pc' := 34) (by decide) ?_
    exact Go.zreturn S2 rfl (by decide) d_prog_22_method_5_code_34 (z' := (1 : Int32)) rfl (by decide) (by decide) (⟨by rw [if_pos c8], rfl⟩)
  · intro c8
    refine Go.aloadN S2 d_prog_22_method_5_code_11 rfl rfl (pc' := 12) rfl ?_
    refine Go.getfield S2 (host := "") (Or.inl (wd12 hw)) Via.refl Fl d_prog_22_method_5_code_12 (pc' := 15) rfl ?_
    intro T3 S3
    refine Go.if_le S3 d_prog_22_method_5_code_15 (pt := 33) (by decide) (pc' := 18) rfl ?_ ?_
    · intro c15
      refine Go.iconst S3 (v := 0) d_prog_22_method_5_code_33 rfl (pc' := 34) rfl ?_
      exact Go.zreturn S3 rfl (by decide) d_prog_22_method_5_code_34 (z' := (0 : Int32)) rfl (by decide) (by decide) (⟨by rw [if_neg c8, if_neg c15], rfl⟩)
    · intro c15
      obtain ⟨bB, kS, nL, wv, VS, hj⟩ := hV c8 c15
      refine Go.dloadN S3 d_prog_22_method_5_code_18 rfl (pc' := 19) rfl ?_
      refine Go.aloadN S3 d_prog_22_method_5_code_19 rfl rfl (pc' := 20) rfl ?_
      refine Go.getfield S3 (host := "") (Or.inl (wd21 hw)) Via.refl Fs d_prog_22_method_5_code_20 (pc' := 23) rfl ?_
      intro T4 S4
      refine Go.iconst S4 (v := 0) d_prog_22_method_5_code_23 rfl (pc' := 24) rfl ?_
      refine Go.daload S4 VS hj (v := (.double (FP.l2d b0))) rfl d_prog_22_method_5_code_24 (pc' := 25) rfl ?_
      refine Go.dcmp_lt S4 bq (own_b53 bB) d_prog_22_method_5_code_25 (pc1 := 26) rfl d_prog_22_method_5_code_26 (pt := 33) (by decide) (pc' := 29) rfl ?_ ?_
      · intro c25
        refine Go.iconst S4 (v := 0) d_prog_22_method_5_code_33 rfl (pc' := 34) rfl ?_
        exact Go.zreturn S4 rfl (by decide) d_prog_22_method_5_code_34 (z' := (0 : Int32)) rfl (by decide) (by decide) (⟨by rw [if_neg c8, if_pos c15, if_pos c25], rfl⟩)
      · intro c25
        refine Go.iconst S4 (v := 1) d_prog_22_method_5_code_29 rfl (pc' := 30) rfl ?_
        refine Go.goto S4 d_prog_22_method_5_code_30 (pc' := 34) (by decide) ?_
        exact Go.zreturn S4 rfl (by decide) d_prog_22_method_5_code_34 (z' := (1 : Int32)) rfl (by decide) (by decide) (⟨by rw [if_neg c8, if_pos c15, if_neg c25], rfl⟩)
set_option maxRecDepth 65536 in
set_option maxHeartbeats 4000000 in
theorem rm_exc {l : Launch} {Z : State} {a0 : Array Value} (hw : HW Z a0) (r : Addr) (dn : Int32) (xa : Addr) (kX : ClassId) {h0 : Heap} (hE : Ext Z.heap h0) (Fx : Fld Z h0 r "com/example/opas/opas/Ranking" "excluded" "[I" (.ref xa)) (VX : Arv Z h0 xa kX .int 0 [] (.int 0)) :
    OMeets l Z (⟨"com/example/opas/opas/Ranking", "isExcluded", "(I)Z"⟩ : MethodName) prog_22_method_9_code 2 (some .boolean) ({ frames := 0, cells := 0, slots := 0, locals := 0 } : Room) #[(.ref r), (.int dn)] h0 [] (fun v h => v = some (.int 0) ∧ h0 = h) := by
  refine OMeets.body (plainFor_of_name pn1) hE #[.val (.ref r), .val (.int dn)] (fun m => by first | rfl | (simp [entryFrame, mkF, argsToLocals, Value.category, maxLocals]; done)) ?_
  intro p e s m below meth co T S
  refine Go.aloadN S d_prog_22_method_9_code_0 rfl rfl (pc' := 1) rfl ?_
  refine Go.getfield S (host := "") (Or.inl (wd10 hw)) Via.refl Fx d_prog_22_method_9_code_1 (pc' := 4) rfl ?_
  intro T1 S1
  refine Go.arraylength S1 VX d_prog_22_method_9_code_4 (pc' := 5) rfl ?_
  refine Go.if_le S1 d_prog_22_method_9_code_5 (pt := 23) (by decide) (pc' := 8) rfl ?_ ?_
  · intro c5
    refine Go.iconst S1 (v := 0) d_prog_22_method_9_code_23 rfl (pc' := 24) rfl ?_
    exact Go.zreturn S1 rfl (by decide) d_prog_22_method_9_code_24 (z' := (0 : Int32)) rfl (by decide) (by decide) (⟨rfl, rfl⟩)
  · intro c5; exact absurd c5 (by decide)
set_option maxRecDepth 65536 in
set_option maxHeartbeats 4000000 in
theorem rm_swap21 {l : Launch} {Z : State} {a0 : Array Value} (hw : HW Z a0) (r : Addr) (ia sa : Addr) (kI kS : ClassId) (d0 d1 : Int32) (a0 a1 : Int64) {h0 : Heap} (hE : Ext Z.heap h0) (Fi : Fld Z h0 r "com/example/opas/opas/Ranking" "ids" "[I" (.ref ia)) (Fs : Fld Z h0 r "com/example/opas/opas/Ranking" "scores" "[D" (.ref sa)) (VI : Arv Z h0 ia kI .int (2 : Int32) [(.int d0), (.int d1)] (.int 0)) (VS : Arv Z h0 sa kS .double (2 : Int32) [(.double (FP.l2d a0)), (.double (FP.l2d a1))] (.double (FP.l2d 0))) (hzi : Z.heap.size ≤ ia) (hzs : Z.heap.size ≤ sa) (nri : r ≠ ia) (nrs : r ≠ sa) (nis : ia ≠ sa) :
    OMeets l Z (⟨"com/example/opas/opas/Ranking", "swap", "(II)V"⟩ : MethodName) prog_22_method_13_code 6 none ({ frames := 0, cells := 0, slots := 0, locals := 0 } : Room) #[(.ref r), (.int (0 : Int32)), (.int (1 : Int32))] h0 [ia, sa] (fun v h => v = none ∧ Arv Z h ia kI .int (2 : Int32) [(.int d1), (.int d0)] (.int 0) ∧ Arv Z h sa kS .double (2 : Int32) [(.double (FP.l2d a1)), (.double (FP.l2d a0))] (.double (FP.l2d 0))) := by
  refine OMeets.body (plainFor_of_name pn1) hE #[.val (.ref r), .val (.int (0 : Int32)), .val (.int (1 : Int32)), .unset, .unset, .unset] (fun m => by first | rfl | (simp [entryFrame, mkF, argsToLocals, Value.category, maxLocals]; done)) ?_
  intro p e s m below meth co T S
  refine Go.aloadN S d_prog_22_method_13_code_0 rfl rfl (pc' := 1) rfl ?_
  refine Go.getfield S (host := "") (Or.inl (wd18 hw)) Via.refl Fi d_prog_22_method_13_code_1 (pc' := 4) rfl ?_
  intro T1 S1
  refine Go.iloadN S1 d_prog_22_method_13_code_4 rfl (pc' := 5) rfl ?_
  refine Go.iaload S1 VI (by decide) (v := (.int d0)) rfl d_prog_22_method_13_code_5 (pc' := 6) rfl ?_
  refine Go.istoreN S1 d_prog_22_method_13_code_6 (Ls' := #[.val (.ref r), .val (.int (0 : Int32)), .val (.int (1 : Int32)), .val (.int d0), .unset, .unset]) rfl (pc' := 7) rfl ?_
  refine Go.aloadN S1 d_prog_22_method_13_code_7 rfl rfl (pc' := 8) rfl ?_
  refine Go.getfield S1 (host := "") (Or.inl (wd18 hw)) Via.refl Fi d_prog_22_method_13_code_8 (pc' := 11) rfl ?_
  intro T2 S2
  refine Go.iloadN S2 d_prog_22_method_13_code_11 rfl (pc' := 12) rfl ?_
  refine Go.aloadN S2 d_prog_22_method_13_code_12 rfl rfl (pc' := 13) rfl ?_
  refine Go.getfield S2 (host := "") (Or.inl (wd18 hw)) Via.refl Fi d_prog_22_method_13_code_13 (pc' := 16) rfl ?_
  intro T3 S3
  refine Go.iloadN S3 d_prog_22_method_13_code_16 rfl (pc' := 17) rfl ?_
  refine Go.iaload S3 VI (by decide) (v := (.int d1)) rfl d_prog_22_method_13_code_17 (pc' := 18) rfl ?_
  refine Go.iastore S3 VI (by decide) (i := 0) (by decide) (Nat.le_of_ble_eq_true rfl) hzi (Or.inl (List.mem_cons_self ..)) d_prog_22_method_13_code_18 (pc' := 19) rfl ?_
  intro T4 h4 L4 S4 W4 V4
  replace V4 : Arv Z h4 ia kI .int (2 : Int32) [(.int d1), (.int d1)] (.int 0) := V4
  replace Fi := Fi.other W4 (Or.inl (nri))
  replace Fs := Fs.other W4 (Or.inl (nri))
  replace VS := VS.other W4 ((Ne.symm nis))
  refine Go.aloadN S4 d_prog_22_method_13_code_19 rfl rfl (pc' := 20) rfl ?_
  refine Go.getfield S4 (host := "") (Or.inl (wd18 hw)) Via.refl Fi d_prog_22_method_13_code_20 (pc' := 23) rfl ?_
  intro T5 S5
  refine Go.iloadN S5 d_prog_22_method_13_code_23 rfl (pc' := 24) rfl ?_
  refine Go.iloadN S5 d_prog_22_method_13_code_24 rfl (pc' := 25) rfl ?_
  refine Go.iastore S5 V4 (by decide) (i := 1) (by decide) (Nat.le_of_ble_eq_true rfl) hzi (Or.inl (List.mem_cons_self ..)) d_prog_22_method_13_code_25 (pc' := 26) rfl ?_
  intro T6 h6 L6 S6 W6 V6
  replace V6 : Arv Z h6 ia kI .int (2 : Int32) [(.int d1), (.int d0)] (.int 0) := V6
  replace Fi := Fi.other W6 (Or.inl (nri))
  replace Fs := Fs.other W6 (Or.inl (nri))
  replace VS := VS.other W6 ((Ne.symm nis))
  refine Go.aloadN S6 d_prog_22_method_13_code_26 rfl rfl (pc' := 27) rfl ?_
  refine Go.getfield S6 (host := "") (Or.inl (wd21 hw)) Via.refl Fs d_prog_22_method_13_code_27 (pc' := 30) rfl ?_
  intro T7 S7
  refine Go.iloadN S7 d_prog_22_method_13_code_30 rfl (pc' := 31) rfl ?_
  refine Go.daload S7 VS (by decide) (v := (.double (FP.l2d a0))) rfl d_prog_22_method_13_code_31 (pc' := 32) rfl ?_
  refine Go.dstore S7 d_prog_22_method_13_code_32 (Ls' := #[.val (.ref r), .val (.int (0 : Int32)), .val (.int (1 : Int32)), .val (.int d0), .val (.double (FP.l2d a0)), .second]) rfl (pc' := 34) rfl ?_
  refine Go.aloadN S7 d_prog_22_method_13_code_34 rfl rfl (pc' := 35) rfl ?_
  refine Go.getfield S7 (host := "") (Or.inl (wd21 hw)) Via.refl Fs d_prog_22_method_13_code_35 (pc' := 38) rfl ?_
  intro T8 S8
  refine Go.iloadN S8 d_prog_22_method_13_code_38 rfl (pc' := 39) rfl ?_
  refine Go.aloadN S8 d_prog_22_method_13_code_39 rfl rfl (pc' := 40) rfl ?_
  refine Go.getfield S8 (host := "") (Or.inl (wd21 hw)) Via.refl Fs d_prog_22_method_13_code_40 (pc' := 43) rfl ?_
  intro T9 S9
  refine Go.iloadN S9 d_prog_22_method_13_code_43 rfl (pc' := 44) rfl ?_
  refine Go.daload S9 VS (by decide) (v := (.double (FP.l2d a1))) rfl d_prog_22_method_13_code_44 (pc' := 45) rfl ?_
  refine Go.dastore S9 VS (by decide) (i := 0) (by decide) (Nat.le_of_ble_eq_true rfl) hzs (Or.inl (List.mem_cons_of_mem _ (List.mem_singleton.mpr rfl))) d_prog_22_method_13_code_45 (pc' := 46) rfl ?_
  intro T10 h10 L10 S10 W10 V10
  replace V10 : Arv Z h10 sa kS .double (2 : Int32) [(.double (FP.l2d a1)), (.double (FP.l2d a1))] (.double (FP.l2d 0)) := V10
  replace Fi := Fi.other W10 (Or.inl (nrs))
  replace Fs := Fs.other W10 (Or.inl (nrs))
  replace V6 := V6.other W10 (nis)
  refine Go.aloadN S10 d_prog_22_method_13_code_46 rfl rfl (pc' := 47) rfl ?_
  refine Go.getfield S10 (host := "") (Or.inl (wd21 hw)) Via.refl Fs d_prog_22_method_13_code_47 (pc' := 50) rfl ?_
  intro T11 S11
  refine Go.iloadN S11 d_prog_22_method_13_code_50 rfl (pc' := 51) rfl ?_
  refine Go.dload S11 d_prog_22_method_13_code_51 rfl (pc' := 53) rfl ?_
  refine Go.dastore S11 V10 (by decide) (i := 1) (by decide) (Nat.le_of_ble_eq_true rfl) hzs (Or.inl (List.mem_cons_of_mem _ (List.mem_singleton.mpr rfl))) d_prog_22_method_13_code_53 (pc' := 54) rfl ?_
  intro T12 h12 L12 S12 W12 V12
  replace V12 : Arv Z h12 sa kS .double (2 : Int32) [(.double (FP.l2d a1)), (.double (FP.l2d a0))] (.double (FP.l2d 0)) := V12
  replace Fi := Fi.other W12 (Or.inl (nrs))
  replace Fs := Fs.other W12 (Or.inl (nrs))
  replace V6 := V6.other W12 (nis)
  exact Go.vreturn S12 rfl d_prog_22_method_13_code_54 (by decide) (by decide) (⟨rfl, V6, V12⟩)
set_option maxRecDepth 65536 in
set_option maxHeartbeats 4000000 in
theorem rm_swap31 {l : Launch} {Z : State} {a0 : Array Value} (hw : HW Z a0) (r : Addr) (ia sa : Addr) (kI kS : ClassId) (d0 d1 d2 : Int32) (a0 a1 a2 : Int64) {h0 : Heap} (hE : Ext Z.heap h0) (Fi : Fld Z h0 r "com/example/opas/opas/Ranking" "ids" "[I" (.ref ia)) (Fs : Fld Z h0 r "com/example/opas/opas/Ranking" "scores" "[D" (.ref sa)) (VI : Arv Z h0 ia kI .int (3 : Int32) [(.int d0), (.int d1), (.int d2)] (.int 0)) (VS : Arv Z h0 sa kS .double (3 : Int32) [(.double (FP.l2d a0)), (.double (FP.l2d a1)), (.double (FP.l2d a2))] (.double (FP.l2d 0))) (hzi : Z.heap.size ≤ ia) (hzs : Z.heap.size ≤ sa) (nri : r ≠ ia) (nrs : r ≠ sa) (nis : ia ≠ sa) :
    OMeets l Z (⟨"com/example/opas/opas/Ranking", "swap", "(II)V"⟩ : MethodName) prog_22_method_13_code 6 none ({ frames := 0, cells := 0, slots := 0, locals := 0 } : Room) #[(.ref r), (.int (0 : Int32)), (.int (1 : Int32))] h0 [ia, sa] (fun v h => v = none ∧ Arv Z h ia kI .int (3 : Int32) [(.int d1), (.int d0), (.int d2)] (.int 0) ∧ Arv Z h sa kS .double (3 : Int32) [(.double (FP.l2d a1)), (.double (FP.l2d a0)), (.double (FP.l2d a2))] (.double (FP.l2d 0))) := by
  refine OMeets.body (plainFor_of_name pn1) hE #[.val (.ref r), .val (.int (0 : Int32)), .val (.int (1 : Int32)), .unset, .unset, .unset] (fun m => by first | rfl | (simp [entryFrame, mkF, argsToLocals, Value.category, maxLocals]; done)) ?_
  intro p e s m below meth co T S
  refine Go.aloadN S d_prog_22_method_13_code_0 rfl rfl (pc' := 1) rfl ?_
  refine Go.getfield S (host := "") (Or.inl (wd18 hw)) Via.refl Fi d_prog_22_method_13_code_1 (pc' := 4) rfl ?_
  intro T1 S1
  refine Go.iloadN S1 d_prog_22_method_13_code_4 rfl (pc' := 5) rfl ?_
  refine Go.iaload S1 VI (by decide) (v := (.int d0)) rfl d_prog_22_method_13_code_5 (pc' := 6) rfl ?_
  refine Go.istoreN S1 d_prog_22_method_13_code_6 (Ls' := #[.val (.ref r), .val (.int (0 : Int32)), .val (.int (1 : Int32)), .val (.int d0), .unset, .unset]) rfl (pc' := 7) rfl ?_
  refine Go.aloadN S1 d_prog_22_method_13_code_7 rfl rfl (pc' := 8) rfl ?_
  refine Go.getfield S1 (host := "") (Or.inl (wd18 hw)) Via.refl Fi d_prog_22_method_13_code_8 (pc' := 11) rfl ?_
  intro T2 S2
  refine Go.iloadN S2 d_prog_22_method_13_code_11 rfl (pc' := 12) rfl ?_
  refine Go.aloadN S2 d_prog_22_method_13_code_12 rfl rfl (pc' := 13) rfl ?_
  refine Go.getfield S2 (host := "") (Or.inl (wd18 hw)) Via.refl Fi d_prog_22_method_13_code_13 (pc' := 16) rfl ?_
  intro T3 S3
  refine Go.iloadN S3 d_prog_22_method_13_code_16 rfl (pc' := 17) rfl ?_
  refine Go.iaload S3 VI (by decide) (v := (.int d1)) rfl d_prog_22_method_13_code_17 (pc' := 18) rfl ?_
  refine Go.iastore S3 VI (by decide) (i := 0) (by decide) (Nat.le_of_ble_eq_true rfl) hzi (Or.inl (List.mem_cons_self ..)) d_prog_22_method_13_code_18 (pc' := 19) rfl ?_
  intro T4 h4 L4 S4 W4 V4
  replace V4 : Arv Z h4 ia kI .int (3 : Int32) [(.int d1), (.int d1), (.int d2)] (.int 0) := V4
  replace Fi := Fi.other W4 (Or.inl (nri))
  replace Fs := Fs.other W4 (Or.inl (nri))
  replace VS := VS.other W4 ((Ne.symm nis))
  refine Go.aloadN S4 d_prog_22_method_13_code_19 rfl rfl (pc' := 20) rfl ?_
  refine Go.getfield S4 (host := "") (Or.inl (wd18 hw)) Via.refl Fi d_prog_22_method_13_code_20 (pc' := 23) rfl ?_
  intro T5 S5
  refine Go.iloadN S5 d_prog_22_method_13_code_23 rfl (pc' := 24) rfl ?_
  refine Go.iloadN S5 d_prog_22_method_13_code_24 rfl (pc' := 25) rfl ?_
  refine Go.iastore S5 V4 (by decide) (i := 1) (by decide) (Nat.le_of_ble_eq_true rfl) hzi (Or.inl (List.mem_cons_self ..)) d_prog_22_method_13_code_25 (pc' := 26) rfl ?_
  intro T6 h6 L6 S6 W6 V6
  replace V6 : Arv Z h6 ia kI .int (3 : Int32) [(.int d1), (.int d0), (.int d2)] (.int 0) := V6
  replace Fi := Fi.other W6 (Or.inl (nri))
  replace Fs := Fs.other W6 (Or.inl (nri))
  replace VS := VS.other W6 ((Ne.symm nis))
  refine Go.aloadN S6 d_prog_22_method_13_code_26 rfl rfl (pc' := 27) rfl ?_
  refine Go.getfield S6 (host := "") (Or.inl (wd21 hw)) Via.refl Fs d_prog_22_method_13_code_27 (pc' := 30) rfl ?_
  intro T7 S7
  refine Go.iloadN S7 d_prog_22_method_13_code_30 rfl (pc' := 31) rfl ?_
  refine Go.daload S7 VS (by decide) (v := (.double (FP.l2d a0))) rfl d_prog_22_method_13_code_31 (pc' := 32) rfl ?_
  refine Go.dstore S7 d_prog_22_method_13_code_32 (Ls' := #[.val (.ref r), .val (.int (0 : Int32)), .val (.int (1 : Int32)), .val (.int d0), .val (.double (FP.l2d a0)), .second]) rfl (pc' := 34) rfl ?_
  refine Go.aloadN S7 d_prog_22_method_13_code_34 rfl rfl (pc' := 35) rfl ?_
  refine Go.getfield S7 (host := "") (Or.inl (wd21 hw)) Via.refl Fs d_prog_22_method_13_code_35 (pc' := 38) rfl ?_
  intro T8 S8
  refine Go.iloadN S8 d_prog_22_method_13_code_38 rfl (pc' := 39) rfl ?_
  refine Go.aloadN S8 d_prog_22_method_13_code_39 rfl rfl (pc' := 40) rfl ?_
  refine Go.getfield S8 (host := "") (Or.inl (wd21 hw)) Via.refl Fs d_prog_22_method_13_code_40 (pc' := 43) rfl ?_
  intro T9 S9
  refine Go.iloadN S9 d_prog_22_method_13_code_43 rfl (pc' := 44) rfl ?_
  refine Go.daload S9 VS (by decide) (v := (.double (FP.l2d a1))) rfl d_prog_22_method_13_code_44 (pc' := 45) rfl ?_
  refine Go.dastore S9 VS (by decide) (i := 0) (by decide) (Nat.le_of_ble_eq_true rfl) hzs (Or.inl (List.mem_cons_of_mem _ (List.mem_singleton.mpr rfl))) d_prog_22_method_13_code_45 (pc' := 46) rfl ?_
  intro T10 h10 L10 S10 W10 V10
  replace V10 : Arv Z h10 sa kS .double (3 : Int32) [(.double (FP.l2d a1)), (.double (FP.l2d a1)), (.double (FP.l2d a2))] (.double (FP.l2d 0)) := V10
  replace Fi := Fi.other W10 (Or.inl (nrs))
  replace Fs := Fs.other W10 (Or.inl (nrs))
  replace V6 := V6.other W10 (nis)
  refine Go.aloadN S10 d_prog_22_method_13_code_46 rfl rfl (pc' := 47) rfl ?_
  refine Go.getfield S10 (host := "") (Or.inl (wd21 hw)) Via.refl Fs d_prog_22_method_13_code_47 (pc' := 50) rfl ?_
  intro T11 S11
  refine Go.iloadN S11 d_prog_22_method_13_code_50 rfl (pc' := 51) rfl ?_
  refine Go.dload S11 d_prog_22_method_13_code_51 rfl (pc' := 53) rfl ?_
  refine Go.dastore S11 V10 (by decide) (i := 1) (by decide) (Nat.le_of_ble_eq_true rfl) hzs (Or.inl (List.mem_cons_of_mem _ (List.mem_singleton.mpr rfl))) d_prog_22_method_13_code_53 (pc' := 54) rfl ?_
  intro T12 h12 L12 S12 W12 V12
  replace V12 : Arv Z h12 sa kS .double (3 : Int32) [(.double (FP.l2d a1)), (.double (FP.l2d a0)), (.double (FP.l2d a2))] (.double (FP.l2d 0)) := V12
  replace Fi := Fi.other W12 (Or.inl (nrs))
  replace Fs := Fs.other W12 (Or.inl (nrs))
  replace V6 := V6.other W12 (nis)
  exact Go.vreturn S12 rfl d_prog_22_method_13_code_54 (by decide) (by decide) (⟨rfl, V6, V12⟩)
set_option maxRecDepth 65536 in
set_option maxHeartbeats 4000000 in
theorem rm_swap32 {l : Launch} {Z : State} {a0 : Array Value} (hw : HW Z a0) (r : Addr) (ia sa : Addr) (kI kS : ClassId) (d0 d1 d2 : Int32) (a0 a1 a2 : Int64) {h0 : Heap} (hE : Ext Z.heap h0) (Fi : Fld Z h0 r "com/example/opas/opas/Ranking" "ids" "[I" (.ref ia)) (Fs : Fld Z h0 r "com/example/opas/opas/Ranking" "scores" "[D" (.ref sa)) (VI : Arv Z h0 ia kI .int (3 : Int32) [(.int d0), (.int d1), (.int d2)] (.int 0)) (VS : Arv Z h0 sa kS .double (3 : Int32) [(.double (FP.l2d a0)), (.double (FP.l2d a1)), (.double (FP.l2d a2))] (.double (FP.l2d 0))) (hzi : Z.heap.size ≤ ia) (hzs : Z.heap.size ≤ sa) (nri : r ≠ ia) (nrs : r ≠ sa) (nis : ia ≠ sa) :
    OMeets l Z (⟨"com/example/opas/opas/Ranking", "swap", "(II)V"⟩ : MethodName) prog_22_method_13_code 6 none ({ frames := 0, cells := 0, slots := 0, locals := 0 } : Room) #[(.ref r), (.int (0 : Int32)), (.int (2 : Int32))] h0 [ia, sa] (fun v h => v = none ∧ Arv Z h ia kI .int (3 : Int32) [(.int d2), (.int d1), (.int d0)] (.int 0) ∧ Arv Z h sa kS .double (3 : Int32) [(.double (FP.l2d a2)), (.double (FP.l2d a1)), (.double (FP.l2d a0))] (.double (FP.l2d 0))) := by
  refine OMeets.body (plainFor_of_name pn1) hE #[.val (.ref r), .val (.int (0 : Int32)), .val (.int (2 : Int32)), .unset, .unset, .unset] (fun m => by first | rfl | (simp [entryFrame, mkF, argsToLocals, Value.category, maxLocals]; done)) ?_
  intro p e s m below meth co T S
  refine Go.aloadN S d_prog_22_method_13_code_0 rfl rfl (pc' := 1) rfl ?_
  refine Go.getfield S (host := "") (Or.inl (wd18 hw)) Via.refl Fi d_prog_22_method_13_code_1 (pc' := 4) rfl ?_
  intro T1 S1
  refine Go.iloadN S1 d_prog_22_method_13_code_4 rfl (pc' := 5) rfl ?_
  refine Go.iaload S1 VI (by decide) (v := (.int d0)) rfl d_prog_22_method_13_code_5 (pc' := 6) rfl ?_
  refine Go.istoreN S1 d_prog_22_method_13_code_6 (Ls' := #[.val (.ref r), .val (.int (0 : Int32)), .val (.int (2 : Int32)), .val (.int d0), .unset, .unset]) rfl (pc' := 7) rfl ?_
  refine Go.aloadN S1 d_prog_22_method_13_code_7 rfl rfl (pc' := 8) rfl ?_
  refine Go.getfield S1 (host := "") (Or.inl (wd18 hw)) Via.refl Fi d_prog_22_method_13_code_8 (pc' := 11) rfl ?_
  intro T2 S2
  refine Go.iloadN S2 d_prog_22_method_13_code_11 rfl (pc' := 12) rfl ?_
  refine Go.aloadN S2 d_prog_22_method_13_code_12 rfl rfl (pc' := 13) rfl ?_
  refine Go.getfield S2 (host := "") (Or.inl (wd18 hw)) Via.refl Fi d_prog_22_method_13_code_13 (pc' := 16) rfl ?_
  intro T3 S3
  refine Go.iloadN S3 d_prog_22_method_13_code_16 rfl (pc' := 17) rfl ?_
  refine Go.iaload S3 VI (by decide) (v := (.int d2)) rfl d_prog_22_method_13_code_17 (pc' := 18) rfl ?_
  refine Go.iastore S3 VI (by decide) (i := 0) (by decide) (Nat.le_of_ble_eq_true rfl) hzi (Or.inl (List.mem_cons_self ..)) d_prog_22_method_13_code_18 (pc' := 19) rfl ?_
  intro T4 h4 L4 S4 W4 V4
  replace V4 : Arv Z h4 ia kI .int (3 : Int32) [(.int d2), (.int d1), (.int d2)] (.int 0) := V4
  replace Fi := Fi.other W4 (Or.inl (nri))
  replace Fs := Fs.other W4 (Or.inl (nri))
  replace VS := VS.other W4 ((Ne.symm nis))
  refine Go.aloadN S4 d_prog_22_method_13_code_19 rfl rfl (pc' := 20) rfl ?_
  refine Go.getfield S4 (host := "") (Or.inl (wd18 hw)) Via.refl Fi d_prog_22_method_13_code_20 (pc' := 23) rfl ?_
  intro T5 S5
  refine Go.iloadN S5 d_prog_22_method_13_code_23 rfl (pc' := 24) rfl ?_
  refine Go.iloadN S5 d_prog_22_method_13_code_24 rfl (pc' := 25) rfl ?_
  refine Go.iastore S5 V4 (by decide) (i := 2) (by decide) (Nat.le_of_ble_eq_true rfl) hzi (Or.inl (List.mem_cons_self ..)) d_prog_22_method_13_code_25 (pc' := 26) rfl ?_
  intro T6 h6 L6 S6 W6 V6
  replace V6 : Arv Z h6 ia kI .int (3 : Int32) [(.int d2), (.int d1), (.int d0)] (.int 0) := V6
  replace Fi := Fi.other W6 (Or.inl (nri))
  replace Fs := Fs.other W6 (Or.inl (nri))
  replace VS := VS.other W6 ((Ne.symm nis))
  refine Go.aloadN S6 d_prog_22_method_13_code_26 rfl rfl (pc' := 27) rfl ?_
  refine Go.getfield S6 (host := "") (Or.inl (wd21 hw)) Via.refl Fs d_prog_22_method_13_code_27 (pc' := 30) rfl ?_
  intro T7 S7
  refine Go.iloadN S7 d_prog_22_method_13_code_30 rfl (pc' := 31) rfl ?_
  refine Go.daload S7 VS (by decide) (v := (.double (FP.l2d a0))) rfl d_prog_22_method_13_code_31 (pc' := 32) rfl ?_
  refine Go.dstore S7 d_prog_22_method_13_code_32 (Ls' := #[.val (.ref r), .val (.int (0 : Int32)), .val (.int (2 : Int32)), .val (.int d0), .val (.double (FP.l2d a0)), .second]) rfl (pc' := 34) rfl ?_
  refine Go.aloadN S7 d_prog_22_method_13_code_34 rfl rfl (pc' := 35) rfl ?_
  refine Go.getfield S7 (host := "") (Or.inl (wd21 hw)) Via.refl Fs d_prog_22_method_13_code_35 (pc' := 38) rfl ?_
  intro T8 S8
  refine Go.iloadN S8 d_prog_22_method_13_code_38 rfl (pc' := 39) rfl ?_
  refine Go.aloadN S8 d_prog_22_method_13_code_39 rfl rfl (pc' := 40) rfl ?_
  refine Go.getfield S8 (host := "") (Or.inl (wd21 hw)) Via.refl Fs d_prog_22_method_13_code_40 (pc' := 43) rfl ?_
  intro T9 S9
  refine Go.iloadN S9 d_prog_22_method_13_code_43 rfl (pc' := 44) rfl ?_
  refine Go.daload S9 VS (by decide) (v := (.double (FP.l2d a2))) rfl d_prog_22_method_13_code_44 (pc' := 45) rfl ?_
  refine Go.dastore S9 VS (by decide) (i := 0) (by decide) (Nat.le_of_ble_eq_true rfl) hzs (Or.inl (List.mem_cons_of_mem _ (List.mem_singleton.mpr rfl))) d_prog_22_method_13_code_45 (pc' := 46) rfl ?_
  intro T10 h10 L10 S10 W10 V10
  replace V10 : Arv Z h10 sa kS .double (3 : Int32) [(.double (FP.l2d a2)), (.double (FP.l2d a1)), (.double (FP.l2d a2))] (.double (FP.l2d 0)) := V10
  replace Fi := Fi.other W10 (Or.inl (nrs))
  replace Fs := Fs.other W10 (Or.inl (nrs))
  replace V6 := V6.other W10 (nis)
  refine Go.aloadN S10 d_prog_22_method_13_code_46 rfl rfl (pc' := 47) rfl ?_
  refine Go.getfield S10 (host := "") (Or.inl (wd21 hw)) Via.refl Fs d_prog_22_method_13_code_47 (pc' := 50) rfl ?_
  intro T11 S11
  refine Go.iloadN S11 d_prog_22_method_13_code_50 rfl (pc' := 51) rfl ?_
  refine Go.dload S11 d_prog_22_method_13_code_51 rfl (pc' := 53) rfl ?_
  refine Go.dastore S11 V10 (by decide) (i := 2) (by decide) (Nat.le_of_ble_eq_true rfl) hzs (Or.inl (List.mem_cons_of_mem _ (List.mem_singleton.mpr rfl))) d_prog_22_method_13_code_53 (pc' := 54) rfl ?_
  intro T12 h12 L12 S12 W12 V12
  replace V12 : Arv Z h12 sa kS .double (3 : Int32) [(.double (FP.l2d a2)), (.double (FP.l2d a1)), (.double (FP.l2d a0))] (.double (FP.l2d 0)) := V12
  replace Fi := Fi.other W12 (Or.inl (nrs))
  replace Fs := Fs.other W12 (Or.inl (nrs))
  replace V6 := V6.other W12 (nis)
  exact Go.vreturn S12 rfl d_prog_22_method_13_code_54 (by decide) (by decide) (⟨rfl, V6, V12⟩)
set_option maxRecDepth 65536 in
set_option maxHeartbeats 4000000 in
theorem rm_up0 {l : Launch} {Z : State} {a0 : Array Value} (hw : HW Z a0) (r : Addr)  {h0 : Heap} (hE : Ext Z.heap h0) :
    OMeets l Z (⟨"com/example/opas/opas/Ranking", "siftUp", "(I)V"⟩ : MethodName) prog_22_method_11_code 4 none ({ frames := 0, cells := 0, slots := 0, locals := 0 } : Room) #[(.ref r), (.int (0 : Int32))] h0 [] (fun v h => v = none ∧ h0 = h) := by
  refine OMeets.body (plainFor_of_name pn1) hE #[.val (.ref r), .val (.int (0 : Int32)), .unset, .unset] (fun m => by first | rfl | (simp [entryFrame, mkF, argsToLocals, Value.category, maxLocals]; done)) ?_
  intro p e s m below meth co T S
  refine Go.iloadN S d_prog_22_method_11_code_0 rfl (pc' := 1) rfl ?_
  refine Go.istoreN S d_prog_22_method_11_code_1 (Ls' := #[.val (.ref r), .val (.int (0 : Int32)), .val (.int (0 : Int32)), .unset]) rfl (pc' := 2) rfl ?_
  refine Go.iloadN S d_prog_22_method_11_code_2 rfl (pc' := 3) rfl ?_
  refine Go.if_le S d_prog_22_method_11_code_3 (pt := 44) (by decide) (pc' := 6) rfl ?_ ?_
  · intro c3
    exact Go.vreturn S rfl d_prog_22_method_11_code_44 (by decide) (by decide) (⟨rfl, rfl⟩)
  · intro c3; exact absurd c3 (by decide)
set_option maxRecDepth 65536 in
set_option maxHeartbeats 4000000 in
theorem rm_up21 {l : Launch} {Z : State} {a0 : Array Value} (hw : HW Z a0) (r : Addr) (ia sa : Addr) (kI kS : ClassId) (d0 d1 : Int32) (a0 a1 : Int64) {h0 : Heap} (hE : Ext Z.heap h0) (E : Exa Z h0 r "com/example/opas/opas/Ranking") (Fi : Fld Z h0 r "com/example/opas/opas/Ranking" "ids" "[I" (.ref ia)) (Fs : Fld Z h0 r "com/example/opas/opas/Ranking" "scores" "[D" (.ref sa)) (VI : Arv Z h0 ia kI .int (2 : Int32) [(.int d0), (.int d1)] (.int 0)) (VS : Arv Z h0 sa kS .double (2 : Int32) [(.double (FP.l2d a0)), (.double (FP.l2d a1))] (.double (FP.l2d 0))) (hzi : Z.heap.size ≤ ia) (hzs : Z.heap.size ≤ sa) (nri : r ≠ ia) (nrs : r ≠ sa) (nis : ia ≠ sa) (b0 : (-2147483648 ≤ a0.toInt ∧ a0.toInt ≤ 2147483647)) (b1 : (-2147483648 ≤ a1.toInt ∧ a1.toInt ≤ 2147483647)) :
    OMeets l Z (⟨"com/example/opas/opas/Ranking", "siftUp", "(I)V"⟩ : MethodName) prog_22_method_11_code 4 none ({ frames := 1, cells := 0, slots := 0, locals := 17 } : Room) #[(.ref r), (.int (1 : Int32))] h0 [ia, sa] (fun v h => v = none ∧ ∃ e0 e1 f0 f1, Arv Z h ia kI .int (2 : Int32) [(.int e0), (.int e1)] (.int 0) ∧ Arv Z h sa kS .double (2 : Int32) [(.double (FP.l2d f0)), (.double (FP.l2d f1))] (.double (FP.l2d 0)) ∧ ((f0.toInt = a0.toInt ∧ f1.toInt = a1.toInt ∧ a0.toInt ≤ a1.toInt) ∨ (f0.toInt = a1.toInt ∧ f1.toInt = a0.toInt ∧ a1.toInt ≤ a0.toInt))) := by
  refine OMeets.body (plainFor_of_name pn1) hE #[.val (.ref r), .val (.int (1 : Int32)), .unset, .unset] (fun m => by first | rfl | (simp [entryFrame, mkF, argsToLocals, Value.category, maxLocals]; done)) ?_
  intro p e s m below meth co T S
  refine Go.iloadN S d_prog_22_method_11_code_0 rfl (pc' := 1) rfl ?_
  refine Go.istoreN S d_prog_22_method_11_code_1 (Ls' := #[.val (.ref r), .val (.int (1 : Int32)), .val (.int (1 : Int32)), .unset]) rfl (pc' := 2) rfl ?_
  refine Go.iloadN S d_prog_22_method_11_code_2 rfl (pc' := 3) rfl ?_
  refine Go.if_le S d_prog_22_method_11_code_3 (pt := 44) (by decide) (pc' := 6) rfl ?_ ?_
  · intro c3; exact absurd (by decide) c3
  · intro c3
    refine Go.iloadN S d_prog_22_method_11_code_6 rfl (pc' := 7) rfl ?_
    refine Go.iconst S (v := 1) d_prog_22_method_11_code_7 rfl (pc' := 8) rfl ?_
    refine Go.isub S d_prog_22_method_11_code_8 (pc' := 9) rfl ?_
    show Go _ _ _ _ T (mkF m 9 #[.val (.ref r), .val (.int (1 : Int32)), .val (.int (1 : Int32)), .unset] [(.int (0 : Int32))])
    refine Go.iconst S (v := 2) d_prog_22_method_11_code_9 rfl (pc' := 10) rfl ?_
    refine Go.idiv S d_prog_22_method_11_code_10 (by decide) (pc' := 11) rfl ?_
    rw [show ((0 : Int32) / (2 : Int32)) = 0 from by decide]
    show Go _ _ _ _ T (mkF m 11 #[.val (.ref r), .val (.int (1 : Int32)), .val (.int (1 : Int32)), .unset] [(.int (0 : Int32))])
    refine Go.istoreN S d_prog_22_method_11_code_11 (Ls' := #[.val (.ref r), .val (.int (1 : Int32)), .val (.int (1 : Int32)), .val (.int (0 : Int32))]) rfl (pc' := 12) rfl ?_
    refine Go.aloadN S d_prog_22_method_11_code_12 rfl rfl (pc' := 13) rfl ?_
    refine Go.aloadN S d_prog_22_method_11_code_13 rfl rfl (pc' := 14) rfl ?_
    refine Go.getfield S (host := "") (Or.inl (wd18 hw)) Via.refl Fi d_prog_22_method_11_code_14 (pc' := 17) rfl ?_
    intro T1 S1
    refine Go.iloadN S1 d_prog_22_method_11_code_17 rfl (pc' := 18) rfl ?_
    refine Go.iaload S1 VI (by decide) (v := (.int d0)) rfl d_prog_22_method_11_code_18 (pc' := 19) rfl ?_
    refine Go.aloadN S1 d_prog_22_method_11_code_19 rfl rfl (pc' := 20) rfl ?_
    refine Go.getfield S1 (host := "") (Or.inl (wd21 hw)) Via.refl Fs d_prog_22_method_11_code_20 (pc' := 23) rfl ?_
    intro T2 S2
    refine Go.iloadN S2 d_prog_22_method_11_code_23 rfl (pc' := 24) rfl ?_
    refine Go.daload S2 VS (by decide) (v := (.double (FP.l2d a0))) rfl d_prog_22_method_11_code_24 (pc' := 25) rfl ?_
    refine Go.iloadN S2 d_prog_22_method_11_code_25 rfl (pc' := 26) rfl ?_
    refine Go.invokeprivate S2 (y := ⟨"com/example/opas/opas/Ranking", "isBetter", "(IDI)Z"⟩) (rm_better hw r d0 a0 (1 : Int32) ia sa kI kS (2 : Int32) [(.int d0), (.int d1)] [(.double (FP.l2d a0)), (.double (FP.l2d a1))] a1 d1 S2.ext Fi Fs VI VS (by decide) rfl rfl b0 b1) (wd52 hw) (wd53 hw) (wd54 hw) (wd1 hw) (wd2 hw) (wd55 hw) (by decide) E d_prog_22_method_11_code_26 rfl pd1 (argsL := [(.int d0), (.double (FP.l2d a0)), (.int (1 : Int32))]) rfl rfl rfl (by decide) (W := 0) rfl (by decide) (by decide) (by decide) all0 (pc' := 29) rfl ?_
    intro v3 T3 h3 L3 S3 K3 q3
    obtain ⟨⟨w, rfl, hw0, hw1⟩, rfl⟩ := q3
    show Go _ _ _ _ T3 (mkF m 29 #[.val (.ref r), .val (.int (1 : Int32)), .val (.int (1 : Int32)), .val (.int (0 : Int32))] [(.int w)])
    refine Go.if_ne S3 d_prog_22_method_11_code_29 (pt := 33) (by decide) (pc' := 32) rfl ?_ ?_
    · intro c29
      refine Go.aloadN S3 d_prog_22_method_11_code_33 rfl rfl (pc' := 34) rfl ?_
      refine Go.iloadN S3 d_prog_22_method_11_code_34 rfl (pc' := 35) rfl ?_
      refine Go.iloadN S3 d_prog_22_method_11_code_35 rfl (pc' := 36) rfl ?_
      refine Go.invokeprivate S3 (y := ⟨"com/example/opas/opas/Ranking", "swap", "(II)V"⟩) (rm_swap21 hw r ia sa kI kS d0 d1 a0 a1 S3.ext Fi Fs VI VS hzi hzs nri nrs nis) (wd56 hw) (wd57 hw) (wd58 hw) (wd1 hw) (wd2 hw) (wd59 hw) (by decide) E d_prog_22_method_11_code_36 rfl pd2 (argsL := [(.int (0 : Int32)), (.int (1 : Int32))]) rfl rfl rfl (by decide) (W := 0) rfl (by decide) (by decide) (by decide) (fun x hx => Or.inl hx) (pc' := 39) rfl ?_
      intro v4 T4 h4 L4 S4 K4 q4
      obtain ⟨rfl, VI4, VS4⟩ := q4
      replace E := E.keep K4
      replace Fi := Fi.keep K4 (ninS nri (ninS nrs nin0))
      replace Fs := Fs.keep K4 (ninS nri (ninS nrs nin0))
      show Go _ _ _ _ T4 (mkF m 39 #[.val (.ref r), .val (.int (1 : Int32)), .val (.int (1 : Int32)), .val (.int (0 : Int32))] [])
      refine Go.iloadN S4 d_prog_22_method_11_code_39 rfl (pc' := 40) rfl ?_
      refine Go.istoreN S4 d_prog_22_method_11_code_40 (Ls' := #[.val (.ref r), .val (.int (1 : Int32)), .val (.int (0 : Int32)), .val (.int (0 : Int32))]) rfl (pc' := 41) rfl ?_
      refine Go.goto S4 d_prog_22_method_11_code_41 (pc' := 2) (by decide) ?_
      refine Go.iloadN S4 d_prog_22_method_11_code_2 rfl (pc' := 3) rfl ?_
      refine Go.if_le S4 d_prog_22_method_11_code_3 (pt := 44) (by decide) (pc' := 6) rfl ?_ ?_
      · intro c3_2
        exact Go.vreturn S4 rfl d_prog_22_method_11_code_44 (by decide) (by decide) (⟨rfl, d1, d0, a1, a0, VI4, VS4, Or.inr ⟨rfl, rfl, hw1 c29⟩⟩)
      · intro c3_2; exact absurd c3_2 (by decide)
    · intro c29
      exact Go.vreturn S3 rfl d_prog_22_method_11_code_32 (by decide) (by decide) (⟨rfl, d0, d1, a0, a1, VI, VS, Or.inl ⟨rfl, rfl, hw0 c29⟩⟩)
set_option maxRecDepth 65536 in
set_option maxHeartbeats 4000000 in
theorem rm_up31 {l : Launch} {Z : State} {a0 : Array Value} (hw : HW Z a0) (r : Addr) (ia sa : Addr) (kI kS : ClassId) (d0 d1 d2 : Int32) (a0 a1 a2 : Int64) {h0 : Heap} (hE : Ext Z.heap h0) (E : Exa Z h0 r "com/example/opas/opas/Ranking") (Fi : Fld Z h0 r "com/example/opas/opas/Ranking" "ids" "[I" (.ref ia)) (Fs : Fld Z h0 r "com/example/opas/opas/Ranking" "scores" "[D" (.ref sa)) (VI : Arv Z h0 ia kI .int (3 : Int32) [(.int d0), (.int d1), (.int d2)] (.int 0)) (VS : Arv Z h0 sa kS .double (3 : Int32) [(.double (FP.l2d a0)), (.double (FP.l2d a1)), (.double (FP.l2d a2))] (.double (FP.l2d 0))) (hzi : Z.heap.size ≤ ia) (hzs : Z.heap.size ≤ sa) (nri : r ≠ ia) (nrs : r ≠ sa) (nis : ia ≠ sa) (b0 : (-2147483648 ≤ a0.toInt ∧ a0.toInt ≤ 2147483647)) (b1 : (-2147483648 ≤ a1.toInt ∧ a1.toInt ≤ 2147483647)) :
    OMeets l Z (⟨"com/example/opas/opas/Ranking", "siftUp", "(I)V"⟩ : MethodName) prog_22_method_11_code 4 none ({ frames := 1, cells := 0, slots := 0, locals := 17 } : Room) #[(.ref r), (.int (1 : Int32))] h0 [ia, sa] (fun v h => v = none ∧ ∃ e0 e1 e2 f0 f1 f2, Arv Z h ia kI .int (3 : Int32) [(.int e0), (.int e1), (.int e2)] (.int 0) ∧ Arv Z h sa kS .double (3 : Int32) [(.double (FP.l2d f0)), (.double (FP.l2d f1)), (.double (FP.l2d f2))] (.double (FP.l2d 0)) ∧ ((f0.toInt = a0.toInt ∧ f1.toInt = a1.toInt ∧ f2.toInt = a2.toInt ∧ a0.toInt ≤ a1.toInt) ∨ (f0.toInt = a1.toInt ∧ f1.toInt = a0.toInt ∧ f2.toInt = a2.toInt ∧ a1.toInt ≤ a0.toInt))) := by
  refine OMeets.body (plainFor_of_name pn1) hE #[.val (.ref r), .val (.int (1 : Int32)), .unset, .unset] (fun m => by first | rfl | (simp [entryFrame, mkF, argsToLocals, Value.category, maxLocals]; done)) ?_
  intro p e s m below meth co T S
  refine Go.iloadN S d_prog_22_method_11_code_0 rfl (pc' := 1) rfl ?_
  refine Go.istoreN S d_prog_22_method_11_code_1 (Ls' := #[.val (.ref r), .val (.int (1 : Int32)), .val (.int (1 : Int32)), .unset]) rfl (pc' := 2) rfl ?_
  refine Go.iloadN S d_prog_22_method_11_code_2 rfl (pc' := 3) rfl ?_
  refine Go.if_le S d_prog_22_method_11_code_3 (pt := 44) (by decide) (pc' := 6) rfl ?_ ?_
  · intro c3; exact absurd (by decide) c3
  · intro c3
    refine Go.iloadN S d_prog_22_method_11_code_6 rfl (pc' := 7) rfl ?_
    refine Go.iconst S (v := 1) d_prog_22_method_11_code_7 rfl (pc' := 8) rfl ?_
    refine Go.isub S d_prog_22_method_11_code_8 (pc' := 9) rfl ?_
    show Go _ _ _ _ T (mkF m 9 #[.val (.ref r), .val (.int (1 : Int32)), .val (.int (1 : Int32)), .unset] [(.int (0 : Int32))])
    refine Go.iconst S (v := 2) d_prog_22_method_11_code_9 rfl (pc' := 10) rfl ?_
    refine Go.idiv S d_prog_22_method_11_code_10 (by decide) (pc' := 11) rfl ?_
    rw [show ((0 : Int32) / (2 : Int32)) = 0 from by decide]
    show Go _ _ _ _ T (mkF m 11 #[.val (.ref r), .val (.int (1 : Int32)), .val (.int (1 : Int32)), .unset] [(.int (0 : Int32))])
    refine Go.istoreN S d_prog_22_method_11_code_11 (Ls' := #[.val (.ref r), .val (.int (1 : Int32)), .val (.int (1 : Int32)), .val (.int (0 : Int32))]) rfl (pc' := 12) rfl ?_
    refine Go.aloadN S d_prog_22_method_11_code_12 rfl rfl (pc' := 13) rfl ?_
    refine Go.aloadN S d_prog_22_method_11_code_13 rfl rfl (pc' := 14) rfl ?_
    refine Go.getfield S (host := "") (Or.inl (wd18 hw)) Via.refl Fi d_prog_22_method_11_code_14 (pc' := 17) rfl ?_
    intro T1 S1
    refine Go.iloadN S1 d_prog_22_method_11_code_17 rfl (pc' := 18) rfl ?_
    refine Go.iaload S1 VI (by decide) (v := (.int d0)) rfl d_prog_22_method_11_code_18 (pc' := 19) rfl ?_
    refine Go.aloadN S1 d_prog_22_method_11_code_19 rfl rfl (pc' := 20) rfl ?_
    refine Go.getfield S1 (host := "") (Or.inl (wd21 hw)) Via.refl Fs d_prog_22_method_11_code_20 (pc' := 23) rfl ?_
    intro T2 S2
    refine Go.iloadN S2 d_prog_22_method_11_code_23 rfl (pc' := 24) rfl ?_
    refine Go.daload S2 VS (by decide) (v := (.double (FP.l2d a0))) rfl d_prog_22_method_11_code_24 (pc' := 25) rfl ?_
    refine Go.iloadN S2 d_prog_22_method_11_code_25 rfl (pc' := 26) rfl ?_
    refine Go.invokeprivate S2 (y := ⟨"com/example/opas/opas/Ranking", "isBetter", "(IDI)Z"⟩) (rm_better hw r d0 a0 (1 : Int32) ia sa kI kS (3 : Int32) [(.int d0), (.int d1), (.int d2)] [(.double (FP.l2d a0)), (.double (FP.l2d a1)), (.double (FP.l2d a2))] a1 d1 S2.ext Fi Fs VI VS (by decide) rfl rfl b0 b1) (wd52 hw) (wd53 hw) (wd54 hw) (wd1 hw) (wd2 hw) (wd55 hw) (by decide) E d_prog_22_method_11_code_26 rfl pd1 (argsL := [(.int d0), (.double (FP.l2d a0)), (.int (1 : Int32))]) rfl rfl rfl (by decide) (W := 0) rfl (by decide) (by decide) (by decide) all0 (pc' := 29) rfl ?_
    intro v3 T3 h3 L3 S3 K3 q3
    obtain ⟨⟨w, rfl, hw0, hw1⟩, rfl⟩ := q3
    show Go _ _ _ _ T3 (mkF m 29 #[.val (.ref r), .val (.int (1 : Int32)), .val (.int (1 : Int32)), .val (.int (0 : Int32))] [(.int w)])
    refine Go.if_ne S3 d_prog_22_method_11_code_29 (pt := 33) (by decide) (pc' := 32) rfl ?_ ?_
    · intro c29
      refine Go.aloadN S3 d_prog_22_method_11_code_33 rfl rfl (pc' := 34) rfl ?_
      refine Go.iloadN S3 d_prog_22_method_11_code_34 rfl (pc' := 35) rfl ?_
      refine Go.iloadN S3 d_prog_22_method_11_code_35 rfl (pc' := 36) rfl ?_
      refine Go.invokeprivate S3 (y := ⟨"com/example/opas/opas/Ranking", "swap", "(II)V"⟩) (rm_swap31 hw r ia sa kI kS d0 d1 d2 a0 a1 a2 S3.ext Fi Fs VI VS hzi hzs nri nrs nis) (wd56 hw) (wd57 hw) (wd58 hw) (wd1 hw) (wd2 hw) (wd59 hw) (by decide) E d_prog_22_method_11_code_36 rfl pd2 (argsL := [(.int (0 : Int32)), (.int (1 : Int32))]) rfl rfl rfl (by decide) (W := 0) rfl (by decide) (by decide) (by decide) (fun x hx => Or.inl hx) (pc' := 39) rfl ?_
      intro v4 T4 h4 L4 S4 K4 q4
      obtain ⟨rfl, VI4, VS4⟩ := q4
      replace E := E.keep K4
      replace Fi := Fi.keep K4 (ninS nri (ninS nrs nin0))
      replace Fs := Fs.keep K4 (ninS nri (ninS nrs nin0))
      show Go _ _ _ _ T4 (mkF m 39 #[.val (.ref r), .val (.int (1 : Int32)), .val (.int (1 : Int32)), .val (.int (0 : Int32))] [])
      refine Go.iloadN S4 d_prog_22_method_11_code_39 rfl (pc' := 40) rfl ?_
      refine Go.istoreN S4 d_prog_22_method_11_code_40 (Ls' := #[.val (.ref r), .val (.int (1 : Int32)), .val (.int (0 : Int32)), .val (.int (0 : Int32))]) rfl (pc' := 41) rfl ?_
      refine Go.goto S4 d_prog_22_method_11_code_41 (pc' := 2) (by decide) ?_
      refine Go.iloadN S4 d_prog_22_method_11_code_2 rfl (pc' := 3) rfl ?_
      refine Go.if_le S4 d_prog_22_method_11_code_3 (pt := 44) (by decide) (pc' := 6) rfl ?_ ?_
      · intro c3_2
        exact Go.vreturn S4 rfl d_prog_22_method_11_code_44 (by decide) (by decide) (⟨rfl, d1, d0, d2, a1, a0, a2, VI4, VS4, Or.inr ⟨rfl, rfl, rfl, hw1 c29⟩⟩)
      · intro c3_2; exact absurd c3_2 (by decide)
    · intro c29
      exact Go.vreturn S3 rfl d_prog_22_method_11_code_32 (by decide) (by decide) (⟨rfl, d0, d1, d2, a0, a1, a2, VI, VS, Or.inl ⟨rfl, rfl, rfl, hw0 c29⟩⟩)
set_option maxRecDepth 65536 in
set_option maxHeartbeats 4000000 in
theorem rm_up32 {l : Launch} {Z : State} {a0 : Array Value} (hw : HW Z a0) (r : Addr) (ia sa : Addr) (kI kS : ClassId) (d0 d1 d2 : Int32) (a0 a1 a2 : Int64) {h0 : Heap} (hE : Ext Z.heap h0) (E : Exa Z h0 r "com/example/opas/opas/Ranking") (Fi : Fld Z h0 r "com/example/opas/opas/Ranking" "ids" "[I" (.ref ia)) (Fs : Fld Z h0 r "com/example/opas/opas/Ranking" "scores" "[D" (.ref sa)) (VI : Arv Z h0 ia kI .int (3 : Int32) [(.int d0), (.int d1), (.int d2)] (.int 0)) (VS : Arv Z h0 sa kS .double (3 : Int32) [(.double (FP.l2d a0)), (.double (FP.l2d a1)), (.double (FP.l2d a2))] (.double (FP.l2d 0))) (hzi : Z.heap.size ≤ ia) (hzs : Z.heap.size ≤ sa) (nri : r ≠ ia) (nrs : r ≠ sa) (nis : ia ≠ sa) (b0 : (-2147483648 ≤ a0.toInt ∧ a0.toInt ≤ 2147483647)) (b2 : (-2147483648 ≤ a2.toInt ∧ a2.toInt ≤ 2147483647)) :
    OMeets l Z (⟨"com/example/opas/opas/Ranking", "siftUp", "(I)V"⟩ : MethodName) prog_22_method_11_code 4 none ({ frames := 1, cells := 0, slots := 0, locals := 17 } : Room) #[(.ref r), (.int (2 : Int32))] h0 [ia, sa] (fun v h => v = none ∧ ∃ e0 e1 e2 f0 f1 f2, Arv Z h ia kI .int (3 : Int32) [(.int e0), (.int e1), (.int e2)] (.int 0) ∧ Arv Z h sa kS .double (3 : Int32) [(.double (FP.l2d f0)), (.double (FP.l2d f1)), (.double (FP.l2d f2))] (.double (FP.l2d 0)) ∧ ((f0.toInt = a0.toInt ∧ f1.toInt = a1.toInt ∧ f2.toInt = a2.toInt ∧ a0.toInt ≤ a2.toInt) ∨ (f0.toInt = a2.toInt ∧ f1.toInt = a1.toInt ∧ f2.toInt = a0.toInt ∧ a2.toInt ≤ a0.toInt))) := by
  refine OMeets.body (plainFor_of_name pn1) hE #[.val (.ref r), .val (.int (2 : Int32)), .unset, .unset] (fun m => by first | rfl | (simp [entryFrame, mkF, argsToLocals, Value.category, maxLocals]; done)) ?_
  intro p e s m below meth co T S
  refine Go.iloadN S d_prog_22_method_11_code_0 rfl (pc' := 1) rfl ?_
  refine Go.istoreN S d_prog_22_method_11_code_1 (Ls' := #[.val (.ref r), .val (.int (2 : Int32)), .val (.int (2 : Int32)), .unset]) rfl (pc' := 2) rfl ?_
  refine Go.iloadN S d_prog_22_method_11_code_2 rfl (pc' := 3) rfl ?_
  refine Go.if_le S d_prog_22_method_11_code_3 (pt := 44) (by decide) (pc' := 6) rfl ?_ ?_
  · intro c3; exact absurd (by decide) c3
  · intro c3
    refine Go.iloadN S d_prog_22_method_11_code_6 rfl (pc' := 7) rfl ?_
    refine Go.iconst S (v := 1) d_prog_22_method_11_code_7 rfl (pc' := 8) rfl ?_
    refine Go.isub S d_prog_22_method_11_code_8 (pc' := 9) rfl ?_
    show Go _ _ _ _ T (mkF m 9 #[.val (.ref r), .val (.int (2 : Int32)), .val (.int (2 : Int32)), .unset] [(.int (1 : Int32))])
    refine Go.iconst S (v := 2) d_prog_22_method_11_code_9 rfl (pc' := 10) rfl ?_
    refine Go.idiv S d_prog_22_method_11_code_10 (by decide) (pc' := 11) rfl ?_
    rw [show ((1 : Int32) / (2 : Int32)) = 0 from by decide]
    show Go _ _ _ _ T (mkF m 11 #[.val (.ref r), .val (.int (2 : Int32)), .val (.int (2 : Int32)), .unset] [(.int (0 : Int32))])
    refine Go.istoreN S d_prog_22_method_11_code_11 (Ls' := #[.val (.ref r), .val (.int (2 : Int32)), .val (.int (2 : Int32)), .val (.int (0 : Int32))]) rfl (pc' := 12) rfl ?_
    refine Go.aloadN S d_prog_22_method_11_code_12 rfl rfl (pc' := 13) rfl ?_
    refine Go.aloadN S d_prog_22_method_11_code_13 rfl rfl (pc' := 14) rfl ?_
    refine Go.getfield S (host := "") (Or.inl (wd18 hw)) Via.refl Fi d_prog_22_method_11_code_14 (pc' := 17) rfl ?_
    intro T1 S1
    refine Go.iloadN S1 d_prog_22_method_11_code_17 rfl (pc' := 18) rfl ?_
    refine Go.iaload S1 VI (by decide) (v := (.int d0)) rfl d_prog_22_method_11_code_18 (pc' := 19) rfl ?_
    refine Go.aloadN S1 d_prog_22_method_11_code_19 rfl rfl (pc' := 20) rfl ?_
    refine Go.getfield S1 (host := "") (Or.inl (wd21 hw)) Via.refl Fs d_prog_22_method_11_code_20 (pc' := 23) rfl ?_
    intro T2 S2
    refine Go.iloadN S2 d_prog_22_method_11_code_23 rfl (pc' := 24) rfl ?_
    refine Go.daload S2 VS (by decide) (v := (.double (FP.l2d a0))) rfl d_prog_22_method_11_code_24 (pc' := 25) rfl ?_
    refine Go.iloadN S2 d_prog_22_method_11_code_25 rfl (pc' := 26) rfl ?_
    refine Go.invokeprivate S2 (y := ⟨"com/example/opas/opas/Ranking", "isBetter", "(IDI)Z"⟩) (rm_better hw r d0 a0 (2 : Int32) ia sa kI kS (3 : Int32) [(.int d0), (.int d1), (.int d2)] [(.double (FP.l2d a0)), (.double (FP.l2d a1)), (.double (FP.l2d a2))] a2 d2 S2.ext Fi Fs VI VS (by decide) rfl rfl b0 b2) (wd52 hw) (wd53 hw) (wd54 hw) (wd1 hw) (wd2 hw) (wd55 hw) (by decide) E d_prog_22_method_11_code_26 rfl pd1 (argsL := [(.int d0), (.double (FP.l2d a0)), (.int (2 : Int32))]) rfl rfl rfl (by decide) (W := 0) rfl (by decide) (by decide) (by decide) all0 (pc' := 29) rfl ?_
    intro v3 T3 h3 L3 S3 K3 q3
    obtain ⟨⟨w, rfl, hw0, hw1⟩, rfl⟩ := q3
    show Go _ _ _ _ T3 (mkF m 29 #[.val (.ref r), .val (.int (2 : Int32)), .val (.int (2 : Int32)), .val (.int (0 : Int32))] [(.int w)])
    refine Go.if_ne S3 d_prog_22_method_11_code_29 (pt := 33) (by decide) (pc' := 32) rfl ?_ ?_
    · intro c29
      refine Go.aloadN S3 d_prog_22_method_11_code_33 rfl rfl (pc' := 34) rfl ?_
      refine Go.iloadN S3 d_prog_22_method_11_code_34 rfl (pc' := 35) rfl ?_
      refine Go.iloadN S3 d_prog_22_method_11_code_35 rfl (pc' := 36) rfl ?_
      refine Go.invokeprivate S3 (y := ⟨"com/example/opas/opas/Ranking", "swap", "(II)V"⟩) (rm_swap32 hw r ia sa kI kS d0 d1 d2 a0 a1 a2 S3.ext Fi Fs VI VS hzi hzs nri nrs nis) (wd56 hw) (wd57 hw) (wd58 hw) (wd1 hw) (wd2 hw) (wd59 hw) (by decide) E d_prog_22_method_11_code_36 rfl pd2 (argsL := [(.int (0 : Int32)), (.int (2 : Int32))]) rfl rfl rfl (by decide) (W := 0) rfl (by decide) (by decide) (by decide) (fun x hx => Or.inl hx) (pc' := 39) rfl ?_
      intro v4 T4 h4 L4 S4 K4 q4
      obtain ⟨rfl, VI4, VS4⟩ := q4
      replace E := E.keep K4
      replace Fi := Fi.keep K4 (ninS nri (ninS nrs nin0))
      replace Fs := Fs.keep K4 (ninS nri (ninS nrs nin0))
      show Go _ _ _ _ T4 (mkF m 39 #[.val (.ref r), .val (.int (2 : Int32)), .val (.int (2 : Int32)), .val (.int (0 : Int32))] [])
      refine Go.iloadN S4 d_prog_22_method_11_code_39 rfl (pc' := 40) rfl ?_
      refine Go.istoreN S4 d_prog_22_method_11_code_40 (Ls' := #[.val (.ref r), .val (.int (2 : Int32)), .val (.int (0 : Int32)), .val (.int (0 : Int32))]) rfl (pc' := 41) rfl ?_
      refine Go.goto S4 d_prog_22_method_11_code_41 (pc' := 2) (by decide) ?_
      refine Go.iloadN S4 d_prog_22_method_11_code_2 rfl (pc' := 3) rfl ?_
      refine Go.if_le S4 d_prog_22_method_11_code_3 (pt := 44) (by decide) (pc' := 6) rfl ?_ ?_
      · intro c3_2
        exact Go.vreturn S4 rfl d_prog_22_method_11_code_44 (by decide) (by decide) (⟨rfl, d2, d1, d0, a2, a1, a0, VI4, VS4, Or.inr ⟨rfl, rfl, rfl, hw1 c29⟩⟩)
      · intro c3_2; exact absurd c3_2 (by decide)
    · intro c29
      exact Go.vreturn S3 rfl d_prog_22_method_11_code_32 (by decide) (by decide) (⟨rfl, d0, d1, d2, a0, a1, a2, VI, VS, Or.inl ⟨rfl, rfl, rfl, hw0 c29⟩⟩)
set_option maxRecDepth 65536 in
set_option maxHeartbeats 4000000 in
theorem rm_dn1 {l : Launch} {Z : State} {a0 : Array Value} (hw : HW Z a0) (r : Addr)  {h0 : Heap} (hE : Ext Z.heap h0) (Fn : Fld Z h0 r "com/example/opas/opas/Ranking" "size" "I" (.int 1)) :
    OMeets l Z (⟨"com/example/opas/opas/Ranking", "siftDown", "(I)V"⟩ : MethodName) prog_22_method_12_code 4 none ({ frames := 0, cells := 0, slots := 0, locals := 0 } : Room) #[(.ref r), (.int (0 : Int32))] h0 [] (fun v h => v = none ∧ h0 = h) := by
  refine OMeets.body (plainFor_of_name pn1) hE #[.val (.ref r), .val (.int (0 : Int32)), .unset, .unset] (fun m => by first | rfl | (simp [entryFrame, mkF, argsToLocals, Value.category, maxLocals]; done)) ?_
  intro p e s m below meth co T S
  refine Go.iloadN S d_prog_22_method_12_code_0 rfl (pc' := 1) rfl ?_
  refine Go.istoreN S d_prog_22_method_12_code_1 (Ls' := #[.val (.ref r), .val (.int (0 : Int32)), .val (.int (0 : Int32)), .unset]) rfl (pc' := 2) rfl ?_
  refine Go.iconst S (v := 2) d_prog_22_method_12_code_2 rfl (pc' := 3) rfl ?_
  refine Go.iloadN S d_prog_22_method_12_code_3 rfl (pc' := 4) rfl ?_
  refine Go.imul S d_prog_22_method_12_code_4 (pc' := 5) rfl ?_
  show Go _ _ _ _ T (mkF m 5 #[.val (.ref r), .val (.int (0 : Int32)), .val (.int (0 : Int32)), .unset] [(.int (0 : Int32))])
  refine Go.iconst S (v := 1) d_prog_22_method_12_code_5 rfl (pc' := 6) rfl ?_
  refine Go.iadd S d_prog_22_method_12_code_6 (pc' := 7) rfl ?_
  show Go _ _ _ _ T (mkF m 7 #[.val (.ref r), .val (.int (0 : Int32)), .val (.int (0 : Int32)), .unset] [(.int (1 : Int32))])
  refine Go.aloadN S d_prog_22_method_12_code_7 rfl rfl (pc' := 8) rfl ?_
  refine Go.getfield S (host := "") (Or.inl (wd37 hw)) Via.refl Fn d_prog_22_method_12_code_8 (pc' := 11) rfl ?_
  intro T1 S1
  refine Go.icmp_ge S1 d_prog_22_method_12_code_11 (pt := 87) (by decide) (pc' := 14) rfl ?_ ?_
  · intro c11
    exact Go.vreturn S1 rfl d_prog_22_method_12_code_87 (by decide) (by decide) (⟨rfl, rfl⟩)
  · intro c11; exact absurd c11 (by decide)
set_option maxRecDepth 65536 in
set_option maxHeartbeats 4000000 in
theorem rm_dn2 {l : Launch} {Z : State} {a0 : Array Value} (hw : HW Z a0) (r : Addr) (ia sa : Addr) (kI kS : ClassId) (d0 d1 : Int32) (a0 a1 : Int64) {h0 : Heap} (hE : Ext Z.heap h0) (E : Exa Z h0 r "com/example/opas/opas/Ranking") (Fn : Fld Z h0 r "com/example/opas/opas/Ranking" "size" "I" (.int 2)) (Fi : Fld Z h0 r "com/example/opas/opas/Ranking" "ids" "[I" (.ref ia)) (Fs : Fld Z h0 r "com/example/opas/opas/Ranking" "scores" "[D" (.ref sa)) (VI : Arv Z h0 ia kI .int (2 : Int32) [(.int d0), (.int d1)] (.int 0)) (VS : Arv Z h0 sa kS .double (2 : Int32) [(.double (FP.l2d a0)), (.double (FP.l2d a1))] (.double (FP.l2d 0))) (hzi : Z.heap.size ≤ ia) (hzs : Z.heap.size ≤ sa) (nri : r ≠ ia) (nrs : r ≠ sa) (nis : ia ≠ sa) (b0 : (-2147483648 ≤ a0.toInt ∧ a0.toInt ≤ 2147483647)) (b1 : (-2147483648 ≤ a1.toInt ∧ a1.toInt ≤ 2147483647)) :
    OMeets l Z (⟨"com/example/opas/opas/Ranking", "siftDown", "(I)V"⟩ : MethodName) prog_22_method_12_code 4 none ({ frames := 1, cells := 0, slots := 0, locals := 17 } : Room) #[(.ref r), (.int (0 : Int32))] h0 [ia, sa] (fun v h => v = none ∧ ∃ e0 e1 f0 f1, Arv Z h ia kI .int (2 : Int32) [(.int e0), (.int e1)] (.int 0) ∧ Arv Z h sa kS .double (2 : Int32) [(.double (FP.l2d f0)), (.double (FP.l2d f1))] (.double (FP.l2d 0)) ∧ ((f0.toInt = a0.toInt ∧ f1.toInt = a1.toInt ∧ a0.toInt ≤ a1.toInt) ∨ (f0.toInt = a1.toInt ∧ f1.toInt = a0.toInt ∧ a1.toInt ≤ a0.toInt))) := by
  refine OMeets.body (plainFor_of_name pn1) hE #[.val (.ref r), .val (.int (0 : Int32)), .unset, .unset] (fun m => by first | rfl | (simp [entryFrame, mkF, argsToLocals, Value.category, maxLocals]; done)) ?_
  intro p e s m below meth co T S
  refine Go.iloadN S d_prog_22_method_12_code_0 rfl (pc' := 1) rfl ?_
  refine Go.istoreN S d_prog_22_method_12_code_1 (Ls' := #[.val (.ref r), .val (.int (0 : Int32)), .val (.int (0 : Int32)), .unset]) rfl (pc' := 2) rfl ?_
  refine Go.iconst S (v := 2) d_prog_22_method_12_code_2 rfl (pc' := 3) rfl ?_
  refine Go.iloadN S d_prog_22_method_12_code_3 rfl (pc' := 4) rfl ?_
  refine Go.imul S d_prog_22_method_12_code_4 (pc' := 5) rfl ?_
  show Go _ _ _ _ T (mkF m 5 #[.val (.ref r), .val (.int (0 : Int32)), .val (.int (0 : Int32)), .unset] [(.int (0 : Int32))])
  refine Go.iconst S (v := 1) d_prog_22_method_12_code_5 rfl (pc' := 6) rfl ?_
  refine Go.iadd S d_prog_22_method_12_code_6 (pc' := 7) rfl ?_
  show Go _ _ _ _ T (mkF m 7 #[.val (.ref r), .val (.int (0 : Int32)), .val (.int (0 : Int32)), .unset] [(.int (1 : Int32))])
  refine Go.aloadN S d_prog_22_method_12_code_7 rfl rfl (pc' := 8) rfl ?_
  refine Go.getfield S (host := "") (Or.inl (wd37 hw)) Via.refl Fn d_prog_22_method_12_code_8 (pc' := 11) rfl ?_
  intro T1 S1
  refine Go.icmp_ge S1 d_prog_22_method_12_code_11 (pt := 87) (by decide) (pc' := 14) rfl ?_ ?_
  · intro c11; exact absurd (by decide) c11
  · intro c11
    refine Go.iconst S1 (v := 2) d_prog_22_method_12_code_14 rfl (pc' := 15) rfl ?_
    refine Go.iloadN S1 d_prog_22_method_12_code_15 rfl (pc' := 16) rfl ?_
    refine Go.imul S1 d_prog_22_method_12_code_16 (pc' := 17) rfl ?_
    show Go _ _ _ _ T1 (mkF m 17 #[.val (.ref r), .val (.int (0 : Int32)), .val (.int (0 : Int32)), .unset] [(.int (0 : Int32))])
    refine Go.iconst S1 (v := 1) d_prog_22_method_12_code_17 rfl (pc' := 18) rfl ?_
    refine Go.iadd S1 d_prog_22_method_12_code_18 (pc' := 19) rfl ?_
    show Go _ _ _ _ T1 (mkF m 19 #[.val (.ref r), .val (.int (0 : Int32)), .val (.int (0 : Int32)), .unset] [(.int (1 : Int32))])
    refine Go.istoreN S1 d_prog_22_method_12_code_19 (Ls' := #[.val (.ref r), .val (.int (0 : Int32)), .val (.int (0 : Int32)), .val (.int (1 : Int32))]) rfl (pc' := 20) rfl ?_
    refine Go.iloadN S1 d_prog_22_method_12_code_20 rfl (pc' := 21) rfl ?_
    refine Go.iconst S1 (v := 1) d_prog_22_method_12_code_21 rfl (pc' := 22) rfl ?_
    refine Go.iadd S1 d_prog_22_method_12_code_22 (pc' := 23) rfl ?_
    show Go _ _ _ _ T1 (mkF m 23 #[.val (.ref r), .val (.int (0 : Int32)), .val (.int (0 : Int32)), .val (.int (1 : Int32))] [(.int (2 : Int32))])
    refine Go.aloadN S1 d_prog_22_method_12_code_23 rfl rfl (pc' := 24) rfl ?_
    refine Go.getfield S1 (host := "") (Or.inl (wd37 hw)) Via.refl Fn d_prog_22_method_12_code_24 (pc' := 27) rfl ?_
    intro T2 S2
    refine Go.icmp_ge S2 d_prog_22_method_12_code_27 (pt := 55) (by decide) (pc' := 30) rfl ?_ ?_
    · intro c27
      refine Go.aloadN S2 d_prog_22_method_12_code_55 rfl rfl (pc' := 56) rfl ?_
      refine Go.aloadN S2 d_prog_22_method_12_code_56 rfl rfl (pc' := 57) rfl ?_
      refine Go.getfield S2 (host := "") (Or.inl (wd18 hw)) Via.refl Fi d_prog_22_method_12_code_57 (pc' := 60) rfl ?_
      intro T3 S3
      refine Go.iloadN S3 d_prog_22_method_12_code_60 rfl (pc' := 61) rfl ?_
      refine Go.iaload S3 VI (by decide) (v := (.int d0)) rfl d_prog_22_method_12_code_61 (pc' := 62) rfl ?_
      refine Go.aloadN S3 d_prog_22_method_12_code_62 rfl rfl (pc' := 63) rfl ?_
      refine Go.getfield S3 (host := "") (Or.inl (wd21 hw)) Via.refl Fs d_prog_22_method_12_code_63 (pc' := 66) rfl ?_
      intro T4 S4
      refine Go.iloadN S4 d_prog_22_method_12_code_66 rfl (pc' := 67) rfl ?_
      refine Go.daload S4 VS (by decide) (v := (.double (FP.l2d a0))) rfl d_prog_22_method_12_code_67 (pc' := 68) rfl ?_
      refine Go.iloadN S4 d_prog_22_method_12_code_68 rfl (pc' := 69) rfl ?_
      refine Go.invokeprivate S4 (y := ⟨"com/example/opas/opas/Ranking", "isBetter", "(IDI)Z"⟩) (rm_better hw r d0 a0 (1 : Int32) ia sa kI kS (2 : Int32) [(.int d0), (.int d1)] [(.double (FP.l2d a0)), (.double (FP.l2d a1))] a1 d1 S4.ext Fi Fs VI VS (by decide) rfl rfl b0 b1) (wd52 hw) (wd53 hw) (wd54 hw) (wd1 hw) (wd2 hw) (wd55 hw) (by decide) E d_prog_22_method_12_code_69 rfl pd1 (argsL := [(.int d0), (.double (FP.l2d a0)), (.int (1 : Int32))]) rfl rfl rfl (by decide) (W := 0) rfl (by decide) (by decide) (by decide) all0 (pc' := 72) rfl ?_
      intro v5 T5 h5 L5 S5 K5 q5
      obtain ⟨⟨w, rfl, hw0, hw1⟩, rfl⟩ := q5
      show Go _ _ _ _ T5 (mkF m 72 #[.val (.ref r), .val (.int (0 : Int32)), .val (.int (0 : Int32)), .val (.int (1 : Int32))] [(.int w)])
      refine Go.if_ne S5 d_prog_22_method_12_code_72 (pt := 76) (by decide) (pc' := 75) rfl ?_ ?_
      · intro c72
        refine Go.aloadN S5 d_prog_22_method_12_code_76 rfl rfl (pc' := 77) rfl ?_
        refine Go.iloadN S5 d_prog_22_method_12_code_77 rfl (pc' := 78) rfl ?_
        refine Go.iloadN S5 d_prog_22_method_12_code_78 rfl (pc' := 79) rfl ?_
        refine Go.invokeprivate S5 (y := ⟨"com/example/opas/opas/Ranking", "swap", "(II)V"⟩) (rm_swap21 hw r ia sa kI kS d0 d1 a0 a1 S5.ext Fi Fs VI VS hzi hzs nri nrs nis) (wd56 hw) (wd57 hw) (wd58 hw) (wd1 hw) (wd2 hw) (wd59 hw) (by decide) E d_prog_22_method_12_code_79 rfl pd2 (argsL := [(.int (0 : Int32)), (.int (1 : Int32))]) rfl rfl rfl (by decide) (W := 0) rfl (by decide) (by decide) (by decide) (fun x hx => Or.inl hx) (pc' := 82) rfl ?_
        intro v6 T6 h6 L6 S6 K6 q6
        obtain ⟨rfl, VI6, VS6⟩ := q6
        replace E := E.keep K6
        replace Fn := Fn.keep K6 (ninS nri (ninS nrs nin0))
        replace Fi := Fi.keep K6 (ninS nri (ninS nrs nin0))
        replace Fs := Fs.keep K6 (ninS nri (ninS nrs nin0))
        show Go _ _ _ _ T6 (mkF m 82 #[.val (.ref r), .val (.int (0 : Int32)), .val (.int (0 : Int32)), .val (.int (1 : Int32))] [])
        refine Go.iloadN S6 d_prog_22_method_12_code_82 rfl (pc' := 83) rfl ?_
        refine Go.istoreN S6 d_prog_22_method_12_code_83 (Ls' := #[.val (.ref r), .val (.int (0 : Int32)), .val (.int (1 : Int32)), .val (.int (1 : Int32))]) rfl (pc' := 84) rfl ?_
        refine Go.goto S6 d_prog_22_method_12_code_84 (pc' := 2) (by decide) ?_
        refine Go.iconst S6 (v := 2) d_prog_22_method_12_code_2 rfl (pc' := 3) rfl ?_
        refine Go.iloadN S6 d_prog_22_method_12_code_3 rfl (pc' := 4) rfl ?_
        refine Go.imul S6 d_prog_22_method_12_code_4 (pc' := 5) rfl ?_
        show Go _ _ _ _ T6 (mkF m 5 #[.val (.ref r), .val (.int (0 : Int32)), .val (.int (1 : Int32)), .val (.int (1 : Int32))] [(.int (2 : Int32))])
        refine Go.iconst S6 (v := 1) d_prog_22_method_12_code_5 rfl (pc' := 6) rfl ?_
        refine Go.iadd S6 d_prog_22_method_12_code_6 (pc' := 7) rfl ?_
        show Go _ _ _ _ T6 (mkF m 7 #[.val (.ref r), .val (.int (0 : Int32)), .val (.int (1 : Int32)), .val (.int (1 : Int32))] [(.int (3 : Int32))])
        refine Go.aloadN S6 d_prog_22_method_12_code_7 rfl rfl (pc' := 8) rfl ?_
        refine Go.getfield S6 (host := "") (Or.inl (wd37 hw)) Via.refl Fn d_prog_22_method_12_code_8 (pc' := 11) rfl ?_
        intro T7 S7
        refine Go.icmp_ge S7 d_prog_22_method_12_code_11 (pt := 87) (by decide) (pc' := 14) rfl ?_ ?_
        · intro c11_2
          exact Go.vreturn S7 rfl d_prog_22_method_12_code_87 (by decide) (by decide) (⟨rfl, d1, d0, a1, a0, VI6, VS6, Or.inr ⟨rfl, rfl, hw1 c72⟩⟩)
        · intro c11_2; exact absurd c11_2 (by decide)
      · intro c72
        exact Go.vreturn S5 rfl d_prog_22_method_12_code_75 (by decide) (by decide) (⟨rfl, d0, d1, a0, a1, VI, VS, Or.inl ⟨rfl, rfl, hw0 c72⟩⟩)
    · intro c27; exact absurd c27 (by decide)
set_option maxRecDepth 65536 in
set_option maxHeartbeats 4000000 in
theorem rm_off00 {l : Launch} {Z : State} {a0 : Array Value} (hw : HW Z a0) (r : Addr) (dn : Int32) (sx : Int64) (xa : Addr) (kX : ClassId) (ia sa : Addr) (kI kS : ClassId) {h0 : Heap} (hE : Ext Z.heap h0) (E : Exa Z h0 r "com/example/opas/opas/Ranking") (Fx : Fld Z h0 r "com/example/opas/opas/Ranking" "excluded" "[I" (.ref xa)) (Fl : Fld Z h0 r "com/example/opas/opas/Ranking" "limit" "I" (.int (0 : Int32))) (Fn : Fld Z h0 r "com/example/opas/opas/Ranking" "size" "I" (.int (0 : Int32))) (VX : Arv Z h0 xa kX .int 0 [] (.int 0)) (Fi : Fld Z h0 r "com/example/opas/opas/Ranking" "ids" "[I" (.ref ia)) (Fs : Fld Z h0 r "com/example/opas/opas/Ranking" "scores" "[D" (.ref sa)) (VI : Arv Z h0 ia kI .int (0 : Int32) [] (.int 0)) (VS : Arv Z h0 sa kS .double (0 : Int32) [] (.double (FP.l2d 0))) (hzi : Z.heap.size ≤ ia) (hzs : Z.heap.size ≤ sa) (nri : r ≠ ia) (nrs : r ≠ sa) (nis : ia ≠ sa) (hzr : Z.heap.size ≤ r) (nxr : xa ≠ r) (nxi : xa ≠ ia) (nxs : xa ≠ sa) (bs : (-2147483648 ≤ sx.toInt ∧ sx.toInt ≤ 2147483647)) :
    OMeets l Z (⟨"com/example/opas/opas/Ranking", "offer", "(ID)V"⟩ : MethodName) prog_22_method_7_code 5 none ({ frames := 2, cells := 0, slots := 0, locals := 32 } : Room) #[(.ref r), (.int dn), (.double (FP.l2d sx))] h0 [] (fun v h => v = none ∧ h0 = h) := by
  refine OMeets.body (plainFor_of_name pn1) hE #[.val (.ref r), .val (.int dn), .val (.double (FP.l2d sx)), .second, .unset] (fun m => by first | rfl | (simp [entryFrame, mkF, argsToLocals, Value.category, maxLocals]; done)) ?_
  intro p e s m below meth co T S
  refine Go.aloadN S d_prog_22_method_7_code_0 rfl rfl (pc' := 1) rfl ?_
  refine Go.getfield S (host := "") (Or.inl (wd37 hw)) Via.refl Fn d_prog_22_method_7_code_1 (pc' := 4) rfl ?_
  intro T1 S1
  refine Go.aloadN S1 d_prog_22_method_7_code_4 rfl rfl (pc' := 5) rfl ?_
  refine Go.getfield S1 (host := "") (Or.inl (wd12 hw)) Via.refl Fl d_prog_22_method_7_code_5 (pc' := 8) rfl ?_
  intro T2 S2
  refine Go.icmp_ne S2 d_prog_22_method_7_code_8 (pt := 59) (by decide) (pc' := 11) rfl ?_ ?_
  · intro c8; exact absurd (by decide) c8
  · intro c8
    refine Go.aloadN S2 d_prog_22_method_7_code_11 rfl rfl (pc' := 12) rfl ?_
    refine Go.getfield S2 (host := "") (Or.inl (wd12 hw)) Via.refl Fl d_prog_22_method_7_code_12 (pc' := 15) rfl ?_
    intro T3 S3
    refine Go.if_eq S3 d_prog_22_method_7_code_15 (pt := 36) (by decide) (pc' := 18) rfl ?_ ?_
    · intro c15
      exact Go.vreturn S3 rfl d_prog_22_method_7_code_36 (by decide) (by decide) (⟨rfl, rfl⟩)
    · intro c15; exact absurd (by decide) c15
set_option maxRecDepth 65536 in
set_option maxHeartbeats 4000000 in
theorem rm_off10 {l : Launch} {Z : State} {a0 : Array Value} (hw : HW Z a0) (r : Addr) (dn : Int32) (sx : Int64) (xa : Addr) (kX : ClassId) (ia sa : Addr) (kI kS : ClassId) (d0 : Int32) (a0 : Int64) {h0 : Heap} (hE : Ext Z.heap h0) (E : Exa Z h0 r "com/example/opas/opas/Ranking") (Fx : Fld Z h0 r "com/example/opas/opas/Ranking" "excluded" "[I" (.ref xa)) (Fl : Fld Z h0 r "com/example/opas/opas/Ranking" "limit" "I" (.int (1 : Int32))) (Fn : Fld Z h0 r "com/example/opas/opas/Ranking" "size" "I" (.int (0 : Int32))) (VX : Arv Z h0 xa kX .int 0 [] (.int 0)) (Fi : Fld Z h0 r "com/example/opas/opas/Ranking" "ids" "[I" (.ref ia)) (Fs : Fld Z h0 r "com/example/opas/opas/Ranking" "scores" "[D" (.ref sa)) (VI : Arv Z h0 ia kI .int (1 : Int32) [(.int d0)] (.int 0)) (VS : Arv Z h0 sa kS .double (1 : Int32) [(.double (FP.l2d a0))] (.double (FP.l2d 0))) (hzi : Z.heap.size ≤ ia) (hzs : Z.heap.size ≤ sa) (nri : r ≠ ia) (nrs : r ≠ sa) (nis : ia ≠ sa) (hzr : Z.heap.size ≤ r) (nxr : xa ≠ r) (nxi : xa ≠ ia) (nxs : xa ≠ sa) (bs : (-2147483648 ≤ sx.toInt ∧ sx.toInt ≤ 2147483647)) :
    OMeets l Z (⟨"com/example/opas/opas/Ranking", "offer", "(ID)V"⟩ : MethodName) prog_22_method_7_code 5 none ({ frames := 2, cells := 0, slots := 0, locals := 32 } : Room) #[(.ref r), (.int dn), (.double (FP.l2d sx))] h0 [r, ia, sa] (fun v h => v = none ∧ Fld Z h r "com/example/opas/opas/Ranking" "excluded" "[I" (.ref xa) ∧ Fld Z h r "com/example/opas/opas/Ranking" "limit" "I" (.int (1 : Int32)) ∧ Fld Z h r "com/example/opas/opas/Ranking" "ids" "[I" (.ref ia) ∧ Fld Z h r "com/example/opas/opas/Ranking" "scores" "[D" (.ref sa) ∧ Fld Z h r "com/example/opas/opas/Ranking" "size" "I" (.int (1 : Int32)) ∧ ∃ e0 f0, Arv Z h ia kI .int (1 : Int32) [(.int e0)] (.int 0) ∧ Arv Z h sa kS .double (1 : Int32) [(.double (FP.l2d f0))] (.double (FP.l2d 0)) ∧ f0.toInt = sx.toInt) := by
  refine OMeets.body (plainFor_of_name pn1) hE #[.val (.ref r), .val (.int dn), .val (.double (FP.l2d sx)), .second, .unset] (fun m => by first | rfl | (simp [entryFrame, mkF, argsToLocals, Value.category, maxLocals]; done)) ?_
  intro p e s m below meth co T S
  refine Go.aloadN S d_prog_22_method_7_code_0 rfl rfl (pc' := 1) rfl ?_
  refine Go.getfield S (host := "") (Or.inl (wd37 hw)) Via.refl Fn d_prog_22_method_7_code_1 (pc' := 4) rfl ?_
  intro T1 S1
  refine Go.aloadN S1 d_prog_22_method_7_code_4 rfl rfl (pc' := 5) rfl ?_
  refine Go.getfield S1 (host := "") (Or.inl (wd12 hw)) Via.refl Fl d_prog_22_method_7_code_5 (pc' := 8) rfl ?_
  intro T2 S2
  refine Go.icmp_ne S2 d_prog_22_method_7_code_8 (pt := 59) (by decide) (pc' := 11) rfl ?_ ?_
  · intro c8
    refine Go.aloadN S2 d_prog_22_method_7_code_59 rfl rfl (pc' := 60) rfl ?_
    refine Go.iloadN S2 d_prog_22_method_7_code_60 rfl (pc' := 61) rfl ?_
    refine Go.invokeprivate S2 (y := ⟨"com/example/opas/opas/Ranking", "isExcluded", "(I)Z"⟩) (rm_exc hw r dn xa kX S2.ext Fx VX) (wd44 hw) (wd45 hw) (wd46 hw) (wd1 hw) (wd2 hw) (wd47 hw) (by decide) E d_prog_22_method_7_code_61 rfl pd3 (argsL := [(.int dn)]) rfl rfl rfl (by decide) (W := 0) rfl (by decide) (by decide) (by decide) all0 (pc' := 64) rfl ?_
    intro v3 T3 h3 L3 S3 K3 q3
    obtain ⟨rfl, rfl⟩ := q3
    show Go _ _ _ _ T3 (mkF m 64 #[.val (.ref r), .val (.int dn), .val (.double (FP.l2d sx)), .second, .unset] [(.int (0 : Int32))])
    refine Go.if_ne S3 d_prog_22_method_7_code_64 (pt := 163) (by decide) (pc' := 67) rfl ?_ ?_
    · intro c64; exact absurd (by decide) c64
    · intro c64
      refine Go.aloadN S3 d_prog_22_method_7_code_67 rfl rfl (pc' := 68) rfl ?_
      refine Go.getfield S3 (host := "") (Or.inl (wd37 hw)) Via.refl Fn d_prog_22_method_7_code_68 (pc' := 71) rfl ?_
      intro T4 S4
      refine Go.aloadN S4 d_prog_22_method_7_code_71 rfl rfl (pc' := 72) rfl ?_
      refine Go.getfield S4 (host := "") (Or.inl (wd18 hw)) Via.refl Fi d_prog_22_method_7_code_72 (pc' := 75) rfl ?_
      intro T5 S5
      refine Go.arraylength S5 VI d_prog_22_method_7_code_75 (pc' := 76) rfl ?_
      refine Go.icmp_ne S5 d_prog_22_method_7_code_76 (pt := 125) (by decide) (pc' := 79) rfl ?_ ?_
      · intro c76
        refine Go.aloadN S5 d_prog_22_method_7_code_125 rfl rfl (pc' := 126) rfl ?_
        refine Go.getfield S5 (host := "") (Or.inl (wd18 hw)) Via.refl Fi d_prog_22_method_7_code_126 (pc' := 129) rfl ?_
        intro T6 S6
        refine Go.aloadN S6 d_prog_22_method_7_code_129 rfl rfl (pc' := 130) rfl ?_
        refine Go.getfield S6 (host := "") (Or.inl (wd37 hw)) Via.refl Fn d_prog_22_method_7_code_130 (pc' := 133) rfl ?_
        intro T7 S7
        refine Go.iloadN S7 d_prog_22_method_7_code_133 rfl (pc' := 134) rfl ?_
        refine Go.iastore S7 VI (by decide) (i := 0) (by decide) (Nat.le_of_ble_eq_true rfl) hzi (Or.inl (List.mem_cons_of_mem _ (List.mem_cons_self ..))) d_prog_22_method_7_code_134 (pc' := 135) rfl ?_
        intro T8 h8 L8 S8 W8 V8
        replace V8 : Arv Z h8 ia kI .int (1 : Int32) [(.int dn)] (.int 0) := V8
        replace E := E.wr W8
        replace Fx := Fx.other W8 (Or.inl (nri))
        replace Fl := Fl.other W8 (Or.inl (nri))
        replace Fn := Fn.other W8 (Or.inl (nri))
        replace VX := VX.other W8 (nxi)
        replace Fi := Fi.other W8 (Or.inl (nri))
        replace Fs := Fs.other W8 (Or.inl (nri))
        replace VS := VS.other W8 ((Ne.symm nis))
        refine Go.aloadN S8 d_prog_22_method_7_code_135 rfl rfl (pc' := 136) rfl ?_
        refine Go.getfield S8 (host := "") (Or.inl (wd21 hw)) Via.refl Fs d_prog_22_method_7_code_136 (pc' := 139) rfl ?_
        intro T9 S9
        refine Go.aloadN S9 d_prog_22_method_7_code_139 rfl rfl (pc' := 140) rfl ?_
        refine Go.getfield S9 (host := "") (Or.inl (wd37 hw)) Via.refl Fn d_prog_22_method_7_code_140 (pc' := 143) rfl ?_
        intro T10 S10
        refine Go.dloadN S10 d_prog_22_method_7_code_143 rfl (pc' := 144) rfl ?_
        refine Go.dastore S10 VS (by decide) (i := 0) (by decide) (Nat.le_of_ble_eq_true rfl) hzs (Or.inl (List.mem_cons_of_mem _ (List.mem_cons_of_mem _ (List.mem_singleton.mpr rfl)))) d_prog_22_method_7_code_144 (pc' := 145) rfl ?_
        intro T11 h11 L11 S11 W11 V11
        replace V11 : Arv Z h11 sa kS .double (1 : Int32) [(.double (FP.l2d sx))] (.double (FP.l2d 0)) := V11
        replace E := E.wr W11
        replace Fx := Fx.other W11 (Or.inl (nrs))
        replace Fl := Fl.other W11 (Or.inl (nrs))
        replace Fn := Fn.other W11 (Or.inl (nrs))
        replace VX := VX.other W11 (nxs)
        replace Fi := Fi.other W11 (Or.inl (nrs))
        replace Fs := Fs.other W11 (Or.inl (nrs))
        replace V8 := V8.other W11 (nis)
        refine Go.aloadN S11 d_prog_22_method_7_code_145 rfl rfl (pc' := 146) rfl ?_
        refine Go.aloadN S11 d_prog_22_method_7_code_146 rfl rfl (pc' := 147) rfl ?_
        refine Go.getfield S11 (host := "") (Or.inl (wd37 hw)) Via.refl Fn d_prog_22_method_7_code_147 (pc' := 150) rfl ?_
        intro T12 S12
        refine Go.invokeprivate S12 (y := ⟨"com/example/opas/opas/Ranking", "siftUp", "(I)V"⟩) (rm_up0 hw r S12.ext) (wd48 hw) (wd49 hw) (wd50 hw) (wd1 hw) (wd2 hw) (wd51 hw) (by decide) E d_prog_22_method_7_code_150 rfl pd4 (argsL := [(.int (0 : Int32))]) rfl rfl rfl (by decide) (W := 0) rfl (by decide) (by decide) (by decide) all0 (pc' := 153) rfl ?_
        intro v13 T13 h13 L13 S13 K13 q13
        obtain ⟨rfl, rfl⟩ := q13
        show Go _ _ _ _ T13 (mkF m 153 #[.val (.ref r), .val (.int dn), .val (.double (FP.l2d sx)), .second, .unset] [])
        refine Go.aloadN S13 d_prog_22_method_7_code_153 rfl rfl (pc' := 154) rfl ?_
        refine Go.dup S13 d_prog_22_method_7_code_154 rfl (pc' := 155) rfl ?_
        refine Go.getfield S13 (host := "") (Or.inl (wd37 hw)) Via.refl Fn d_prog_22_method_7_code_155 (pc' := 158) rfl ?_
        intro T14 S14
        refine Go.iconst S14 (v := 1) d_prog_22_method_7_code_158 rfl (pc' := 159) rfl ?_
        refine Go.iadd S14 d_prog_22_method_7_code_159 (pc' := 160) rfl ?_
        show Go _ _ _ _ T14 (mkF m 160 #[.val (.ref r), .val (.int dn), .val (.double (FP.l2d sx)), .second, .unset] [(.int (1 : Int32)), (.ref r)])
        refine Go.putfield S14 (host := "") (Or.inl (wd37 hw)) Via.refl Fn E (Or.inl (wd38 hw)) (wd1 hw) (ty := .int) (by decide) rfl rfl hzr (Or.inl (List.mem_cons_self ..)) d_prog_22_method_7_code_160 (pc' := 163) rfl ?_
        intro T15 h15 L15 S15 W15
        have F15 := Fn.same W15
        replace Fx := Fx.other W15 (Or.inr (slot_ne (Or.inl (wd11 hw)) (Or.inl (wd38 hw)) (by decide) (t := (.array .int)) (t' := .int) (by decide) (by decide)))
        replace Fl := Fl.other W15 (Or.inr (slot_ne (Or.inr (wd13 hw)) (Or.inl (wd38 hw)) (by decide) (t := .int) (t' := .int) (by decide) (by decide)))
        replace Fi := Fi.other W15 (Or.inr (slot_ne (Or.inl (wd19 hw)) (Or.inl (wd38 hw)) (by decide) (t := (.array .int)) (t' := .int) (by decide) (by decide)))
        replace Fs := Fs.other W15 (Or.inr (slot_ne (Or.inl (wd22 hw)) (Or.inl (wd38 hw)) (by decide) (t := (.array .double)) (t' := .int) (by decide) (by decide)))
        replace E := E.wr W15
        replace VX := VX.other W15 (nxr)
        replace V8 := V8.other W15 ((Ne.symm nri))
        replace V11 := V11.other W15 ((Ne.symm nrs))
        exact Go.vreturn S15 rfl d_prog_22_method_7_code_163 (by decide) (by decide) (⟨rfl, Fx, Fl, Fi, Fs, F15, dn, sx, V8, V11, rfl⟩)
      · intro c76; exact absurd c76 (by decide)
  · intro c8; exact absurd c8 (by decide)
set_option maxRecDepth 65536 in
set_option maxHeartbeats 4000000 in
theorem rm_off11 {l : Launch} {Z : State} {a0 : Array Value} (hw : HW Z a0) (r : Addr) (dn : Int32) (sx : Int64) (xa : Addr) (kX : ClassId) (ia sa : Addr) (kI kS : ClassId) (d0 : Int32) (a0 : Int64) {h0 : Heap} (hE : Ext Z.heap h0) (E : Exa Z h0 r "com/example/opas/opas/Ranking") (Fx : Fld Z h0 r "com/example/opas/opas/Ranking" "excluded" "[I" (.ref xa)) (Fl : Fld Z h0 r "com/example/opas/opas/Ranking" "limit" "I" (.int (1 : Int32))) (Fn : Fld Z h0 r "com/example/opas/opas/Ranking" "size" "I" (.int (1 : Int32))) (VX : Arv Z h0 xa kX .int 0 [] (.int 0)) (Fi : Fld Z h0 r "com/example/opas/opas/Ranking" "ids" "[I" (.ref ia)) (Fs : Fld Z h0 r "com/example/opas/opas/Ranking" "scores" "[D" (.ref sa)) (VI : Arv Z h0 ia kI .int (1 : Int32) [(.int d0)] (.int 0)) (VS : Arv Z h0 sa kS .double (1 : Int32) [(.double (FP.l2d a0))] (.double (FP.l2d 0))) (hzi : Z.heap.size ≤ ia) (hzs : Z.heap.size ≤ sa) (nri : r ≠ ia) (nrs : r ≠ sa) (nis : ia ≠ sa) (hzr : Z.heap.size ≤ r) (nxr : xa ≠ r) (nxi : xa ≠ ia) (nxs : xa ≠ sa) (bs : (-2147483648 ≤ sx.toInt ∧ sx.toInt ≤ 2147483647)) (b0 : (-2147483648 ≤ a0.toInt ∧ a0.toInt ≤ 2147483647)) :
    OMeets l Z (⟨"com/example/opas/opas/Ranking", "offer", "(ID)V"⟩ : MethodName) prog_22_method_7_code 5 none ({ frames := 2, cells := 0, slots := 0, locals := 32 } : Room) #[(.ref r), (.int dn), (.double (FP.l2d sx))] h0 [r, ia, sa] (fun v h => v = none ∧ Fld Z h r "com/example/opas/opas/Ranking" "excluded" "[I" (.ref xa) ∧ Fld Z h r "com/example/opas/opas/Ranking" "limit" "I" (.int (1 : Int32)) ∧ Fld Z h r "com/example/opas/opas/Ranking" "ids" "[I" (.ref ia) ∧ Fld Z h r "com/example/opas/opas/Ranking" "scores" "[D" (.ref sa) ∧ Fld Z h r "com/example/opas/opas/Ranking" "size" "I" (.int (1 : Int32)) ∧ ∃ e0 f0, Arv Z h ia kI .int (1 : Int32) [(.int e0)] (.int 0) ∧ Arv Z h sa kS .double (1 : Int32) [(.double (FP.l2d f0))] (.double (FP.l2d 0)) ∧ ((f0.toInt = a0.toInt ∧ sx.toInt ≤ a0.toInt) ∨ (f0.toInt = sx.toInt ∧ a0.toInt ≤ sx.toInt))) := by
  refine OMeets.body (plainFor_of_name pn1) hE #[.val (.ref r), .val (.int dn), .val (.double (FP.l2d sx)), .second, .unset] (fun m => by first | rfl | (simp [entryFrame, mkF, argsToLocals, Value.category, maxLocals]; done)) ?_
  intro p e s m below meth co T S
  refine Go.aloadN S d_prog_22_method_7_code_0 rfl rfl (pc' := 1) rfl ?_
  refine Go.getfield S (host := "") (Or.inl (wd37 hw)) Via.refl Fn d_prog_22_method_7_code_1 (pc' := 4) rfl ?_
  intro T1 S1
  refine Go.aloadN S1 d_prog_22_method_7_code_4 rfl rfl (pc' := 5) rfl ?_
  refine Go.getfield S1 (host := "") (Or.inl (wd12 hw)) Via.refl Fl d_prog_22_method_7_code_5 (pc' := 8) rfl ?_
  intro T2 S2
  refine Go.icmp_ne S2 d_prog_22_method_7_code_8 (pt := 59) (by decide) (pc' := 11) rfl ?_ ?_
  · intro c8; exact absurd (by decide) c8
  · intro c8
    refine Go.aloadN S2 d_prog_22_method_7_code_11 rfl rfl (pc' := 12) rfl ?_
    refine Go.getfield S2 (host := "") (Or.inl (wd12 hw)) Via.refl Fl d_prog_22_method_7_code_12 (pc' := 15) rfl ?_
    intro T3 S3
    refine Go.if_eq S3 d_prog_22_method_7_code_15 (pt := 36) (by decide) (pc' := 18) rfl ?_ ?_
    · intro c15; exact absurd c15 (by decide)
    · intro c15
      refine Go.aloadN S3 d_prog_22_method_7_code_18 rfl rfl (pc' := 19) rfl ?_
      refine Go.iloadN S3 d_prog_22_method_7_code_19 rfl (pc' := 20) rfl ?_
      refine Go.dloadN S3 d_prog_22_method_7_code_20 rfl (pc' := 21) rfl ?_
      refine Go.iconst S3 (v := 0) d_prog_22_method_7_code_21 rfl (pc' := 22) rfl ?_
      refine Go.invokeprivate S3 (y := ⟨"com/example/opas/opas/Ranking", "isBetter", "(IDI)Z"⟩) (rm_better hw r dn sx (0 : Int32) ia sa kI kS (1 : Int32) [(.int d0)] [(.double (FP.l2d a0))] a0 d0 S3.ext Fi Fs VI VS (by decide) rfl rfl bs b0) (wd52 hw) (wd53 hw) (wd54 hw) (wd1 hw) (wd2 hw) (wd55 hw) (by decide) E d_prog_22_method_7_code_22 rfl pd1 (argsL := [(.int dn), (.double (FP.l2d sx)), (.int (0 : Int32))]) rfl rfl rfl (by decide) (W := 0) rfl (by decide) (by decide) (by decide) all0 (pc' := 25) rfl ?_
      intro v4 T4 h4 L4 S4 K4 q4
      obtain ⟨⟨w, rfl, hw0, hw1⟩, rfl⟩ := q4
      show Go _ _ _ _ T4 (mkF m 25 #[.val (.ref r), .val (.int dn), .val (.double (FP.l2d sx)), .second, .unset] [(.int w)])
      refine Go.if_eq S4 d_prog_22_method_7_code_25 (pt := 36) (by decide) (pc' := 28) rfl ?_ ?_
      · intro c25
        exact Go.vreturn S4 rfl d_prog_22_method_7_code_36 (by decide) (by decide) (⟨rfl, Fx, Fl, Fi, Fs, Fn, d0, a0, VI, VS, Or.inl ⟨rfl, hw0 c25⟩⟩)
      · intro c25
        refine Go.aloadN S4 d_prog_22_method_7_code_28 rfl rfl (pc' := 29) rfl ?_
        refine Go.iloadN S4 d_prog_22_method_7_code_29 rfl (pc' := 30) rfl ?_
        refine Go.invokeprivate S4 (y := ⟨"com/example/opas/opas/Ranking", "isExcluded", "(I)Z"⟩) (rm_exc hw r dn xa kX S4.ext Fx VX) (wd44 hw) (wd45 hw) (wd46 hw) (wd1 hw) (wd2 hw) (wd47 hw) (by decide) E d_prog_22_method_7_code_30 rfl pd3 (argsL := [(.int dn)]) rfl rfl rfl (by decide) (W := 0) rfl (by decide) (by decide) (by decide) all0 (pc' := 33) rfl ?_
        intro v5 T5 h5 L5 S5 K5 q5
        obtain ⟨rfl, rfl⟩ := q5
        show Go _ _ _ _ T5 (mkF m 33 #[.val (.ref r), .val (.int dn), .val (.double (FP.l2d sx)), .second, .unset] [(.int (0 : Int32))])
        refine Go.if_eq S5 d_prog_22_method_7_code_33 (pt := 37) (by decide) (pc' := 36) rfl ?_ ?_
        · intro c33
          refine Go.aloadN S5 d_prog_22_method_7_code_37 rfl rfl (pc' := 38) rfl ?_
          refine Go.getfield S5 (host := "") (Or.inl (wd18 hw)) Via.refl Fi d_prog_22_method_7_code_38 (pc' := 41) rfl ?_
          intro T6 S6
          refine Go.iconst S6 (v := 0) d_prog_22_method_7_code_41 rfl (pc' := 42) rfl ?_
          refine Go.iloadN S6 d_prog_22_method_7_code_42 rfl (pc' := 43) rfl ?_
          refine Go.iastore S6 VI (by decide) (i := 0) (by decide) (Nat.le_of_ble_eq_true rfl) hzi (Or.inl (List.mem_cons_of_mem _ (List.mem_cons_self ..))) d_prog_22_method_7_code_43 (pc' := 44) rfl ?_
          intro T7 h7 L7 S7 W7 V7
          replace V7 : Arv Z h7 ia kI .int (1 : Int32) [(.int dn)] (.int 0) := V7
          replace E := E.wr W7
          replace Fx := Fx.other W7 (Or.inl (nri))
          replace Fl := Fl.other W7 (Or.inl (nri))
          replace Fn := Fn.other W7 (Or.inl (nri))
          replace VX := VX.other W7 (nxi)
          replace Fi := Fi.other W7 (Or.inl (nri))
          replace Fs := Fs.other W7 (Or.inl (nri))
          replace VS := VS.other W7 ((Ne.symm nis))
          refine Go.aloadN S7 d_prog_22_method_7_code_44 rfl rfl (pc' := 45) rfl ?_
          refine Go.getfield S7 (host := "") (Or.inl (wd21 hw)) Via.refl Fs d_prog_22_method_7_code_45 (pc' := 48) rfl ?_
          intro T8 S8
          refine Go.iconst S8 (v := 0) d_prog_22_method_7_code_48 rfl (pc' := 49) rfl ?_
          refine Go.dloadN S8 d_prog_22_method_7_code_49 rfl (pc' := 50) rfl ?_
          refine Go.dastore S8 VS (by decide) (i := 0) (by decide) (Nat.le_of_ble_eq_true rfl) hzs (Or.inl (List.mem_cons_of_mem _ (List.mem_cons_of_mem _ (List.mem_singleton.mpr rfl)))) d_prog_22_method_7_code_50 (pc' := 51) rfl ?_
          intro T9 h9 L9 S9 W9 V9
          replace V9 : Arv Z h9 sa kS .double (1 : Int32) [(.double (FP.l2d sx))] (.double (FP.l2d 0)) := V9
          replace E := E.wr W9
          replace Fx := Fx.other W9 (Or.inl (nrs))
          replace Fl := Fl.other W9 (Or.inl (nrs))
          replace Fn := Fn.other W9 (Or.inl (nrs))
          replace VX := VX.other W9 (nxs)
          replace Fi := Fi.other W9 (Or.inl (nrs))
          replace Fs := Fs.other W9 (Or.inl (nrs))
          replace V7 := V7.other W9 (nis)
          refine Go.aloadN S9 d_prog_22_method_7_code_51 rfl rfl (pc' := 52) rfl ?_
          refine Go.iconst S9 (v := 0) d_prog_22_method_7_code_52 rfl (pc' := 53) rfl ?_
          refine Go.invokeprivate S9 (y := ⟨"com/example/opas/opas/Ranking", "siftDown", "(I)V"⟩) (rm_dn1 hw r S9.ext Fn) (wd60 hw) (wd61 hw) (wd62 hw) (wd1 hw) (wd2 hw) (wd63 hw) (by decide) E d_prog_22_method_7_code_53 rfl pd4 (argsL := [(.int (0 : Int32))]) rfl rfl rfl (by decide) (W := 0) rfl (by decide) (by decide) (by decide) all0 (pc' := 56) rfl ?_
          intro v10 T10 h10 L10 S10 K10 q10
          obtain ⟨rfl, rfl⟩ := q10
          show Go _ _ _ _ T10 (mkF m 56 #[.val (.ref r), .val (.int dn), .val (.double (FP.l2d sx)), .second, .unset] [])
          refine Go.goto S10 d_prog_22_method_7_code_56 (pc' := 163) (by decide) ?_
          exact Go.vreturn S10 rfl d_prog_22_method_7_code_163 (by decide) (by decide) (⟨rfl, Fx, Fl, Fi, Fs, Fn, dn, sx, V7, V9, Or.inr ⟨rfl, hw1 c25⟩⟩)
        · intro c33; exact absurd (by decide) c33
set_option maxRecDepth 65536 in
set_option maxHeartbeats 4000000 in
theorem rm_off20 {l : Launch} {Z : State} {a0 : Array Value} (hw : HW Z a0) (r : Addr) (dn : Int32) (sx : Int64) (xa : Addr) (kX : ClassId) (ia sa : Addr) (kI kS : ClassId) (d0 d1 : Int32) (a0 a1 : Int64) {h0 : Heap} (hE : Ext Z.heap h0) (E : Exa Z h0 r "com/example/opas/opas/Ranking") (Fx : Fld Z h0 r "com/example/opas/opas/Ranking" "excluded" "[I" (.ref xa)) (Fl : Fld Z h0 r "com/example/opas/opas/Ranking" "limit" "I" (.int (2 : Int32))) (Fn : Fld Z h0 r "com/example/opas/opas/Ranking" "size" "I" (.int (0 : Int32))) (VX : Arv Z h0 xa kX .int 0 [] (.int 0)) (Fi : Fld Z h0 r "com/example/opas/opas/Ranking" "ids" "[I" (.ref ia)) (Fs : Fld Z h0 r "com/example/opas/opas/Ranking" "scores" "[D" (.ref sa)) (VI : Arv Z h0 ia kI .int (2 : Int32) [(.int d0), (.int d1)] (.int 0)) (VS : Arv Z h0 sa kS .double (2 : Int32) [(.double (FP.l2d a0)), (.double (FP.l2d a1))] (.double (FP.l2d 0))) (hzi : Z.heap.size ≤ ia) (hzs : Z.heap.size ≤ sa) (nri : r ≠ ia) (nrs : r ≠ sa) (nis : ia ≠ sa) (hzr : Z.heap.size ≤ r) (nxr : xa ≠ r) (nxi : xa ≠ ia) (nxs : xa ≠ sa) (bs : (-2147483648 ≤ sx.toInt ∧ sx.toInt ≤ 2147483647)) :
    OMeets l Z (⟨"com/example/opas/opas/Ranking", "offer", "(ID)V"⟩ : MethodName) prog_22_method_7_code 5 none ({ frames := 2, cells := 0, slots := 0, locals := 32 } : Room) #[(.ref r), (.int dn), (.double (FP.l2d sx))] h0 [r, ia, sa] (fun v h => v = none ∧ Fld Z h r "com/example/opas/opas/Ranking" "excluded" "[I" (.ref xa) ∧ Fld Z h r "com/example/opas/opas/Ranking" "limit" "I" (.int (2 : Int32)) ∧ Fld Z h r "com/example/opas/opas/Ranking" "ids" "[I" (.ref ia) ∧ Fld Z h r "com/example/opas/opas/Ranking" "scores" "[D" (.ref sa) ∧ Fld Z h r "com/example/opas/opas/Ranking" "size" "I" (.int (1 : Int32)) ∧ ∃ e0 e1 f0 f1, Arv Z h ia kI .int (2 : Int32) [(.int e0), (.int e1)] (.int 0) ∧ Arv Z h sa kS .double (2 : Int32) [(.double (FP.l2d f0)), (.double (FP.l2d f1))] (.double (FP.l2d 0)) ∧ f0.toInt = sx.toInt) := by
  refine OMeets.body (plainFor_of_name pn1) hE #[.val (.ref r), .val (.int dn), .val (.double (FP.l2d sx)), .second, .unset] (fun m => by first | rfl | (simp [entryFrame, mkF, argsToLocals, Value.category, maxLocals]; done)) ?_
  intro p e s m below meth co T S
  refine Go.aloadN S d_prog_22_method_7_code_0 rfl rfl (pc' := 1) rfl ?_
  refine Go.getfield S (host := "") (Or.inl (wd37 hw)) Via.refl Fn d_prog_22_method_7_code_1 (pc' := 4) rfl ?_
  intro T1 S1
  refine Go.aloadN S1 d_prog_22_method_7_code_4 rfl rfl (pc' := 5) rfl ?_
  refine Go.getfield S1 (host := "") (Or.inl (wd12 hw)) Via.refl Fl d_prog_22_method_7_code_5 (pc' := 8) rfl ?_
  intro T2 S2
  refine Go.icmp_ne S2 d_prog_22_method_7_code_8 (pt := 59) (by decide) (pc' := 11) rfl ?_ ?_
  · intro c8
    refine Go.aloadN S2 d_prog_22_method_7_code_59 rfl rfl (pc' := 60) rfl ?_
    refine Go.iloadN S2 d_prog_22_method_7_code_60 rfl (pc' := 61) rfl ?_
    refine Go.invokeprivate S2 (y := ⟨"com/example/opas/opas/Ranking", "isExcluded", "(I)Z"⟩) (rm_exc hw r dn xa kX S2.ext Fx VX) (wd44 hw) (wd45 hw) (wd46 hw) (wd1 hw) (wd2 hw) (wd47 hw) (by decide) E d_prog_22_method_7_code_61 rfl pd3 (argsL := [(.int dn)]) rfl rfl rfl (by decide) (W := 0) rfl (by decide) (by decide) (by decide) all0 (pc' := 64) rfl ?_
    intro v3 T3 h3 L3 S3 K3 q3
    obtain ⟨rfl, rfl⟩ := q3
    show Go _ _ _ _ T3 (mkF m 64 #[.val (.ref r), .val (.int dn), .val (.double (FP.l2d sx)), .second, .unset] [(.int (0 : Int32))])
    refine Go.if_ne S3 d_prog_22_method_7_code_64 (pt := 163) (by decide) (pc' := 67) rfl ?_ ?_
    · intro c64; exact absurd (by decide) c64
    · intro c64
      refine Go.aloadN S3 d_prog_22_method_7_code_67 rfl rfl (pc' := 68) rfl ?_
      refine Go.getfield S3 (host := "") (Or.inl (wd37 hw)) Via.refl Fn d_prog_22_method_7_code_68 (pc' := 71) rfl ?_
      intro T4 S4
      refine Go.aloadN S4 d_prog_22_method_7_code_71 rfl rfl (pc' := 72) rfl ?_
      refine Go.getfield S4 (host := "") (Or.inl (wd18 hw)) Via.refl Fi d_prog_22_method_7_code_72 (pc' := 75) rfl ?_
      intro T5 S5
      refine Go.arraylength S5 VI d_prog_22_method_7_code_75 (pc' := 76) rfl ?_
      refine Go.icmp_ne S5 d_prog_22_method_7_code_76 (pt := 125) (by decide) (pc' := 79) rfl ?_ ?_
      · intro c76
        refine Go.aloadN S5 d_prog_22_method_7_code_125 rfl rfl (pc' := 126) rfl ?_
        refine Go.getfield S5 (host := "") (Or.inl (wd18 hw)) Via.refl Fi d_prog_22_method_7_code_126 (pc' := 129) rfl ?_
        intro T6 S6
        refine Go.aloadN S6 d_prog_22_method_7_code_129 rfl rfl (pc' := 130) rfl ?_
        refine Go.getfield S6 (host := "") (Or.inl (wd37 hw)) Via.refl Fn d_prog_22_method_7_code_130 (pc' := 133) rfl ?_
        intro T7 S7
        refine Go.iloadN S7 d_prog_22_method_7_code_133 rfl (pc' := 134) rfl ?_
        refine Go.iastore S7 VI (by decide) (i := 0) (by decide) (Nat.le_of_ble_eq_true rfl) hzi (Or.inl (List.mem_cons_of_mem _ (List.mem_cons_self ..))) d_prog_22_method_7_code_134 (pc' := 135) rfl ?_
        intro T8 h8 L8 S8 W8 V8
        replace V8 : Arv Z h8 ia kI .int (2 : Int32) [(.int dn), (.int d1)] (.int 0) := V8
        replace E := E.wr W8
        replace Fx := Fx.other W8 (Or.inl (nri))
        replace Fl := Fl.other W8 (Or.inl (nri))
        replace Fn := Fn.other W8 (Or.inl (nri))
        replace VX := VX.other W8 (nxi)
        replace Fi := Fi.other W8 (Or.inl (nri))
        replace Fs := Fs.other W8 (Or.inl (nri))
        replace VS := VS.other W8 ((Ne.symm nis))
        refine Go.aloadN S8 d_prog_22_method_7_code_135 rfl rfl (pc' := 136) rfl ?_
        refine Go.getfield S8 (host := "") (Or.inl (wd21 hw)) Via.refl Fs d_prog_22_method_7_code_136 (pc' := 139) rfl ?_
        intro T9 S9
        refine Go.aloadN S9 d_prog_22_method_7_code_139 rfl rfl (pc' := 140) rfl ?_
        refine Go.getfield S9 (host := "") (Or.inl (wd37 hw)) Via.refl Fn d_prog_22_method_7_code_140 (pc' := 143) rfl ?_
        intro T10 S10
        refine Go.dloadN S10 d_prog_22_method_7_code_143 rfl (pc' := 144) rfl ?_
        refine Go.dastore S10 VS (by decide) (i := 0) (by decide) (Nat.le_of_ble_eq_true rfl) hzs (Or.inl (List.mem_cons_of_mem _ (List.mem_cons_of_mem _ (List.mem_singleton.mpr rfl)))) d_prog_22_method_7_code_144 (pc' := 145) rfl ?_
        intro T11 h11 L11 S11 W11 V11
        replace V11 : Arv Z h11 sa kS .double (2 : Int32) [(.double (FP.l2d sx)), (.double (FP.l2d a1))] (.double (FP.l2d 0)) := V11
        replace E := E.wr W11
        replace Fx := Fx.other W11 (Or.inl (nrs))
        replace Fl := Fl.other W11 (Or.inl (nrs))
        replace Fn := Fn.other W11 (Or.inl (nrs))
        replace VX := VX.other W11 (nxs)
        replace Fi := Fi.other W11 (Or.inl (nrs))
        replace Fs := Fs.other W11 (Or.inl (nrs))
        replace V8 := V8.other W11 (nis)
        refine Go.aloadN S11 d_prog_22_method_7_code_145 rfl rfl (pc' := 146) rfl ?_
        refine Go.aloadN S11 d_prog_22_method_7_code_146 rfl rfl (pc' := 147) rfl ?_
        refine Go.getfield S11 (host := "") (Or.inl (wd37 hw)) Via.refl Fn d_prog_22_method_7_code_147 (pc' := 150) rfl ?_
        intro T12 S12
        refine Go.invokeprivate S12 (y := ⟨"com/example/opas/opas/Ranking", "siftUp", "(I)V"⟩) (rm_up0 hw r S12.ext) (wd48 hw) (wd49 hw) (wd50 hw) (wd1 hw) (wd2 hw) (wd51 hw) (by decide) E d_prog_22_method_7_code_150 rfl pd4 (argsL := [(.int (0 : Int32))]) rfl rfl rfl (by decide) (W := 0) rfl (by decide) (by decide) (by decide) all0 (pc' := 153) rfl ?_
        intro v13 T13 h13 L13 S13 K13 q13
        obtain ⟨rfl, rfl⟩ := q13
        show Go _ _ _ _ T13 (mkF m 153 #[.val (.ref r), .val (.int dn), .val (.double (FP.l2d sx)), .second, .unset] [])
        refine Go.aloadN S13 d_prog_22_method_7_code_153 rfl rfl (pc' := 154) rfl ?_
        refine Go.dup S13 d_prog_22_method_7_code_154 rfl (pc' := 155) rfl ?_
        refine Go.getfield S13 (host := "") (Or.inl (wd37 hw)) Via.refl Fn d_prog_22_method_7_code_155 (pc' := 158) rfl ?_
        intro T14 S14
        refine Go.iconst S14 (v := 1) d_prog_22_method_7_code_158 rfl (pc' := 159) rfl ?_
        refine Go.iadd S14 d_prog_22_method_7_code_159 (pc' := 160) rfl ?_
        show Go _ _ _ _ T14 (mkF m 160 #[.val (.ref r), .val (.int dn), .val (.double (FP.l2d sx)), .second, .unset] [(.int (1 : Int32)), (.ref r)])
        refine Go.putfield S14 (host := "") (Or.inl (wd37 hw)) Via.refl Fn E (Or.inl (wd38 hw)) (wd1 hw) (ty := .int) (by decide) rfl rfl hzr (Or.inl (List.mem_cons_self ..)) d_prog_22_method_7_code_160 (pc' := 163) rfl ?_
        intro T15 h15 L15 S15 W15
        have F15 := Fn.same W15
        replace Fx := Fx.other W15 (Or.inr (slot_ne (Or.inl (wd11 hw)) (Or.inl (wd38 hw)) (by decide) (t := (.array .int)) (t' := .int) (by decide) (by decide)))
        replace Fl := Fl.other W15 (Or.inr (slot_ne (Or.inr (wd13 hw)) (Or.inl (wd38 hw)) (by decide) (t := .int) (t' := .int) (by decide) (by decide)))
        replace Fi := Fi.other W15 (Or.inr (slot_ne (Or.inl (wd19 hw)) (Or.inl (wd38 hw)) (by decide) (t := (.array .int)) (t' := .int) (by decide) (by decide)))
        replace Fs := Fs.other W15 (Or.inr (slot_ne (Or.inl (wd22 hw)) (Or.inl (wd38 hw)) (by decide) (t := (.array .double)) (t' := .int) (by decide) (by decide)))
        replace E := E.wr W15
        replace VX := VX.other W15 (nxr)
        replace V8 := V8.other W15 ((Ne.symm nri))
        replace V11 := V11.other W15 ((Ne.symm nrs))
        exact Go.vreturn S15 rfl d_prog_22_method_7_code_163 (by decide) (by decide) (⟨rfl, Fx, Fl, Fi, Fs, F15, dn, d1, sx, a1, V8, V11, rfl⟩)
      · intro c76; exact absurd c76 (by decide)
  · intro c8; exact absurd c8 (by decide)
set_option maxRecDepth 65536 in
set_option maxHeartbeats 4000000 in
theorem rm_off21 {l : Launch} {Z : State} {a0 : Array Value} (hw : HW Z a0) (r : Addr) (dn : Int32) (sx : Int64) (xa : Addr) (kX : ClassId) (ia sa : Addr) (kI kS : ClassId) (d0 d1 : Int32) (a0 a1 : Int64) {h0 : Heap} (hE : Ext Z.heap h0) (E : Exa Z h0 r "com/example/opas/opas/Ranking") (Fx : Fld Z h0 r "com/example/opas/opas/Ranking" "excluded" "[I" (.ref xa)) (Fl : Fld Z h0 r "com/example/opas/opas/Ranking" "limit" "I" (.int (2 : Int32))) (Fn : Fld Z h0 r "com/example/opas/opas/Ranking" "size" "I" (.int (1 : Int32))) (VX : Arv Z h0 xa kX .int 0 [] (.int 0)) (Fi : Fld Z h0 r "com/example/opas/opas/Ranking" "ids" "[I" (.ref ia)) (Fs : Fld Z h0 r "com/example/opas/opas/Ranking" "scores" "[D" (.ref sa)) (VI : Arv Z h0 ia kI .int (2 : Int32) [(.int d0), (.int d1)] (.int 0)) (VS : Arv Z h0 sa kS .double (2 : Int32) [(.double (FP.l2d a0)), (.double (FP.l2d a1))] (.double (FP.l2d 0))) (hzi : Z.heap.size ≤ ia) (hzs : Z.heap.size ≤ sa) (nri : r ≠ ia) (nrs : r ≠ sa) (nis : ia ≠ sa) (hzr : Z.heap.size ≤ r) (nxr : xa ≠ r) (nxi : xa ≠ ia) (nxs : xa ≠ sa) (bs : (-2147483648 ≤ sx.toInt ∧ sx.toInt ≤ 2147483647)) (b0 : (-2147483648 ≤ a0.toInt ∧ a0.toInt ≤ 2147483647)) :
    OMeets l Z (⟨"com/example/opas/opas/Ranking", "offer", "(ID)V"⟩ : MethodName) prog_22_method_7_code 5 none ({ frames := 2, cells := 0, slots := 0, locals := 32 } : Room) #[(.ref r), (.int dn), (.double (FP.l2d sx))] h0 [r, ia, sa] (fun v h => v = none ∧ Fld Z h r "com/example/opas/opas/Ranking" "excluded" "[I" (.ref xa) ∧ Fld Z h r "com/example/opas/opas/Ranking" "limit" "I" (.int (2 : Int32)) ∧ Fld Z h r "com/example/opas/opas/Ranking" "ids" "[I" (.ref ia) ∧ Fld Z h r "com/example/opas/opas/Ranking" "scores" "[D" (.ref sa) ∧ Fld Z h r "com/example/opas/opas/Ranking" "size" "I" (.int (2 : Int32)) ∧ ∃ e0 e1 f0 f1, Arv Z h ia kI .int (2 : Int32) [(.int e0), (.int e1)] (.int 0) ∧ Arv Z h sa kS .double (2 : Int32) [(.double (FP.l2d f0)), (.double (FP.l2d f1))] (.double (FP.l2d 0)) ∧ ((f0.toInt = a0.toInt ∧ f1.toInt = sx.toInt ∧ a0.toInt ≤ sx.toInt) ∨ (f0.toInt = sx.toInt ∧ f1.toInt = a0.toInt ∧ sx.toInt ≤ a0.toInt))) := by
  refine OMeets.body (plainFor_of_name pn1) hE #[.val (.ref r), .val (.int dn), .val (.double (FP.l2d sx)), .second, .unset] (fun m => by first | rfl | (simp [entryFrame, mkF, argsToLocals, Value.category, maxLocals]; done)) ?_
  intro p e s m below meth co T S
  refine Go.aloadN S d_prog_22_method_7_code_0 rfl rfl (pc' := 1) rfl ?_
  refine Go.getfield S (host := "") (Or.inl (wd37 hw)) Via.refl Fn d_prog_22_method_7_code_1 (pc' := 4) rfl ?_
  intro T1 S1
  refine Go.aloadN S1 d_prog_22_method_7_code_4 rfl rfl (pc' := 5) rfl ?_
  refine Go.getfield S1 (host := "") (Or.inl (wd12 hw)) Via.refl Fl d_prog_22_method_7_code_5 (pc' := 8) rfl ?_
  intro T2 S2
  refine Go.icmp_ne S2 d_prog_22_method_7_code_8 (pt := 59) (by decide) (pc' := 11) rfl ?_ ?_
  · intro c8
    refine Go.aloadN S2 d_prog_22_method_7_code_59 rfl rfl (pc' := 60) rfl ?_
    refine Go.iloadN S2 d_prog_22_method_7_code_60 rfl (pc' := 61) rfl ?_
    refine Go.invokeprivate S2 (y := ⟨"com/example/opas/opas/Ranking", "isExcluded", "(I)Z"⟩) (rm_exc hw r dn xa kX S2.ext Fx VX) (wd44 hw) (wd45 hw) (wd46 hw) (wd1 hw) (wd2 hw) (wd47 hw) (by decide) E d_prog_22_method_7_code_61 rfl pd3 (argsL := [(.int dn)]) rfl rfl rfl (by decide) (W := 0) rfl (by decide) (by decide) (by decide) all0 (pc' := 64) rfl ?_
    intro v3 T3 h3 L3 S3 K3 q3
    obtain ⟨rfl, rfl⟩ := q3
    show Go _ _ _ _ T3 (mkF m 64 #[.val (.ref r), .val (.int dn), .val (.double (FP.l2d sx)), .second, .unset] [(.int (0 : Int32))])
    refine Go.if_ne S3 d_prog_22_method_7_code_64 (pt := 163) (by decide) (pc' := 67) rfl ?_ ?_
    · intro c64; exact absurd (by decide) c64
    · intro c64
      refine Go.aloadN S3 d_prog_22_method_7_code_67 rfl rfl (pc' := 68) rfl ?_
      refine Go.getfield S3 (host := "") (Or.inl (wd37 hw)) Via.refl Fn d_prog_22_method_7_code_68 (pc' := 71) rfl ?_
      intro T4 S4
      refine Go.aloadN S4 d_prog_22_method_7_code_71 rfl rfl (pc' := 72) rfl ?_
      refine Go.getfield S4 (host := "") (Or.inl (wd18 hw)) Via.refl Fi d_prog_22_method_7_code_72 (pc' := 75) rfl ?_
      intro T5 S5
      refine Go.arraylength S5 VI d_prog_22_method_7_code_75 (pc' := 76) rfl ?_
      refine Go.icmp_ne S5 d_prog_22_method_7_code_76 (pt := 125) (by decide) (pc' := 79) rfl ?_ ?_
      · intro c76
        refine Go.aloadN S5 d_prog_22_method_7_code_125 rfl rfl (pc' := 126) rfl ?_
        refine Go.getfield S5 (host := "") (Or.inl (wd18 hw)) Via.refl Fi d_prog_22_method_7_code_126 (pc' := 129) rfl ?_
        intro T6 S6
        refine Go.aloadN S6 d_prog_22_method_7_code_129 rfl rfl (pc' := 130) rfl ?_
        refine Go.getfield S6 (host := "") (Or.inl (wd37 hw)) Via.refl Fn d_prog_22_method_7_code_130 (pc' := 133) rfl ?_
        intro T7 S7
        refine Go.iloadN S7 d_prog_22_method_7_code_133 rfl (pc' := 134) rfl ?_
        refine Go.iastore S7 VI (by decide) (i := 1) (by decide) (Nat.le_of_ble_eq_true rfl) hzi (Or.inl (List.mem_cons_of_mem _ (List.mem_cons_self ..))) d_prog_22_method_7_code_134 (pc' := 135) rfl ?_
        intro T8 h8 L8 S8 W8 V8
        replace V8 : Arv Z h8 ia kI .int (2 : Int32) [(.int d0), (.int dn)] (.int 0) := V8
        replace E := E.wr W8
        replace Fx := Fx.other W8 (Or.inl (nri))
        replace Fl := Fl.other W8 (Or.inl (nri))
        replace Fn := Fn.other W8 (Or.inl (nri))
        replace VX := VX.other W8 (nxi)
        replace Fi := Fi.other W8 (Or.inl (nri))
        replace Fs := Fs.other W8 (Or.inl (nri))
        replace VS := VS.other W8 ((Ne.symm nis))
        refine Go.aloadN S8 d_prog_22_method_7_code_135 rfl rfl (pc' := 136) rfl ?_
        refine Go.getfield S8 (host := "") (Or.inl (wd21 hw)) Via.refl Fs d_prog_22_method_7_code_136 (pc' := 139) rfl ?_
        intro T9 S9
        refine Go.aloadN S9 d_prog_22_method_7_code_139 rfl rfl (pc' := 140) rfl ?_
        refine Go.getfield S9 (host := "") (Or.inl (wd37 hw)) Via.refl Fn d_prog_22_method_7_code_140 (pc' := 143) rfl ?_
        intro T10 S10
        refine Go.dloadN S10 d_prog_22_method_7_code_143 rfl (pc' := 144) rfl ?_
        refine Go.dastore S10 VS (by decide) (i := 1) (by decide) (Nat.le_of_ble_eq_true rfl) hzs (Or.inl (List.mem_cons_of_mem _ (List.mem_cons_of_mem _ (List.mem_singleton.mpr rfl)))) d_prog_22_method_7_code_144 (pc' := 145) rfl ?_
        intro T11 h11 L11 S11 W11 V11
        replace V11 : Arv Z h11 sa kS .double (2 : Int32) [(.double (FP.l2d a0)), (.double (FP.l2d sx))] (.double (FP.l2d 0)) := V11
        replace E := E.wr W11
        replace Fx := Fx.other W11 (Or.inl (nrs))
        replace Fl := Fl.other W11 (Or.inl (nrs))
        replace Fn := Fn.other W11 (Or.inl (nrs))
        replace VX := VX.other W11 (nxs)
        replace Fi := Fi.other W11 (Or.inl (nrs))
        replace Fs := Fs.other W11 (Or.inl (nrs))
        replace V8 := V8.other W11 (nis)
        refine Go.aloadN S11 d_prog_22_method_7_code_145 rfl rfl (pc' := 146) rfl ?_
        refine Go.aloadN S11 d_prog_22_method_7_code_146 rfl rfl (pc' := 147) rfl ?_
        refine Go.getfield S11 (host := "") (Or.inl (wd37 hw)) Via.refl Fn d_prog_22_method_7_code_147 (pc' := 150) rfl ?_
        intro T12 S12
        refine Go.invokeprivate S12 (y := ⟨"com/example/opas/opas/Ranking", "siftUp", "(I)V"⟩) (rm_up21 hw r ia sa kI kS d0 dn a0 sx S12.ext E Fi Fs V8 V11 hzi hzs nri nrs nis b0 bs) (wd48 hw) (wd49 hw) (wd50 hw) (wd1 hw) (wd2 hw) (wd51 hw) (by decide) E d_prog_22_method_7_code_150 rfl pd4 (argsL := [(.int (1 : Int32))]) rfl rfl rfl (by decide) (W := 0) rfl (by decide) (by decide) (by decide) (allS (Or.inl (List.mem_cons_of_mem _ (List.mem_cons_self ..))) (allS (Or.inl (List.mem_cons_of_mem _ (List.mem_cons_of_mem _ (List.mem_singleton.mpr rfl)))) all0)) (pc' := 153) rfl ?_
        intro v13 T13 h13 L13 S13 K13 q13
        obtain ⟨rfl, e0, e1, f0, f1, VI13, VS13, hP⟩ := q13
        replace E := E.keep K13
        replace Fx := Fx.keep K13 (ninS nri (ninS nrs nin0))
        replace Fl := Fl.keep K13 (ninS nri (ninS nrs nin0))
        replace Fn := Fn.keep K13 (ninS nri (ninS nrs nin0))
        replace VX := VX.keep K13 (ninS nxi (ninS nxs nin0))
        replace Fi := Fi.keep K13 (ninS nri (ninS nrs nin0))
        replace Fs := Fs.keep K13 (ninS nri (ninS nrs nin0))
        show Go _ _ _ _ T13 (mkF m 153 #[.val (.ref r), .val (.int dn), .val (.double (FP.l2d sx)), .second, .unset] [])
        refine Go.aloadN S13 d_prog_22_method_7_code_153 rfl rfl (pc' := 154) rfl ?_
        refine Go.dup S13 d_prog_22_method_7_code_154 rfl (pc' := 155) rfl ?_
        refine Go.getfield S13 (host := "") (Or.inl (wd37 hw)) Via.refl Fn d_prog_22_method_7_code_155 (pc' := 158) rfl ?_
        intro T14 S14
        refine Go.iconst S14 (v := 1) d_prog_22_method_7_code_158 rfl (pc' := 159) rfl ?_
        refine Go.iadd S14 d_prog_22_method_7_code_159 (pc' := 160) rfl ?_
        show Go _ _ _ _ T14 (mkF m 160 #[.val (.ref r), .val (.int dn), .val (.double (FP.l2d sx)), .second, .unset] [(.int (2 : Int32)), (.ref r)])
        refine Go.putfield S14 (host := "") (Or.inl (wd37 hw)) Via.refl Fn E (Or.inl (wd38 hw)) (wd1 hw) (ty := .int) (by decide) rfl rfl hzr (Or.inl (List.mem_cons_self ..)) d_prog_22_method_7_code_160 (pc' := 163) rfl ?_
        intro T15 h15 L15 S15 W15
        have F15 := Fn.same W15
        replace Fx := Fx.other W15 (Or.inr (slot_ne (Or.inl (wd11 hw)) (Or.inl (wd38 hw)) (by decide) (t := (.array .int)) (t' := .int) (by decide) (by decide)))
        replace Fl := Fl.other W15 (Or.inr (slot_ne (Or.inr (wd13 hw)) (Or.inl (wd38 hw)) (by decide) (t := .int) (t' := .int) (by decide) (by decide)))
        replace Fi := Fi.other W15 (Or.inr (slot_ne (Or.inl (wd19 hw)) (Or.inl (wd38 hw)) (by decide) (t := (.array .int)) (t' := .int) (by decide) (by decide)))
        replace Fs := Fs.other W15 (Or.inr (slot_ne (Or.inl (wd22 hw)) (Or.inl (wd38 hw)) (by decide) (t := (.array .double)) (t' := .int) (by decide) (by decide)))
        replace E := E.wr W15
        replace VX := VX.other W15 (nxr)
        replace VI13 := VI13.other W15 ((Ne.symm nri))
        replace VS13 := VS13.other W15 ((Ne.symm nrs))
        exact Go.vreturn S15 rfl d_prog_22_method_7_code_163 (by decide) (by decide) (⟨rfl, Fx, Fl, Fi, Fs, F15, e0, e1, f0, f1, VI13, VS13, hP⟩)
      · intro c76; exact absurd c76 (by decide)
  · intro c8; exact absurd c8 (by decide)
set_option maxRecDepth 65536 in
set_option maxHeartbeats 4000000 in
theorem rm_off22 {l : Launch} {Z : State} {a0 : Array Value} (hw : HW Z a0) (r : Addr) (dn : Int32) (sx : Int64) (xa : Addr) (kX : ClassId) (ia sa : Addr) (kI kS : ClassId) (d0 d1 : Int32) (a0 a1 : Int64) {h0 : Heap} (hE : Ext Z.heap h0) (E : Exa Z h0 r "com/example/opas/opas/Ranking") (Fx : Fld Z h0 r "com/example/opas/opas/Ranking" "excluded" "[I" (.ref xa)) (Fl : Fld Z h0 r "com/example/opas/opas/Ranking" "limit" "I" (.int (2 : Int32))) (Fn : Fld Z h0 r "com/example/opas/opas/Ranking" "size" "I" (.int (2 : Int32))) (VX : Arv Z h0 xa kX .int 0 [] (.int 0)) (Fi : Fld Z h0 r "com/example/opas/opas/Ranking" "ids" "[I" (.ref ia)) (Fs : Fld Z h0 r "com/example/opas/opas/Ranking" "scores" "[D" (.ref sa)) (VI : Arv Z h0 ia kI .int (2 : Int32) [(.int d0), (.int d1)] (.int 0)) (VS : Arv Z h0 sa kS .double (2 : Int32) [(.double (FP.l2d a0)), (.double (FP.l2d a1))] (.double (FP.l2d 0))) (hzi : Z.heap.size ≤ ia) (hzs : Z.heap.size ≤ sa) (nri : r ≠ ia) (nrs : r ≠ sa) (nis : ia ≠ sa) (hzr : Z.heap.size ≤ r) (nxr : xa ≠ r) (nxi : xa ≠ ia) (nxs : xa ≠ sa) (bs : (-2147483648 ≤ sx.toInt ∧ sx.toInt ≤ 2147483647)) (b0 : (-2147483648 ≤ a0.toInt ∧ a0.toInt ≤ 2147483647)) (b1 : (-2147483648 ≤ a1.toInt ∧ a1.toInt ≤ 2147483647)) :
    OMeets l Z (⟨"com/example/opas/opas/Ranking", "offer", "(ID)V"⟩ : MethodName) prog_22_method_7_code 5 none ({ frames := 2, cells := 0, slots := 0, locals := 32 } : Room) #[(.ref r), (.int dn), (.double (FP.l2d sx))] h0 [r, ia, sa] (fun v h => v = none ∧ Fld Z h r "com/example/opas/opas/Ranking" "excluded" "[I" (.ref xa) ∧ Fld Z h r "com/example/opas/opas/Ranking" "limit" "I" (.int (2 : Int32)) ∧ Fld Z h r "com/example/opas/opas/Ranking" "ids" "[I" (.ref ia) ∧ Fld Z h r "com/example/opas/opas/Ranking" "scores" "[D" (.ref sa) ∧ Fld Z h r "com/example/opas/opas/Ranking" "size" "I" (.int (2 : Int32)) ∧ ∃ e0 e1 f0 f1, Arv Z h ia kI .int (2 : Int32) [(.int e0), (.int e1)] (.int 0) ∧ Arv Z h sa kS .double (2 : Int32) [(.double (FP.l2d f0)), (.double (FP.l2d f1))] (.double (FP.l2d 0)) ∧ ((f0.toInt = a0.toInt ∧ f1.toInt = a1.toInt ∧ sx.toInt ≤ a0.toInt) ∨ (a0.toInt ≤ sx.toInt ∧ ((f0.toInt = sx.toInt ∧ f1.toInt = a1.toInt ∧ sx.toInt ≤ a1.toInt) ∨ (f0.toInt = a1.toInt ∧ f1.toInt = sx.toInt ∧ a1.toInt ≤ sx.toInt))))) := by
  refine OMeets.body (plainFor_of_name pn1) hE #[.val (.ref r), .val (.int dn), .val (.double (FP.l2d sx)), .second, .unset] (fun m => by first | rfl | (simp [entryFrame, mkF, argsToLocals, Value.category, maxLocals]; done)) ?_
  intro p e s m below meth co T S
  refine Go.aloadN S d_prog_22_method_7_code_0 rfl rfl (pc' := 1) rfl ?_
  refine Go.getfield S (host := "") (Or.inl (wd37 hw)) Via.refl Fn d_prog_22_method_7_code_1 (pc' := 4) rfl ?_
  intro T1 S1
  refine Go.aloadN S1 d_prog_22_method_7_code_4 rfl rfl (pc' := 5) rfl ?_
  refine Go.getfield S1 (host := "") (Or.inl (wd12 hw)) Via.refl Fl d_prog_22_method_7_code_5 (pc' := 8) rfl ?_
  intro T2 S2
  refine Go.icmp_ne S2 d_prog_22_method_7_code_8 (pt := 59) (by decide) (pc' := 11) rfl ?_ ?_
  · intro c8; exact absurd (by decide) c8
  · intro c8
    refine Go.aloadN S2 d_prog_22_method_7_code_11 rfl rfl (pc' := 12) rfl ?_
    refine Go.getfield S2 (host := "") (Or.inl (wd12 hw)) Via.refl Fl d_prog_22_method_7_code_12 (pc' := 15) rfl ?_
    intro T3 S3
    refine Go.if_eq S3 d_prog_22_method_7_code_15 (pt := 36) (by decide) (pc' := 18) rfl ?_ ?_
    · intro c15; exact absurd c15 (by decide)
    · intro c15
      refine Go.aloadN S3 d_prog_22_method_7_code_18 rfl rfl (pc' := 19) rfl ?_
      refine Go.iloadN S3 d_prog_22_method_7_code_19 rfl (pc' := 20) rfl ?_
      refine Go.dloadN S3 d_prog_22_method_7_code_20 rfl (pc' := 21) rfl ?_
      refine Go.iconst S3 (v := 0) d_prog_22_method_7_code_21 rfl (pc' := 22) rfl ?_
      refine Go.invokeprivate S3 (y := ⟨"com/example/opas/opas/Ranking", "isBetter", "(IDI)Z"⟩) (rm_better hw r dn sx (0 : Int32) ia sa kI kS (2 : Int32) [(.int d0), (.int d1)] [(.double (FP.l2d a0)), (.double (FP.l2d a1))] a0 d0 S3.ext Fi Fs VI VS (by decide) rfl rfl bs b0) (wd52 hw) (wd53 hw) (wd54 hw) (wd1 hw) (wd2 hw) (wd55 hw) (by decide) E d_prog_22_method_7_code_22 rfl pd1 (argsL := [(.int dn), (.double (FP.l2d sx)), (.int (0 : Int32))]) rfl rfl rfl (by decide) (W := 0) rfl (by decide) (by decide) (by decide) all0 (pc' := 25) rfl ?_
      intro v4 T4 h4 L4 S4 K4 q4
      obtain ⟨⟨w, rfl, hw0, hw1⟩, rfl⟩ := q4
      show Go _ _ _ _ T4 (mkF m 25 #[.val (.ref r), .val (.int dn), .val (.double (FP.l2d sx)), .second, .unset] [(.int w)])
      refine Go.if_eq S4 d_prog_22_method_7_code_25 (pt := 36) (by decide) (pc' := 28) rfl ?_ ?_
      · intro c25
        exact Go.vreturn S4 rfl d_prog_22_method_7_code_36 (by decide) (by decide) (⟨rfl, Fx, Fl, Fi, Fs, Fn, d0, d1, a0, a1, VI, VS, Or.inl ⟨rfl, rfl, hw0 c25⟩⟩)
      · intro c25
        refine Go.aloadN S4 d_prog_22_method_7_code_28 rfl rfl (pc' := 29) rfl ?_
        refine Go.iloadN S4 d_prog_22_method_7_code_29 rfl (pc' := 30) rfl ?_
        refine Go.invokeprivate S4 (y := ⟨"com/example/opas/opas/Ranking", "isExcluded", "(I)Z"⟩) (rm_exc hw r dn xa kX S4.ext Fx VX) (wd44 hw) (wd45 hw) (wd46 hw) (wd1 hw) (wd2 hw) (wd47 hw) (by decide) E d_prog_22_method_7_code_30 rfl pd3 (argsL := [(.int dn)]) rfl rfl rfl (by decide) (W := 0) rfl (by decide) (by decide) (by decide) all0 (pc' := 33) rfl ?_
        intro v5 T5 h5 L5 S5 K5 q5
        obtain ⟨rfl, rfl⟩ := q5
        show Go _ _ _ _ T5 (mkF m 33 #[.val (.ref r), .val (.int dn), .val (.double (FP.l2d sx)), .second, .unset] [(.int (0 : Int32))])
        refine Go.if_eq S5 d_prog_22_method_7_code_33 (pt := 37) (by decide) (pc' := 36) rfl ?_ ?_
        · intro c33
          refine Go.aloadN S5 d_prog_22_method_7_code_37 rfl rfl (pc' := 38) rfl ?_
          refine Go.getfield S5 (host := "") (Or.inl (wd18 hw)) Via.refl Fi d_prog_22_method_7_code_38 (pc' := 41) rfl ?_
          intro T6 S6
          refine Go.iconst S6 (v := 0) d_prog_22_method_7_code_41 rfl (pc' := 42) rfl ?_
          refine Go.iloadN S6 d_prog_22_method_7_code_42 rfl (pc' := 43) rfl ?_
          refine Go.iastore S6 VI (by decide) (i := 0) (by decide) (Nat.le_of_ble_eq_true rfl) hzi (Or.inl (List.mem_cons_of_mem _ (List.mem_cons_self ..))) d_prog_22_method_7_code_43 (pc' := 44) rfl ?_
          intro T7 h7 L7 S7 W7 V7
          replace V7 : Arv Z h7 ia kI .int (2 : Int32) [(.int dn), (.int d1)] (.int 0) := V7
          replace E := E.wr W7
          replace Fx := Fx.other W7 (Or.inl (nri))
          replace Fl := Fl.other W7 (Or.inl (nri))
          replace Fn := Fn.other W7 (Or.inl (nri))
          replace VX := VX.other W7 (nxi)
          replace Fi := Fi.other W7 (Or.inl (nri))
          replace Fs := Fs.other W7 (Or.inl (nri))
          replace VS := VS.other W7 ((Ne.symm nis))
          refine Go.aloadN S7 d_prog_22_method_7_code_44 rfl rfl (pc' := 45) rfl ?_
          refine Go.getfield S7 (host := "") (Or.inl (wd21 hw)) Via.refl Fs d_prog_22_method_7_code_45 (pc' := 48) rfl ?_
          intro T8 S8
          refine Go.iconst S8 (v := 0) d_prog_22_method_7_code_48 rfl (pc' := 49) rfl ?_
          refine Go.dloadN S8 d_prog_22_method_7_code_49 rfl (pc' := 50) rfl ?_
          refine Go.dastore S8 VS (by decide) (i := 0) (by decide) (Nat.le_of_ble_eq_true rfl) hzs (Or.inl (List.mem_cons_of_mem _ (List.mem_cons_of_mem _ (List.mem_singleton.mpr rfl)))) d_prog_22_method_7_code_50 (pc' := 51) rfl ?_
          intro T9 h9 L9 S9 W9 V9
          replace V9 : Arv Z h9 sa kS .double (2 : Int32) [(.double (FP.l2d sx)), (.double (FP.l2d a1))] (.double (FP.l2d 0)) := V9
          replace E := E.wr W9
          replace Fx := Fx.other W9 (Or.inl (nrs))
          replace Fl := Fl.other W9 (Or.inl (nrs))
          replace Fn := Fn.other W9 (Or.inl (nrs))
          replace VX := VX.other W9 (nxs)
          replace Fi := Fi.other W9 (Or.inl (nrs))
          replace Fs := Fs.other W9 (Or.inl (nrs))
          replace V7 := V7.other W9 (nis)
          refine Go.aloadN S9 d_prog_22_method_7_code_51 rfl rfl (pc' := 52) rfl ?_
          refine Go.iconst S9 (v := 0) d_prog_22_method_7_code_52 rfl (pc' := 53) rfl ?_
          refine Go.invokeprivate S9 (y := ⟨"com/example/opas/opas/Ranking", "siftDown", "(I)V"⟩) (rm_dn2 hw r ia sa kI kS dn d1 sx a1 S9.ext E Fn Fi Fs V7 V9 hzi hzs nri nrs nis bs b1) (wd60 hw) (wd61 hw) (wd62 hw) (wd1 hw) (wd2 hw) (wd63 hw) (by decide) E d_prog_22_method_7_code_53 rfl pd4 (argsL := [(.int (0 : Int32))]) rfl rfl rfl (by decide) (W := 0) rfl (by decide) (by decide) (by decide) (allS (Or.inl (List.mem_cons_of_mem _ (List.mem_cons_self ..))) (allS (Or.inl (List.mem_cons_of_mem _ (List.mem_cons_of_mem _ (List.mem_singleton.mpr rfl)))) all0)) (pc' := 56) rfl ?_
          intro v10 T10 h10 L10 S10 K10 q10
          obtain ⟨rfl, e0, e1, f0, f1, VI10, VS10, hP⟩ := q10
          replace E := E.keep K10
          replace Fx := Fx.keep K10 (ninS nri (ninS nrs nin0))
          replace Fl := Fl.keep K10 (ninS nri (ninS nrs nin0))
          replace Fn := Fn.keep K10 (ninS nri (ninS nrs nin0))
          replace VX := VX.keep K10 (ninS nxi (ninS nxs nin0))
          replace Fi := Fi.keep K10 (ninS nri (ninS nrs nin0))
          replace Fs := Fs.keep K10 (ninS nri (ninS nrs nin0))
          show Go _ _ _ _ T10 (mkF m 56 #[.val (.ref r), .val (.int dn), .val (.double (FP.l2d sx)), .second, .unset] [])
          refine Go.goto S10 d_prog_22_method_7_code_56 (pc' := 163) (by decide) ?_
          exact Go.vreturn S10 rfl d_prog_22_method_7_code_163 (by decide) (by decide) (⟨rfl, Fx, Fl, Fi, Fs, Fn, e0, e1, f0, f1, VI10, VS10, Or.inr ⟨hw1 c25, hP.imp (fun z => ⟨z.1, z.2.1, z.2.2⟩) (fun z => ⟨z.1, z.2.1, z.2.2⟩)⟩⟩)
        · intro c33; exact absurd (by decide) c33
set_option maxRecDepth 65536 in
set_option maxHeartbeats 4000000 in
theorem rm_off30 {l : Launch} {Z : State} {a0 : Array Value} (hw : HW Z a0) (r : Addr) (dn : Int32) (sx : Int64) (xa : Addr) (kX : ClassId) (ia sa : Addr) (kI kS : ClassId) (d0 d1 d2 : Int32) (a0 a1 a2 : Int64) {h0 : Heap} (hE : Ext Z.heap h0) (E : Exa Z h0 r "com/example/opas/opas/Ranking") (Fx : Fld Z h0 r "com/example/opas/opas/Ranking" "excluded" "[I" (.ref xa)) (Fl : Fld Z h0 r "com/example/opas/opas/Ranking" "limit" "I" (.int (3 : Int32))) (Fn : Fld Z h0 r "com/example/opas/opas/Ranking" "size" "I" (.int (0 : Int32))) (VX : Arv Z h0 xa kX .int 0 [] (.int 0)) (Fi : Fld Z h0 r "com/example/opas/opas/Ranking" "ids" "[I" (.ref ia)) (Fs : Fld Z h0 r "com/example/opas/opas/Ranking" "scores" "[D" (.ref sa)) (VI : Arv Z h0 ia kI .int (3 : Int32) [(.int d0), (.int d1), (.int d2)] (.int 0)) (VS : Arv Z h0 sa kS .double (3 : Int32) [(.double (FP.l2d a0)), (.double (FP.l2d a1)), (.double (FP.l2d a2))] (.double (FP.l2d 0))) (hzi : Z.heap.size ≤ ia) (hzs : Z.heap.size ≤ sa) (nri : r ≠ ia) (nrs : r ≠ sa) (nis : ia ≠ sa) (hzr : Z.heap.size ≤ r) (nxr : xa ≠ r) (nxi : xa ≠ ia) (nxs : xa ≠ sa) (bs : (-2147483648 ≤ sx.toInt ∧ sx.toInt ≤ 2147483647)) :
    OMeets l Z (⟨"com/example/opas/opas/Ranking", "offer", "(ID)V"⟩ : MethodName) prog_22_method_7_code 5 none ({ frames := 2, cells := 0, slots := 0, locals := 32 } : Room) #[(.ref r), (.int dn), (.double (FP.l2d sx))] h0 [r, ia, sa] (fun v h => v = none ∧ Fld Z h r "com/example/opas/opas/Ranking" "excluded" "[I" (.ref xa) ∧ Fld Z h r "com/example/opas/opas/Ranking" "limit" "I" (.int (3 : Int32)) ∧ Fld Z h r "com/example/opas/opas/Ranking" "ids" "[I" (.ref ia) ∧ Fld Z h r "com/example/opas/opas/Ranking" "scores" "[D" (.ref sa) ∧ Fld Z h r "com/example/opas/opas/Ranking" "size" "I" (.int (1 : Int32)) ∧ ∃ e0 e1 e2 f0 f1 f2, Arv Z h ia kI .int (3 : Int32) [(.int e0), (.int e1), (.int e2)] (.int 0) ∧ Arv Z h sa kS .double (3 : Int32) [(.double (FP.l2d f0)), (.double (FP.l2d f1)), (.double (FP.l2d f2))] (.double (FP.l2d 0)) ∧ f0.toInt = sx.toInt) := by
  refine OMeets.body (plainFor_of_name pn1) hE #[.val (.ref r), .val (.int dn), .val (.double (FP.l2d sx)), .second, .unset] (fun m => by first | rfl | (simp [entryFrame, mkF, argsToLocals, Value.category, maxLocals]; done)) ?_
  intro p e s m below meth co T S
  refine Go.aloadN S d_prog_22_method_7_code_0 rfl rfl (pc' := 1) rfl ?_
  refine Go.getfield S (host := "") (Or.inl (wd37 hw)) Via.refl Fn d_prog_22_method_7_code_1 (pc' := 4) rfl ?_
  intro T1 S1
  refine Go.aloadN S1 d_prog_22_method_7_code_4 rfl rfl (pc' := 5) rfl ?_
  refine Go.getfield S1 (host := "") (Or.inl (wd12 hw)) Via.refl Fl d_prog_22_method_7_code_5 (pc' := 8) rfl ?_
  intro T2 S2
  refine Go.icmp_ne S2 d_prog_22_method_7_code_8 (pt := 59) (by decide) (pc' := 11) rfl ?_ ?_
  · intro c8
    refine Go.aloadN S2 d_prog_22_method_7_code_59 rfl rfl (pc' := 60) rfl ?_
    refine Go.iloadN S2 d_prog_22_method_7_code_60 rfl (pc' := 61) rfl ?_
    refine Go.invokeprivate S2 (y := ⟨"com/example/opas/opas/Ranking", "isExcluded", "(I)Z"⟩) (rm_exc hw r dn xa kX S2.ext Fx VX) (wd44 hw) (wd45 hw) (wd46 hw) (wd1 hw) (wd2 hw) (wd47 hw) (by decide) E d_prog_22_method_7_code_61 rfl pd3 (argsL := [(.int dn)]) rfl rfl rfl (by decide) (W := 0) rfl (by decide) (by decide) (by decide) all0 (pc' := 64) rfl ?_
    intro v3 T3 h3 L3 S3 K3 q3
    obtain ⟨rfl, rfl⟩ := q3
    show Go _ _ _ _ T3 (mkF m 64 #[.val (.ref r), .val (.int dn), .val (.double (FP.l2d sx)), .second, .unset] [(.int (0 : Int32))])
    refine Go.if_ne S3 d_prog_22_method_7_code_64 (pt := 163) (by decide) (pc' := 67) rfl ?_ ?_
    · intro c64; exact absurd (by decide) c64
    · intro c64
      refine Go.aloadN S3 d_prog_22_method_7_code_67 rfl rfl (pc' := 68) rfl ?_
      refine Go.getfield S3 (host := "") (Or.inl (wd37 hw)) Via.refl Fn d_prog_22_method_7_code_68 (pc' := 71) rfl ?_
      intro T4 S4
      refine Go.aloadN S4 d_prog_22_method_7_code_71 rfl rfl (pc' := 72) rfl ?_
      refine Go.getfield S4 (host := "") (Or.inl (wd18 hw)) Via.refl Fi d_prog_22_method_7_code_72 (pc' := 75) rfl ?_
      intro T5 S5
      refine Go.arraylength S5 VI d_prog_22_method_7_code_75 (pc' := 76) rfl ?_
      refine Go.icmp_ne S5 d_prog_22_method_7_code_76 (pt := 125) (by decide) (pc' := 79) rfl ?_ ?_
      · intro c76
        refine Go.aloadN S5 d_prog_22_method_7_code_125 rfl rfl (pc' := 126) rfl ?_
        refine Go.getfield S5 (host := "") (Or.inl (wd18 hw)) Via.refl Fi d_prog_22_method_7_code_126 (pc' := 129) rfl ?_
        intro T6 S6
        refine Go.aloadN S6 d_prog_22_method_7_code_129 rfl rfl (pc' := 130) rfl ?_
        refine Go.getfield S6 (host := "") (Or.inl (wd37 hw)) Via.refl Fn d_prog_22_method_7_code_130 (pc' := 133) rfl ?_
        intro T7 S7
        refine Go.iloadN S7 d_prog_22_method_7_code_133 rfl (pc' := 134) rfl ?_
        refine Go.iastore S7 VI (by decide) (i := 0) (by decide) (Nat.le_of_ble_eq_true rfl) hzi (Or.inl (List.mem_cons_of_mem _ (List.mem_cons_self ..))) d_prog_22_method_7_code_134 (pc' := 135) rfl ?_
        intro T8 h8 L8 S8 W8 V8
        replace V8 : Arv Z h8 ia kI .int (3 : Int32) [(.int dn), (.int d1), (.int d2)] (.int 0) := V8
        replace E := E.wr W8
        replace Fx := Fx.other W8 (Or.inl (nri))
        replace Fl := Fl.other W8 (Or.inl (nri))
        replace Fn := Fn.other W8 (Or.inl (nri))
        replace VX := VX.other W8 (nxi)
        replace Fi := Fi.other W8 (Or.inl (nri))
        replace Fs := Fs.other W8 (Or.inl (nri))
        replace VS := VS.other W8 ((Ne.symm nis))
        refine Go.aloadN S8 d_prog_22_method_7_code_135 rfl rfl (pc' := 136) rfl ?_
        refine Go.getfield S8 (host := "") (Or.inl (wd21 hw)) Via.refl Fs d_prog_22_method_7_code_136 (pc' := 139) rfl ?_
        intro T9 S9
        refine Go.aloadN S9 d_prog_22_method_7_code_139 rfl rfl (pc' := 140) rfl ?_
        refine Go.getfield S9 (host := "") (Or.inl (wd37 hw)) Via.refl Fn d_prog_22_method_7_code_140 (pc' := 143) rfl ?_
        intro T10 S10
        refine Go.dloadN S10 d_prog_22_method_7_code_143 rfl (pc' := 144) rfl ?_
        refine Go.dastore S10 VS (by decide) (i := 0) (by decide) (Nat.le_of_ble_eq_true rfl) hzs (Or.inl (List.mem_cons_of_mem _ (List.mem_cons_of_mem _ (List.mem_singleton.mpr rfl)))) d_prog_22_method_7_code_144 (pc' := 145) rfl ?_
        intro T11 h11 L11 S11 W11 V11
        replace V11 : Arv Z h11 sa kS .double (3 : Int32) [(.double (FP.l2d sx)), (.double (FP.l2d a1)), (.double (FP.l2d a2))] (.double (FP.l2d 0)) := V11
        replace E := E.wr W11
        replace Fx := Fx.other W11 (Or.inl (nrs))
        replace Fl := Fl.other W11 (Or.inl (nrs))
        replace Fn := Fn.other W11 (Or.inl (nrs))
        replace VX := VX.other W11 (nxs)
        replace Fi := Fi.other W11 (Or.inl (nrs))
        replace Fs := Fs.other W11 (Or.inl (nrs))
        replace V8 := V8.other W11 (nis)
        refine Go.aloadN S11 d_prog_22_method_7_code_145 rfl rfl (pc' := 146) rfl ?_
        refine Go.aloadN S11 d_prog_22_method_7_code_146 rfl rfl (pc' := 147) rfl ?_
        refine Go.getfield S11 (host := "") (Or.inl (wd37 hw)) Via.refl Fn d_prog_22_method_7_code_147 (pc' := 150) rfl ?_
        intro T12 S12
        refine Go.invokeprivate S12 (y := ⟨"com/example/opas/opas/Ranking", "siftUp", "(I)V"⟩) (rm_up0 hw r S12.ext) (wd48 hw) (wd49 hw) (wd50 hw) (wd1 hw) (wd2 hw) (wd51 hw) (by decide) E d_prog_22_method_7_code_150 rfl pd4 (argsL := [(.int (0 : Int32))]) rfl rfl rfl (by decide) (W := 0) rfl (by decide) (by decide) (by decide) all0 (pc' := 153) rfl ?_
        intro v13 T13 h13 L13 S13 K13 q13
        obtain ⟨rfl, rfl⟩ := q13
        show Go _ _ _ _ T13 (mkF m 153 #[.val (.ref r), .val (.int dn), .val (.double (FP.l2d sx)), .second, .unset] [])
        refine Go.aloadN S13 d_prog_22_method_7_code_153 rfl rfl (pc' := 154) rfl ?_
        refine Go.dup S13 d_prog_22_method_7_code_154 rfl (pc' := 155) rfl ?_
        refine Go.getfield S13 (host := "") (Or.inl (wd37 hw)) Via.refl Fn d_prog_22_method_7_code_155 (pc' := 158) rfl ?_
        intro T14 S14
        refine Go.iconst S14 (v := 1) d_prog_22_method_7_code_158 rfl (pc' := 159) rfl ?_
        refine Go.iadd S14 d_prog_22_method_7_code_159 (pc' := 160) rfl ?_
        show Go _ _ _ _ T14 (mkF m 160 #[.val (.ref r), .val (.int dn), .val (.double (FP.l2d sx)), .second, .unset] [(.int (1 : Int32)), (.ref r)])
        refine Go.putfield S14 (host := "") (Or.inl (wd37 hw)) Via.refl Fn E (Or.inl (wd38 hw)) (wd1 hw) (ty := .int) (by decide) rfl rfl hzr (Or.inl (List.mem_cons_self ..)) d_prog_22_method_7_code_160 (pc' := 163) rfl ?_
        intro T15 h15 L15 S15 W15
        have F15 := Fn.same W15
        replace Fx := Fx.other W15 (Or.inr (slot_ne (Or.inl (wd11 hw)) (Or.inl (wd38 hw)) (by decide) (t := (.array .int)) (t' := .int) (by decide) (by decide)))
        replace Fl := Fl.other W15 (Or.inr (slot_ne (Or.inr (wd13 hw)) (Or.inl (wd38 hw)) (by decide) (t := .int) (t' := .int) (by decide) (by decide)))
        replace Fi := Fi.other W15 (Or.inr (slot_ne (Or.inl (wd19 hw)) (Or.inl (wd38 hw)) (by decide) (t := (.array .int)) (t' := .int) (by decide) (by decide)))
        replace Fs := Fs.other W15 (Or.inr (slot_ne (Or.inl (wd22 hw)) (Or.inl (wd38 hw)) (by decide) (t := (.array .double)) (t' := .int) (by decide) (by decide)))
        replace E := E.wr W15
        replace VX := VX.other W15 (nxr)
        replace V8 := V8.other W15 ((Ne.symm nri))
        replace V11 := V11.other W15 ((Ne.symm nrs))
        exact Go.vreturn S15 rfl d_prog_22_method_7_code_163 (by decide) (by decide) (⟨rfl, Fx, Fl, Fi, Fs, F15, dn, d1, d2, sx, a1, a2, V8, V11, rfl⟩)
      · intro c76; exact absurd c76 (by decide)
  · intro c8; exact absurd c8 (by decide)
set_option maxRecDepth 65536 in
set_option maxHeartbeats 4000000 in
theorem rm_off31 {l : Launch} {Z : State} {a0 : Array Value} (hw : HW Z a0) (r : Addr) (dn : Int32) (sx : Int64) (xa : Addr) (kX : ClassId) (ia sa : Addr) (kI kS : ClassId) (d0 d1 d2 : Int32) (a0 a1 a2 : Int64) {h0 : Heap} (hE : Ext Z.heap h0) (E : Exa Z h0 r "com/example/opas/opas/Ranking") (Fx : Fld Z h0 r "com/example/opas/opas/Ranking" "excluded" "[I" (.ref xa)) (Fl : Fld Z h0 r "com/example/opas/opas/Ranking" "limit" "I" (.int (3 : Int32))) (Fn : Fld Z h0 r "com/example/opas/opas/Ranking" "size" "I" (.int (1 : Int32))) (VX : Arv Z h0 xa kX .int 0 [] (.int 0)) (Fi : Fld Z h0 r "com/example/opas/opas/Ranking" "ids" "[I" (.ref ia)) (Fs : Fld Z h0 r "com/example/opas/opas/Ranking" "scores" "[D" (.ref sa)) (VI : Arv Z h0 ia kI .int (3 : Int32) [(.int d0), (.int d1), (.int d2)] (.int 0)) (VS : Arv Z h0 sa kS .double (3 : Int32) [(.double (FP.l2d a0)), (.double (FP.l2d a1)), (.double (FP.l2d a2))] (.double (FP.l2d 0))) (hzi : Z.heap.size ≤ ia) (hzs : Z.heap.size ≤ sa) (nri : r ≠ ia) (nrs : r ≠ sa) (nis : ia ≠ sa) (hzr : Z.heap.size ≤ r) (nxr : xa ≠ r) (nxi : xa ≠ ia) (nxs : xa ≠ sa) (bs : (-2147483648 ≤ sx.toInt ∧ sx.toInt ≤ 2147483647)) (b0 : (-2147483648 ≤ a0.toInt ∧ a0.toInt ≤ 2147483647)) :
    OMeets l Z (⟨"com/example/opas/opas/Ranking", "offer", "(ID)V"⟩ : MethodName) prog_22_method_7_code 5 none ({ frames := 2, cells := 0, slots := 0, locals := 32 } : Room) #[(.ref r), (.int dn), (.double (FP.l2d sx))] h0 [r, ia, sa] (fun v h => v = none ∧ Fld Z h r "com/example/opas/opas/Ranking" "excluded" "[I" (.ref xa) ∧ Fld Z h r "com/example/opas/opas/Ranking" "limit" "I" (.int (3 : Int32)) ∧ Fld Z h r "com/example/opas/opas/Ranking" "ids" "[I" (.ref ia) ∧ Fld Z h r "com/example/opas/opas/Ranking" "scores" "[D" (.ref sa) ∧ Fld Z h r "com/example/opas/opas/Ranking" "size" "I" (.int (2 : Int32)) ∧ ∃ e0 e1 e2 f0 f1 f2, Arv Z h ia kI .int (3 : Int32) [(.int e0), (.int e1), (.int e2)] (.int 0) ∧ Arv Z h sa kS .double (3 : Int32) [(.double (FP.l2d f0)), (.double (FP.l2d f1)), (.double (FP.l2d f2))] (.double (FP.l2d 0)) ∧ ((f0.toInt = a0.toInt ∧ f1.toInt = sx.toInt ∧ f2.toInt = a2.toInt ∧ a0.toInt ≤ sx.toInt) ∨ (f0.toInt = sx.toInt ∧ f1.toInt = a0.toInt ∧ f2.toInt = a2.toInt ∧ sx.toInt ≤ a0.toInt))) := by
  refine OMeets.body (plainFor_of_name pn1) hE #[.val (.ref r), .val (.int dn), .val (.double (FP.l2d sx)), .second, .unset] (fun m => by first | rfl | (simp [entryFrame, mkF, argsToLocals, Value.category, maxLocals]; done)) ?_
  intro p e s m below meth co T S
  refine Go.aloadN S d_prog_22_method_7_code_0 rfl rfl (pc' := 1) rfl ?_
  refine Go.getfield S (host := "") (Or.inl (wd37 hw)) Via.refl Fn d_prog_22_method_7_code_1 (pc' := 4) rfl ?_
  intro T1 S1
  refine Go.aloadN S1 d_prog_22_method_7_code_4 rfl rfl (pc' := 5) rfl ?_
  refine Go.getfield S1 (host := "") (Or.inl (wd12 hw)) Via.refl Fl d_prog_22_method_7_code_5 (pc' := 8) rfl ?_
  intro T2 S2
  refine Go.icmp_ne S2 d_prog_22_method_7_code_8 (pt := 59) (by decide) (pc' := 11) rfl ?_ ?_
  · intro c8
    refine Go.aloadN S2 d_prog_22_method_7_code_59 rfl rfl (pc' := 60) rfl ?_
    refine Go.iloadN S2 d_prog_22_method_7_code_60 rfl (pc' := 61) rfl ?_
    refine Go.invokeprivate S2 (y := ⟨"com/example/opas/opas/Ranking", "isExcluded", "(I)Z"⟩) (rm_exc hw r dn xa kX S2.ext Fx VX) (wd44 hw) (wd45 hw) (wd46 hw) (wd1 hw) (wd2 hw) (wd47 hw) (by decide) E d_prog_22_method_7_code_61 rfl pd3 (argsL := [(.int dn)]) rfl rfl rfl (by decide) (W := 0) rfl (by decide) (by decide) (by decide) all0 (pc' := 64) rfl ?_
    intro v3 T3 h3 L3 S3 K3 q3
    obtain ⟨rfl, rfl⟩ := q3
    show Go _ _ _ _ T3 (mkF m 64 #[.val (.ref r), .val (.int dn), .val (.double (FP.l2d sx)), .second, .unset] [(.int (0 : Int32))])
    refine Go.if_ne S3 d_prog_22_method_7_code_64 (pt := 163) (by decide) (pc' := 67) rfl ?_ ?_
    · intro c64; exact absurd (by decide) c64
    · intro c64
      refine Go.aloadN S3 d_prog_22_method_7_code_67 rfl rfl (pc' := 68) rfl ?_
      refine Go.getfield S3 (host := "") (Or.inl (wd37 hw)) Via.refl Fn d_prog_22_method_7_code_68 (pc' := 71) rfl ?_
      intro T4 S4
      refine Go.aloadN S4 d_prog_22_method_7_code_71 rfl rfl (pc' := 72) rfl ?_
      refine Go.getfield S4 (host := "") (Or.inl (wd18 hw)) Via.refl Fi d_prog_22_method_7_code_72 (pc' := 75) rfl ?_
      intro T5 S5
      refine Go.arraylength S5 VI d_prog_22_method_7_code_75 (pc' := 76) rfl ?_
      refine Go.icmp_ne S5 d_prog_22_method_7_code_76 (pt := 125) (by decide) (pc' := 79) rfl ?_ ?_
      · intro c76
        refine Go.aloadN S5 d_prog_22_method_7_code_125 rfl rfl (pc' := 126) rfl ?_
        refine Go.getfield S5 (host := "") (Or.inl (wd18 hw)) Via.refl Fi d_prog_22_method_7_code_126 (pc' := 129) rfl ?_
        intro T6 S6
        refine Go.aloadN S6 d_prog_22_method_7_code_129 rfl rfl (pc' := 130) rfl ?_
        refine Go.getfield S6 (host := "") (Or.inl (wd37 hw)) Via.refl Fn d_prog_22_method_7_code_130 (pc' := 133) rfl ?_
        intro T7 S7
        refine Go.iloadN S7 d_prog_22_method_7_code_133 rfl (pc' := 134) rfl ?_
        refine Go.iastore S7 VI (by decide) (i := 1) (by decide) (Nat.le_of_ble_eq_true rfl) hzi (Or.inl (List.mem_cons_of_mem _ (List.mem_cons_self ..))) d_prog_22_method_7_code_134 (pc' := 135) rfl ?_
        intro T8 h8 L8 S8 W8 V8
        replace V8 : Arv Z h8 ia kI .int (3 : Int32) [(.int d0), (.int dn), (.int d2)] (.int 0) := V8
        replace E := E.wr W8
        replace Fx := Fx.other W8 (Or.inl (nri))
        replace Fl := Fl.other W8 (Or.inl (nri))
        replace Fn := Fn.other W8 (Or.inl (nri))
        replace VX := VX.other W8 (nxi)
        replace Fi := Fi.other W8 (Or.inl (nri))
        replace Fs := Fs.other W8 (Or.inl (nri))
        replace VS := VS.other W8 ((Ne.symm nis))
        refine Go.aloadN S8 d_prog_22_method_7_code_135 rfl rfl (pc' := 136) rfl ?_
        refine Go.getfield S8 (host := "") (Or.inl (wd21 hw)) Via.refl Fs d_prog_22_method_7_code_136 (pc' := 139) rfl ?_
        intro T9 S9
        refine Go.aloadN S9 d_prog_22_method_7_code_139 rfl rfl (pc' := 140) rfl ?_
        refine Go.getfield S9 (host := "") (Or.inl (wd37 hw)) Via.refl Fn d_prog_22_method_7_code_140 (pc' := 143) rfl ?_
        intro T10 S10
        refine Go.dloadN S10 d_prog_22_method_7_code_143 rfl (pc' := 144) rfl ?_
        refine Go.dastore S10 VS (by decide) (i := 1) (by decide) (Nat.le_of_ble_eq_true rfl) hzs (Or.inl (List.mem_cons_of_mem _ (List.mem_cons_of_mem _ (List.mem_singleton.mpr rfl)))) d_prog_22_method_7_code_144 (pc' := 145) rfl ?_
        intro T11 h11 L11 S11 W11 V11
        replace V11 : Arv Z h11 sa kS .double (3 : Int32) [(.double (FP.l2d a0)), (.double (FP.l2d sx)), (.double (FP.l2d a2))] (.double (FP.l2d 0)) := V11
        replace E := E.wr W11
        replace Fx := Fx.other W11 (Or.inl (nrs))
        replace Fl := Fl.other W11 (Or.inl (nrs))
        replace Fn := Fn.other W11 (Or.inl (nrs))
        replace VX := VX.other W11 (nxs)
        replace Fi := Fi.other W11 (Or.inl (nrs))
        replace Fs := Fs.other W11 (Or.inl (nrs))
        replace V8 := V8.other W11 (nis)
        refine Go.aloadN S11 d_prog_22_method_7_code_145 rfl rfl (pc' := 146) rfl ?_
        refine Go.aloadN S11 d_prog_22_method_7_code_146 rfl rfl (pc' := 147) rfl ?_
        refine Go.getfield S11 (host := "") (Or.inl (wd37 hw)) Via.refl Fn d_prog_22_method_7_code_147 (pc' := 150) rfl ?_
        intro T12 S12
        refine Go.invokeprivate S12 (y := ⟨"com/example/opas/opas/Ranking", "siftUp", "(I)V"⟩) (rm_up31 hw r ia sa kI kS d0 dn d2 a0 sx a2 S12.ext E Fi Fs V8 V11 hzi hzs nri nrs nis b0 bs) (wd48 hw) (wd49 hw) (wd50 hw) (wd1 hw) (wd2 hw) (wd51 hw) (by decide) E d_prog_22_method_7_code_150 rfl pd4 (argsL := [(.int (1 : Int32))]) rfl rfl rfl (by decide) (W := 0) rfl (by decide) (by decide) (by decide) (allS (Or.inl (List.mem_cons_of_mem _ (List.mem_cons_self ..))) (allS (Or.inl (List.mem_cons_of_mem _ (List.mem_cons_of_mem _ (List.mem_singleton.mpr rfl)))) all0)) (pc' := 153) rfl ?_
        intro v13 T13 h13 L13 S13 K13 q13
        obtain ⟨rfl, e0, e1, e2, f0, f1, f2, VI13, VS13, hP⟩ := q13
        replace E := E.keep K13
        replace Fx := Fx.keep K13 (ninS nri (ninS nrs nin0))
        replace Fl := Fl.keep K13 (ninS nri (ninS nrs nin0))
        replace Fn := Fn.keep K13 (ninS nri (ninS nrs nin0))
        replace VX := VX.keep K13 (ninS nxi (ninS nxs nin0))
        replace Fi := Fi.keep K13 (ninS nri (ninS nrs nin0))
        replace Fs := Fs.keep K13 (ninS nri (ninS nrs nin0))
        show Go _ _ _ _ T13 (mkF m 153 #[.val (.ref r), .val (.int dn), .val (.double (FP.l2d sx)), .second, .unset] [])
        refine Go.aloadN S13 d_prog_22_method_7_code_153 rfl rfl (pc' := 154) rfl ?_
        refine Go.dup S13 d_prog_22_method_7_code_154 rfl (pc' := 155) rfl ?_
        refine Go.getfield S13 (host := "") (Or.inl (wd37 hw)) Via.refl Fn d_prog_22_method_7_code_155 (pc' := 158) rfl ?_
        intro T14 S14
        refine Go.iconst S14 (v := 1) d_prog_22_method_7_code_158 rfl (pc' := 159) rfl ?_
        refine Go.iadd S14 d_prog_22_method_7_code_159 (pc' := 160) rfl ?_
        show Go _ _ _ _ T14 (mkF m 160 #[.val (.ref r), .val (.int dn), .val (.double (FP.l2d sx)), .second, .unset] [(.int (2 : Int32)), (.ref r)])
        refine Go.putfield S14 (host := "") (Or.inl (wd37 hw)) Via.refl Fn E (Or.inl (wd38 hw)) (wd1 hw) (ty := .int) (by decide) rfl rfl hzr (Or.inl (List.mem_cons_self ..)) d_prog_22_method_7_code_160 (pc' := 163) rfl ?_
        intro T15 h15 L15 S15 W15
        have F15 := Fn.same W15
        replace Fx := Fx.other W15 (Or.inr (slot_ne (Or.inl (wd11 hw)) (Or.inl (wd38 hw)) (by decide) (t := (.array .int)) (t' := .int) (by decide) (by decide)))
        replace Fl := Fl.other W15 (Or.inr (slot_ne (Or.inr (wd13 hw)) (Or.inl (wd38 hw)) (by decide) (t := .int) (t' := .int) (by decide) (by decide)))
        replace Fi := Fi.other W15 (Or.inr (slot_ne (Or.inl (wd19 hw)) (Or.inl (wd38 hw)) (by decide) (t := (.array .int)) (t' := .int) (by decide) (by decide)))
        replace Fs := Fs.other W15 (Or.inr (slot_ne (Or.inl (wd22 hw)) (Or.inl (wd38 hw)) (by decide) (t := (.array .double)) (t' := .int) (by decide) (by decide)))
        replace E := E.wr W15
        replace VX := VX.other W15 (nxr)
        replace VI13 := VI13.other W15 ((Ne.symm nri))
        replace VS13 := VS13.other W15 ((Ne.symm nrs))
        exact Go.vreturn S15 rfl d_prog_22_method_7_code_163 (by decide) (by decide) (⟨rfl, Fx, Fl, Fi, Fs, F15, e0, e1, e2, f0, f1, f2, VI13, VS13, hP⟩)
      · intro c76; exact absurd c76 (by decide)
  · intro c8; exact absurd c8 (by decide)
set_option maxRecDepth 65536 in
set_option maxHeartbeats 4000000 in
theorem rm_off32 {l : Launch} {Z : State} {a0 : Array Value} (hw : HW Z a0) (r : Addr) (dn : Int32) (sx : Int64) (xa : Addr) (kX : ClassId) (ia sa : Addr) (kI kS : ClassId) (d0 d1 d2 : Int32) (a0 a1 a2 : Int64) {h0 : Heap} (hE : Ext Z.heap h0) (E : Exa Z h0 r "com/example/opas/opas/Ranking") (Fx : Fld Z h0 r "com/example/opas/opas/Ranking" "excluded" "[I" (.ref xa)) (Fl : Fld Z h0 r "com/example/opas/opas/Ranking" "limit" "I" (.int (3 : Int32))) (Fn : Fld Z h0 r "com/example/opas/opas/Ranking" "size" "I" (.int (2 : Int32))) (VX : Arv Z h0 xa kX .int 0 [] (.int 0)) (Fi : Fld Z h0 r "com/example/opas/opas/Ranking" "ids" "[I" (.ref ia)) (Fs : Fld Z h0 r "com/example/opas/opas/Ranking" "scores" "[D" (.ref sa)) (VI : Arv Z h0 ia kI .int (3 : Int32) [(.int d0), (.int d1), (.int d2)] (.int 0)) (VS : Arv Z h0 sa kS .double (3 : Int32) [(.double (FP.l2d a0)), (.double (FP.l2d a1)), (.double (FP.l2d a2))] (.double (FP.l2d 0))) (hzi : Z.heap.size ≤ ia) (hzs : Z.heap.size ≤ sa) (nri : r ≠ ia) (nrs : r ≠ sa) (nis : ia ≠ sa) (hzr : Z.heap.size ≤ r) (nxr : xa ≠ r) (nxi : xa ≠ ia) (nxs : xa ≠ sa) (bs : (-2147483648 ≤ sx.toInt ∧ sx.toInt ≤ 2147483647)) (b0 : (-2147483648 ≤ a0.toInt ∧ a0.toInt ≤ 2147483647)) (b1 : (-2147483648 ≤ a1.toInt ∧ a1.toInt ≤ 2147483647)) :
    OMeets l Z (⟨"com/example/opas/opas/Ranking", "offer", "(ID)V"⟩ : MethodName) prog_22_method_7_code 5 none ({ frames := 2, cells := 0, slots := 0, locals := 32 } : Room) #[(.ref r), (.int dn), (.double (FP.l2d sx))] h0 [r, ia, sa] (fun v h => v = none ∧ Fld Z h r "com/example/opas/opas/Ranking" "excluded" "[I" (.ref xa) ∧ Fld Z h r "com/example/opas/opas/Ranking" "limit" "I" (.int (3 : Int32)) ∧ Fld Z h r "com/example/opas/opas/Ranking" "ids" "[I" (.ref ia) ∧ Fld Z h r "com/example/opas/opas/Ranking" "scores" "[D" (.ref sa) ∧ Fld Z h r "com/example/opas/opas/Ranking" "size" "I" (.int (3 : Int32)) ∧ ∃ e0 e1 e2 f0 f1 f2, Arv Z h ia kI .int (3 : Int32) [(.int e0), (.int e1), (.int e2)] (.int 0) ∧ Arv Z h sa kS .double (3 : Int32) [(.double (FP.l2d f0)), (.double (FP.l2d f1)), (.double (FP.l2d f2))] (.double (FP.l2d 0)) ∧ ((f0.toInt = a0.toInt ∧ f1.toInt = a1.toInt ∧ f2.toInt = sx.toInt ∧ a0.toInt ≤ sx.toInt) ∨ (f0.toInt = sx.toInt ∧ f1.toInt = a1.toInt ∧ f2.toInt = a0.toInt ∧ sx.toInt ≤ a0.toInt))) := by
  refine OMeets.body (plainFor_of_name pn1) hE #[.val (.ref r), .val (.int dn), .val (.double (FP.l2d sx)), .second, .unset] (fun m => by first | rfl | (simp [entryFrame, mkF, argsToLocals, Value.category, maxLocals]; done)) ?_
  intro p e s m below meth co T S
  refine Go.aloadN S d_prog_22_method_7_code_0 rfl rfl (pc' := 1) rfl ?_
  refine Go.getfield S (host := "") (Or.inl (wd37 hw)) Via.refl Fn d_prog_22_method_7_code_1 (pc' := 4) rfl ?_
  intro T1 S1
  refine Go.aloadN S1 d_prog_22_method_7_code_4 rfl rfl (pc' := 5) rfl ?_
  refine Go.getfield S1 (host := "") (Or.inl (wd12 hw)) Via.refl Fl d_prog_22_method_7_code_5 (pc' := 8) rfl ?_
  intro T2 S2
  refine Go.icmp_ne S2 d_prog_22_method_7_code_8 (pt := 59) (by decide) (pc' := 11) rfl ?_ ?_
  · intro c8
    refine Go.aloadN S2 d_prog_22_method_7_code_59 rfl rfl (pc' := 60) rfl ?_
    refine Go.iloadN S2 d_prog_22_method_7_code_60 rfl (pc' := 61) rfl ?_
    refine Go.invokeprivate S2 (y := ⟨"com/example/opas/opas/Ranking", "isExcluded", "(I)Z"⟩) (rm_exc hw r dn xa kX S2.ext Fx VX) (wd44 hw) (wd45 hw) (wd46 hw) (wd1 hw) (wd2 hw) (wd47 hw) (by decide) E d_prog_22_method_7_code_61 rfl pd3 (argsL := [(.int dn)]) rfl rfl rfl (by decide) (W := 0) rfl (by decide) (by decide) (by decide) all0 (pc' := 64) rfl ?_
    intro v3 T3 h3 L3 S3 K3 q3
    obtain ⟨rfl, rfl⟩ := q3
    show Go _ _ _ _ T3 (mkF m 64 #[.val (.ref r), .val (.int dn), .val (.double (FP.l2d sx)), .second, .unset] [(.int (0 : Int32))])
    refine Go.if_ne S3 d_prog_22_method_7_code_64 (pt := 163) (by decide) (pc' := 67) rfl ?_ ?_
    · intro c64; exact absurd (by decide) c64
    · intro c64
      refine Go.aloadN S3 d_prog_22_method_7_code_67 rfl rfl (pc' := 68) rfl ?_
      refine Go.getfield S3 (host := "") (Or.inl (wd37 hw)) Via.refl Fn d_prog_22_method_7_code_68 (pc' := 71) rfl ?_
      intro T4 S4
      refine Go.aloadN S4 d_prog_22_method_7_code_71 rfl rfl (pc' := 72) rfl ?_
      refine Go.getfield S4 (host := "") (Or.inl (wd18 hw)) Via.refl Fi d_prog_22_method_7_code_72 (pc' := 75) rfl ?_
      intro T5 S5
      refine Go.arraylength S5 VI d_prog_22_method_7_code_75 (pc' := 76) rfl ?_
      refine Go.icmp_ne S5 d_prog_22_method_7_code_76 (pt := 125) (by decide) (pc' := 79) rfl ?_ ?_
      · intro c76
        refine Go.aloadN S5 d_prog_22_method_7_code_125 rfl rfl (pc' := 126) rfl ?_
        refine Go.getfield S5 (host := "") (Or.inl (wd18 hw)) Via.refl Fi d_prog_22_method_7_code_126 (pc' := 129) rfl ?_
        intro T6 S6
        refine Go.aloadN S6 d_prog_22_method_7_code_129 rfl rfl (pc' := 130) rfl ?_
        refine Go.getfield S6 (host := "") (Or.inl (wd37 hw)) Via.refl Fn d_prog_22_method_7_code_130 (pc' := 133) rfl ?_
        intro T7 S7
        refine Go.iloadN S7 d_prog_22_method_7_code_133 rfl (pc' := 134) rfl ?_
        refine Go.iastore S7 VI (by decide) (i := 2) (by decide) (Nat.le_of_ble_eq_true rfl) hzi (Or.inl (List.mem_cons_of_mem _ (List.mem_cons_self ..))) d_prog_22_method_7_code_134 (pc' := 135) rfl ?_
        intro T8 h8 L8 S8 W8 V8
        replace V8 : Arv Z h8 ia kI .int (3 : Int32) [(.int d0), (.int d1), (.int dn)] (.int 0) := V8
        replace E := E.wr W8
        replace Fx := Fx.other W8 (Or.inl (nri))
        replace Fl := Fl.other W8 (Or.inl (nri))
        replace Fn := Fn.other W8 (Or.inl (nri))
        replace VX := VX.other W8 (nxi)
        replace Fi := Fi.other W8 (Or.inl (nri))
        replace Fs := Fs.other W8 (Or.inl (nri))
        replace VS := VS.other W8 ((Ne.symm nis))
        refine Go.aloadN S8 d_prog_22_method_7_code_135 rfl rfl (pc' := 136) rfl ?_
        refine Go.getfield S8 (host := "") (Or.inl (wd21 hw)) Via.refl Fs d_prog_22_method_7_code_136 (pc' := 139) rfl ?_
        intro T9 S9
        refine Go.aloadN S9 d_prog_22_method_7_code_139 rfl rfl (pc' := 140) rfl ?_
        refine Go.getfield S9 (host := "") (Or.inl (wd37 hw)) Via.refl Fn d_prog_22_method_7_code_140 (pc' := 143) rfl ?_
        intro T10 S10
        refine Go.dloadN S10 d_prog_22_method_7_code_143 rfl (pc' := 144) rfl ?_
        refine Go.dastore S10 VS (by decide) (i := 2) (by decide) (Nat.le_of_ble_eq_true rfl) hzs (Or.inl (List.mem_cons_of_mem _ (List.mem_cons_of_mem _ (List.mem_singleton.mpr rfl)))) d_prog_22_method_7_code_144 (pc' := 145) rfl ?_
        intro T11 h11 L11 S11 W11 V11
        replace V11 : Arv Z h11 sa kS .double (3 : Int32) [(.double (FP.l2d a0)), (.double (FP.l2d a1)), (.double (FP.l2d sx))] (.double (FP.l2d 0)) := V11
        replace E := E.wr W11
        replace Fx := Fx.other W11 (Or.inl (nrs))
        replace Fl := Fl.other W11 (Or.inl (nrs))
        replace Fn := Fn.other W11 (Or.inl (nrs))
        replace VX := VX.other W11 (nxs)
        replace Fi := Fi.other W11 (Or.inl (nrs))
        replace Fs := Fs.other W11 (Or.inl (nrs))
        replace V8 := V8.other W11 (nis)
        refine Go.aloadN S11 d_prog_22_method_7_code_145 rfl rfl (pc' := 146) rfl ?_
        refine Go.aloadN S11 d_prog_22_method_7_code_146 rfl rfl (pc' := 147) rfl ?_
        refine Go.getfield S11 (host := "") (Or.inl (wd37 hw)) Via.refl Fn d_prog_22_method_7_code_147 (pc' := 150) rfl ?_
        intro T12 S12
        refine Go.invokeprivate S12 (y := ⟨"com/example/opas/opas/Ranking", "siftUp", "(I)V"⟩) (rm_up32 hw r ia sa kI kS d0 d1 dn a0 a1 sx S12.ext E Fi Fs V8 V11 hzi hzs nri nrs nis b0 bs) (wd48 hw) (wd49 hw) (wd50 hw) (wd1 hw) (wd2 hw) (wd51 hw) (by decide) E d_prog_22_method_7_code_150 rfl pd4 (argsL := [(.int (2 : Int32))]) rfl rfl rfl (by decide) (W := 0) rfl (by decide) (by decide) (by decide) (allS (Or.inl (List.mem_cons_of_mem _ (List.mem_cons_self ..))) (allS (Or.inl (List.mem_cons_of_mem _ (List.mem_cons_of_mem _ (List.mem_singleton.mpr rfl)))) all0)) (pc' := 153) rfl ?_
        intro v13 T13 h13 L13 S13 K13 q13
        obtain ⟨rfl, e0, e1, e2, f0, f1, f2, VI13, VS13, hP⟩ := q13
        replace E := E.keep K13
        replace Fx := Fx.keep K13 (ninS nri (ninS nrs nin0))
        replace Fl := Fl.keep K13 (ninS nri (ninS nrs nin0))
        replace Fn := Fn.keep K13 (ninS nri (ninS nrs nin0))
        replace VX := VX.keep K13 (ninS nxi (ninS nxs nin0))
        replace Fi := Fi.keep K13 (ninS nri (ninS nrs nin0))
        replace Fs := Fs.keep K13 (ninS nri (ninS nrs nin0))
        show Go _ _ _ _ T13 (mkF m 153 #[.val (.ref r), .val (.int dn), .val (.double (FP.l2d sx)), .second, .unset] [])
        refine Go.aloadN S13 d_prog_22_method_7_code_153 rfl rfl (pc' := 154) rfl ?_
        refine Go.dup S13 d_prog_22_method_7_code_154 rfl (pc' := 155) rfl ?_
        refine Go.getfield S13 (host := "") (Or.inl (wd37 hw)) Via.refl Fn d_prog_22_method_7_code_155 (pc' := 158) rfl ?_
        intro T14 S14
        refine Go.iconst S14 (v := 1) d_prog_22_method_7_code_158 rfl (pc' := 159) rfl ?_
        refine Go.iadd S14 d_prog_22_method_7_code_159 (pc' := 160) rfl ?_
        show Go _ _ _ _ T14 (mkF m 160 #[.val (.ref r), .val (.int dn), .val (.double (FP.l2d sx)), .second, .unset] [(.int (3 : Int32)), (.ref r)])
        refine Go.putfield S14 (host := "") (Or.inl (wd37 hw)) Via.refl Fn E (Or.inl (wd38 hw)) (wd1 hw) (ty := .int) (by decide) rfl rfl hzr (Or.inl (List.mem_cons_self ..)) d_prog_22_method_7_code_160 (pc' := 163) rfl ?_
        intro T15 h15 L15 S15 W15
        have F15 := Fn.same W15
        replace Fx := Fx.other W15 (Or.inr (slot_ne (Or.inl (wd11 hw)) (Or.inl (wd38 hw)) (by decide) (t := (.array .int)) (t' := .int) (by decide) (by decide)))
        replace Fl := Fl.other W15 (Or.inr (slot_ne (Or.inr (wd13 hw)) (Or.inl (wd38 hw)) (by decide) (t := .int) (t' := .int) (by decide) (by decide)))
        replace Fi := Fi.other W15 (Or.inr (slot_ne (Or.inl (wd19 hw)) (Or.inl (wd38 hw)) (by decide) (t := (.array .int)) (t' := .int) (by decide) (by decide)))
        replace Fs := Fs.other W15 (Or.inr (slot_ne (Or.inl (wd22 hw)) (Or.inl (wd38 hw)) (by decide) (t := (.array .double)) (t' := .int) (by decide) (by decide)))
        replace E := E.wr W15
        replace VX := VX.other W15 (nxr)
        replace VI13 := VI13.other W15 ((Ne.symm nri))
        replace VS13 := VS13.other W15 ((Ne.symm nrs))
        exact Go.vreturn S15 rfl d_prog_22_method_7_code_163 (by decide) (by decide) (⟨rfl, Fx, Fl, Fi, Fs, F15, e0, e1, e2, f0, f1, f2, VI13, VS13, hP⟩)
      · intro c76; exact absurd c76 (by decide)
  · intro c8; exact absurd c8 (by decide)
set_option maxRecDepth 65536 in
set_option maxHeartbeats 4000000 in
theorem rm_init0 {l : Launch} {Z : State} {a0 : Array Value} (hw : HW Z a0) (r : Addr)  {h0 : Heap} (hE : Ext Z.heap h0) (hzr : Z.heap.size ≤ r) (E : Exa Z h0 r "com/example/opas/opas/Ranking") (Fx : Fld Z h0 r "com/example/opas/opas/Ranking" "excluded" "[I" .null) (Fl : Fld Z h0 r "com/example/opas/opas/Ranking" "limit" "I" (.int 0)) (Fi : Fld Z h0 r "com/example/opas/opas/Ranking" "ids" "[I" .null) (Fs : Fld Z h0 r "com/example/opas/opas/Ranking" "scores" "[D" .null) (Fn : Fld Z h0 r "com/example/opas/opas/Ranking" "size" "I" (.int 0)) :
    OMeets l Z (⟨"com/example/opas/opas/Ranking", "<init>", "(I)V"⟩ : MethodName) prog_22_method_1_code 2 none ({ frames := 1, cells := 3, slots := 6, locals := 14 } : Room) #[(.ref r), (.int (0 : Int32))] h0 [r] (fun v h => v = none ∧ ∃ xa ia sa kX kI kS, Fld Z h r "com/example/opas/opas/Ranking" "excluded" "[I" (.ref xa) ∧ Fld Z h r "com/example/opas/opas/Ranking" "limit" "I" (.int (0 : Int32)) ∧ Fld Z h r "com/example/opas/opas/Ranking" "ids" "[I" (.ref ia) ∧ Fld Z h r "com/example/opas/opas/Ranking" "scores" "[D" (.ref sa) ∧ Fld Z h r "com/example/opas/opas/Ranking" "size" "I" (.int (0 : Int32)) ∧ Arv Z h xa kX .int 0 [] (.int 0) ∧ Arv Z h ia kI .int (0 : Int32) [] (.int 0) ∧ Arv Z h sa kS .double (0 : Int32) [] (.double (FP.l2d 0)) ∧ h0.size ≤ ia ∧ h0.size ≤ sa ∧ r ≠ ia ∧ r ≠ sa ∧ ia ≠ sa ∧ xa ≠ r ∧ xa ≠ ia ∧ xa ≠ sa) := by
  refine OMeets.body (plainFor_of_name pn1) hE #[.val (.ref r), .val (.int (0 : Int32))] (fun m => by first | rfl | (simp [entryFrame, mkF, argsToLocals, Value.category, maxLocals]; done)) ?_
  intro p e s m below meth co T S
  refine Go.aloadN S d_prog_22_method_1_code_0 rfl rfl (pc' := 1) rfl ?_
  refine Go.initObject S (wd6 hw) (wd7 hw) (wd8 hw) d_prog_22_method_1_code_1 rfl (by decide) (W := 0) rfl (by decide) (pc' := 4) rfl ?_
  intro T1 S1
  refine Go.aloadN S1 d_prog_22_method_1_code_4 rfl rfl (pc' := 5) rfl ?_
  refine Go.iconst S1 (v := 0) d_prog_22_method_1_code_5 rfl (pc' := 6) rfl ?_
  refine Go.newarray S1 (ty := .int) (dv := (.int (0 : Int32))) rfl rfl (wd9 hw) d_prog_22_method_1_code_6 (by decide) (cap := 0) (by decide) (by decide) (by decide) (by decide) (pc' := 8) rfl ?_
  intro T2 h2 a2 kA2 S2 E2 hg2 hz2 hk2 V2
  replace V2 : Arv Z h2 a2 kA2 .int (0 : Int32) [] (.int (0 : Int32)) := V2
  have n_r_a2 : r ≠ a2 := Nat.ne_of_lt (Nat.lt_of_lt_of_le E.lt (Nat.le_of_eq hg2))
  replace E := E.ext E2
  replace Fx := Fx.ext E2
  replace Fl := Fl.ext E2
  replace Fi := Fi.ext E2
  replace Fs := Fs.ext E2
  replace Fn := Fn.ext E2
  refine Go.putfield S2 (host := "") (Or.inl (wd10 hw)) Via.refl Fx E (Or.inl (wd11 hw)) (wd1 hw) (ty := (.array .int)) (by decide) rfl rfl hzr (Or.inl (List.mem_singleton.mpr rfl)) d_prog_22_method_1_code_8 (pc' := 11) rfl ?_
  intro T3 h3 L3 S3 W3
  have F3 := Fx.same W3
  replace Fl := Fl.other W3 (Or.inr (slot_ne (Or.inr (wd13 hw)) (Or.inl (wd11 hw)) (by decide) (t := .int) (t' := (.array .int)) (by decide) (by decide)))
  replace Fi := Fi.other W3 (Or.inr (slot_ne (Or.inl (wd19 hw)) (Or.inl (wd11 hw)) (by decide) (t := (.array .int)) (t' := (.array .int)) (by decide) (by decide)))
  replace Fs := Fs.other W3 (Or.inr (slot_ne (Or.inl (wd22 hw)) (Or.inl (wd11 hw)) (by decide) (t := (.array .double)) (t' := (.array .int)) (by decide) (by decide)))
  replace Fn := Fn.other W3 (Or.inr (slot_ne (Or.inl (wd38 hw)) (Or.inl (wd11 hw)) (by decide) (t := .int) (t' := (.array .int)) (by decide) (by decide)))
  replace E := E.wr W3
  replace V2 := V2.other W3 ((Ne.symm n_r_a2))
  refine Go.aloadN S3 d_prog_22_method_1_code_11 rfl rfl (pc' := 12) rfl ?_
  refine Go.iloadN S3 d_prog_22_method_1_code_12 rfl (pc' := 13) rfl ?_
  refine Go.putfield S3 (host := "") (Or.inl (wd12 hw)) Via.refl Fl E (Or.inr ⟨(wd13 hw), rfl, rfl⟩) (wd1 hw) (ty := .int) (by decide) rfl rfl hzr (Or.inl (List.mem_singleton.mpr rfl)) d_prog_22_method_1_code_13 (pc' := 16) rfl ?_
  intro T4 h4 L4 S4 W4
  have F4 := Fl.same W4
  replace Fi := Fi.other W4 (Or.inr (slot_ne (Or.inl (wd19 hw)) (Or.inr (wd13 hw)) (by decide) (t := (.array .int)) (t' := .int) (by decide) (by decide)))
  replace Fs := Fs.other W4 (Or.inr (slot_ne (Or.inl (wd22 hw)) (Or.inr (wd13 hw)) (by decide) (t := (.array .double)) (t' := .int) (by decide) (by decide)))
  replace Fn := Fn.other W4 (Or.inr (slot_ne (Or.inl (wd38 hw)) (Or.inr (wd13 hw)) (by decide) (t := .int) (t' := .int) (by decide) (by decide)))
  replace F3 := F3.other W4 (Or.inr (slot_ne (Or.inl (wd11 hw)) (Or.inr (wd13 hw)) (by decide) (t := (.array .int)) (t' := .int) (by decide) (by decide)))
  replace E := E.wr W4
  replace V2 := V2.other W4 ((Ne.symm n_r_a2))
  refine Go.aloadN S4 d_prog_22_method_1_code_16 rfl rfl (pc' := 17) rfl ?_
  refine Go.iloadN S4 d_prog_22_method_1_code_17 rfl (pc' := 18) rfl ?_
  refine Go.bipush S4 (v := 16) d_prog_22_method_1_code_18 rfl (pc' := 20) rfl ?_
  refine Go.invokestatic S4 (y := ⟨"java/lang/Math", "min", "(II)I"⟩) (rm_min hw (0 : Int32) (16 : Int32) S4.ext) (wd14 hw) (wd15 hw) (wd16 hw) (wd17 hw) (by decide) d_prog_22_method_1_code_20 rfl pd0 (argsL := [(.int (0 : Int32)), (.int (16 : Int32))]) rfl rfl rfl (by decide) (W := 1) rfl (by decide) (by decide) (by decide) all0 (pc' := 23) rfl ?_
  intro v5 T5 h5 L5 S5 K5 q5
  obtain ⟨rfl, rfl⟩ := q5
  show Go _ _ _ _ T5 (mkF m 23 #[.val (.ref r), .val (.int (0 : Int32))] [(.int (own_min (0 : Int32) (16 : Int32))), (.ref r)])
  rw [show (own_min (0 : Int32) (16 : Int32)) = 0 from by decide]
  show Go _ _ _ _ T5 (mkF m 23 #[.val (.ref r), .val (.int (0 : Int32))] [(.int (0 : Int32)), (.ref r)])
  refine Go.newarray S5 (ty := .int) (dv := (.int (0 : Int32))) rfl rfl (wd9 hw) d_prog_22_method_1_code_23 (by decide) (cap := 0) (by decide) (by decide) (by decide) (by decide) (pc' := 25) rfl ?_
  intro T6 h6 a6 kA6 S6 E6 hg6 hz6 hk6 V6
  replace V6 : Arv Z h6 a6 kA6 .int (0 : Int32) [] (.int (0 : Int32)) := V6
  have n_r_a6 : r ≠ a6 := Nat.ne_of_lt (Nat.lt_of_lt_of_le E.lt (Nat.le_of_eq hg6))
  have n_a2_a6 : a2 ≠ a6 := Nat.ne_of_lt (Nat.lt_of_lt_of_le V2.lt (Nat.le_of_eq hg6))
  replace E := E.ext E6
  replace V2 := V2.ext E6
  replace Fi := Fi.ext E6
  replace Fs := Fs.ext E6
  replace Fn := Fn.ext E6
  replace F3 := F3.ext E6
  replace F4 := F4.ext E6
  refine Go.putfield S6 (host := "") (Or.inl (wd18 hw)) Via.refl Fi E (Or.inl (wd19 hw)) (wd1 hw) (ty := (.array .int)) (by decide) rfl rfl hzr (Or.inl (List.mem_singleton.mpr rfl)) d_prog_22_method_1_code_25 (pc' := 28) rfl ?_
  intro T7 h7 L7 S7 W7
  have F7 := Fi.same W7
  replace Fs := Fs.other W7 (Or.inr (slot_ne (Or.inl (wd22 hw)) (Or.inl (wd19 hw)) (by decide) (t := (.array .double)) (t' := (.array .int)) (by decide) (by decide)))
  replace Fn := Fn.other W7 (Or.inr (slot_ne (Or.inl (wd38 hw)) (Or.inl (wd19 hw)) (by decide) (t := .int) (t' := (.array .int)) (by decide) (by decide)))
  replace F3 := F3.other W7 (Or.inr (slot_ne (Or.inl (wd11 hw)) (Or.inl (wd19 hw)) (by decide) (t := (.array .int)) (t' := (.array .int)) (by decide) (by decide)))
  replace F4 := F4.other W7 (Or.inr (slot_ne (Or.inr (wd13 hw)) (Or.inl (wd19 hw)) (by decide) (t := .int) (t' := (.array .int)) (by decide) (by decide)))
  replace E := E.wr W7
  replace V2 := V2.other W7 ((Ne.symm n_r_a2))
  replace V6 := V6.other W7 ((Ne.symm n_r_a6))
  refine Go.aloadN S7 d_prog_22_method_1_code_28 rfl rfl (pc' := 29) rfl ?_
  refine Go.aloadN S7 d_prog_22_method_1_code_29 rfl rfl (pc' := 30) rfl ?_
  refine Go.getfield S7 (host := "") (Or.inl (wd18 hw)) Via.refl F7 d_prog_22_method_1_code_30 (pc' := 33) rfl ?_
  intro T8 S8
  refine Go.arraylength S8 V6 d_prog_22_method_1_code_33 (pc' := 34) rfl ?_
  refine Go.newarray S8 (ty := .double) (dv := (.double (0 : UInt64))) rfl rfl (wd20 hw) d_prog_22_method_1_code_34 (by decide) (cap := 0) (by decide) (by decide) (by decide) (by decide) (pc' := 36) rfl ?_
  intro T9 h9 a9 kA9 S9 E9 hg9 hz9 hk9 V9
  replace V9 : Arv Z h9 a9 kA9 .double (0 : Int32) [] (.double (0 : UInt64)) := V9
  replace V9 : Arv Z h9 a9 kA9 .double (0 : Int32) [] (.double (FP.l2d 0)) := by rw [l2d_zero]; exact V9
  have n_r_a9 : r ≠ a9 := Nat.ne_of_lt (Nat.lt_of_lt_of_le E.lt (Nat.le_of_eq hg9))
  have n_a2_a9 : a2 ≠ a9 := Nat.ne_of_lt (Nat.lt_of_lt_of_le V2.lt (Nat.le_of_eq hg9))
  have n_a6_a9 : a6 ≠ a9 := Nat.ne_of_lt (Nat.lt_of_lt_of_le V6.lt (Nat.le_of_eq hg9))
  replace E := E.ext E9
  replace V2 := V2.ext E9
  replace V6 := V6.ext E9
  replace Fs := Fs.ext E9
  replace Fn := Fn.ext E9
  replace F3 := F3.ext E9
  replace F4 := F4.ext E9
  replace F7 := F7.ext E9
  refine Go.putfield S9 (host := "") (Or.inl (wd21 hw)) Via.refl Fs E (Or.inl (wd22 hw)) (wd1 hw) (ty := (.array .double)) (by decide) rfl rfl hzr (Or.inl (List.mem_singleton.mpr rfl)) d_prog_22_method_1_code_36 (pc' := 39) rfl ?_
  intro T10 h10 L10 S10 W10
  have F10 := Fs.same W10
  replace Fn := Fn.other W10 (Or.inr (slot_ne (Or.inl (wd38 hw)) (Or.inl (wd22 hw)) (by decide) (t := .int) (t' := (.array .double)) (by decide) (by decide)))
  replace F3 := F3.other W10 (Or.inr (slot_ne (Or.inl (wd11 hw)) (Or.inl (wd22 hw)) (by decide) (t := (.array .int)) (t' := (.array .double)) (by decide) (by decide)))
  replace F4 := F4.other W10 (Or.inr (slot_ne (Or.inr (wd13 hw)) (Or.inl (wd22 hw)) (by decide) (t := .int) (t' := (.array .double)) (by decide) (by decide)))
  replace F7 := F7.other W10 (Or.inr (slot_ne (Or.inl (wd19 hw)) (Or.inl (wd22 hw)) (by decide) (t := (.array .int)) (t' := (.array .double)) (by decide) (by decide)))
  replace E := E.wr W10
  replace V2 := V2.other W10 ((Ne.symm n_r_a2))
  replace V6 := V6.other W10 ((Ne.symm n_r_a6))
  replace V9 := V9.other W10 ((Ne.symm n_r_a9))
  exact Go.vreturn S10 rfl d_prog_22_method_1_code_39 (by decide) (by decide) (⟨rfl, a2, a6, a9, kA2, kA6, kA9, F3, F4, F7, F10, Fn, V2, V6, V9, hk6, hk9, n_r_a6, n_r_a9, n_a6_a9, Ne.symm (n_r_a2), n_a2_a6, n_a2_a9⟩)
set_option maxRecDepth 65536 in
set_option maxHeartbeats 4000000 in
theorem rm_init1 {l : Launch} {Z : State} {a0 : Array Value} (hw : HW Z a0) (r : Addr)  {h0 : Heap} (hE : Ext Z.heap h0) (hzr : Z.heap.size ≤ r) (E : Exa Z h0 r "com/example/opas/opas/Ranking") (Fx : Fld Z h0 r "com/example/opas/opas/Ranking" "excluded" "[I" .null) (Fl : Fld Z h0 r "com/example/opas/opas/Ranking" "limit" "I" (.int 0)) (Fi : Fld Z h0 r "com/example/opas/opas/Ranking" "ids" "[I" .null) (Fs : Fld Z h0 r "com/example/opas/opas/Ranking" "scores" "[D" .null) (Fn : Fld Z h0 r "com/example/opas/opas/Ranking" "size" "I" (.int 0)) :
    OMeets l Z (⟨"com/example/opas/opas/Ranking", "<init>", "(I)V"⟩ : MethodName) prog_22_method_1_code 2 none ({ frames := 1, cells := 3, slots := 6, locals := 14 } : Room) #[(.ref r), (.int (1 : Int32))] h0 [r] (fun v h => v = none ∧ ∃ xa ia sa kX kI kS, Fld Z h r "com/example/opas/opas/Ranking" "excluded" "[I" (.ref xa) ∧ Fld Z h r "com/example/opas/opas/Ranking" "limit" "I" (.int (1 : Int32)) ∧ Fld Z h r "com/example/opas/opas/Ranking" "ids" "[I" (.ref ia) ∧ Fld Z h r "com/example/opas/opas/Ranking" "scores" "[D" (.ref sa) ∧ Fld Z h r "com/example/opas/opas/Ranking" "size" "I" (.int (0 : Int32)) ∧ Arv Z h xa kX .int 0 [] (.int 0) ∧ Arv Z h ia kI .int (1 : Int32) [(.int 0)] (.int 0) ∧ Arv Z h sa kS .double (1 : Int32) [(.double (FP.l2d 0))] (.double (FP.l2d 0)) ∧ h0.size ≤ ia ∧ h0.size ≤ sa ∧ r ≠ ia ∧ r ≠ sa ∧ ia ≠ sa ∧ xa ≠ r ∧ xa ≠ ia ∧ xa ≠ sa) := by
  refine OMeets.body (plainFor_of_name pn1) hE #[.val (.ref r), .val (.int (1 : Int32))] (fun m => by first | rfl | (simp [entryFrame, mkF, argsToLocals, Value.category, maxLocals]; done)) ?_
  intro p e s m below meth co T S
  refine Go.aloadN S d_prog_22_method_1_code_0 rfl rfl (pc' := 1) rfl ?_
  refine Go.initObject S (wd6 hw) (wd7 hw) (wd8 hw) d_prog_22_method_1_code_1 rfl (by decide) (W := 0) rfl (by decide) (pc' := 4) rfl ?_
  intro T1 S1
  refine Go.aloadN S1 d_prog_22_method_1_code_4 rfl rfl (pc' := 5) rfl ?_
  refine Go.iconst S1 (v := 0) d_prog_22_method_1_code_5 rfl (pc' := 6) rfl ?_
  refine Go.newarray S1 (ty := .int) (dv := (.int (0 : Int32))) rfl rfl (wd9 hw) d_prog_22_method_1_code_6 (by decide) (cap := 0) (by decide) (by decide) (by decide) (by decide) (pc' := 8) rfl ?_
  intro T2 h2 a2 kA2 S2 E2 hg2 hz2 hk2 V2
  replace V2 : Arv Z h2 a2 kA2 .int (0 : Int32) [] (.int (0 : Int32)) := V2
  have n_r_a2 : r ≠ a2 := Nat.ne_of_lt (Nat.lt_of_lt_of_le E.lt (Nat.le_of_eq hg2))
  replace E := E.ext E2
  replace Fx := Fx.ext E2
  replace Fl := Fl.ext E2
  replace Fi := Fi.ext E2
  replace Fs := Fs.ext E2
  replace Fn := Fn.ext E2
  refine Go.putfield S2 (host := "") (Or.inl (wd10 hw)) Via.refl Fx E (Or.inl (wd11 hw)) (wd1 hw) (ty := (.array .int)) (by decide) rfl rfl hzr (Or.inl (List.mem_singleton.mpr rfl)) d_prog_22_method_1_code_8 (pc' := 11) rfl ?_
  intro T3 h3 L3 S3 W3
  have F3 := Fx.same W3
  replace Fl := Fl.other W3 (Or.inr (slot_ne (Or.inr (wd13 hw)) (Or.inl (wd11 hw)) (by decide) (t := .int) (t' := (.array .int)) (by decide) (by decide)))
  replace Fi := Fi.other W3 (Or.inr (slot_ne (Or.inl (wd19 hw)) (Or.inl (wd11 hw)) (by decide) (t := (.array .int)) (t' := (.array .int)) (by decide) (by decide)))
  replace Fs := Fs.other W3 (Or.inr (slot_ne (Or.inl (wd22 hw)) (Or.inl (wd11 hw)) (by decide) (t := (.array .double)) (t' := (.array .int)) (by decide) (by decide)))
  replace Fn := Fn.other W3 (Or.inr (slot_ne (Or.inl (wd38 hw)) (Or.inl (wd11 hw)) (by decide) (t := .int) (t' := (.array .int)) (by decide) (by decide)))
  replace E := E.wr W3
  replace V2 := V2.other W3 ((Ne.symm n_r_a2))
  refine Go.aloadN S3 d_prog_22_method_1_code_11 rfl rfl (pc' := 12) rfl ?_
  refine Go.iloadN S3 d_prog_22_method_1_code_12 rfl (pc' := 13) rfl ?_
  refine Go.putfield S3 (host := "") (Or.inl (wd12 hw)) Via.refl Fl E (Or.inr ⟨(wd13 hw), rfl, rfl⟩) (wd1 hw) (ty := .int) (by decide) rfl rfl hzr (Or.inl (List.mem_singleton.mpr rfl)) d_prog_22_method_1_code_13 (pc' := 16) rfl ?_
  intro T4 h4 L4 S4 W4
  have F4 := Fl.same W4
  replace Fi := Fi.other W4 (Or.inr (slot_ne (Or.inl (wd19 hw)) (Or.inr (wd13 hw)) (by decide) (t := (.array .int)) (t' := .int) (by decide) (by decide)))
  replace Fs := Fs.other W4 (Or.inr (slot_ne (Or.inl (wd22 hw)) (Or.inr (wd13 hw)) (by decide) (t := (.array .double)) (t' := .int) (by decide) (by decide)))
  replace Fn := Fn.other W4 (Or.inr (slot_ne (Or.inl (wd38 hw)) (Or.inr (wd13 hw)) (by decide) (t := .int) (t' := .int) (by decide) (by decide)))
  replace F3 := F3.other W4 (Or.inr (slot_ne (Or.inl (wd11 hw)) (Or.inr (wd13 hw)) (by decide) (t := (.array .int)) (t' := .int) (by decide) (by decide)))
  replace E := E.wr W4
  replace V2 := V2.other W4 ((Ne.symm n_r_a2))
  refine Go.aloadN S4 d_prog_22_method_1_code_16 rfl rfl (pc' := 17) rfl ?_
  refine Go.iloadN S4 d_prog_22_method_1_code_17 rfl (pc' := 18) rfl ?_
  refine Go.bipush S4 (v := 16) d_prog_22_method_1_code_18 rfl (pc' := 20) rfl ?_
  refine Go.invokestatic S4 (y := ⟨"java/lang/Math", "min", "(II)I"⟩) (rm_min hw (1 : Int32) (16 : Int32) S4.ext) (wd14 hw) (wd15 hw) (wd16 hw) (wd17 hw) (by decide) d_prog_22_method_1_code_20 rfl pd0 (argsL := [(.int (1 : Int32)), (.int (16 : Int32))]) rfl rfl rfl (by decide) (W := 1) rfl (by decide) (by decide) (by decide) all0 (pc' := 23) rfl ?_
  intro v5 T5 h5 L5 S5 K5 q5
  obtain ⟨rfl, rfl⟩ := q5
  show Go _ _ _ _ T5 (mkF m 23 #[.val (.ref r), .val (.int (1 : Int32))] [(.int (own_min (1 : Int32) (16 : Int32))), (.ref r)])
  rw [show (own_min (1 : Int32) (16 : Int32)) = 1 from by decide]
  show Go _ _ _ _ T5 (mkF m 23 #[.val (.ref r), .val (.int (1 : Int32))] [(.int (1 : Int32)), (.ref r)])
  refine Go.newarray S5 (ty := .int) (dv := (.int (0 : Int32))) rfl rfl (wd9 hw) d_prog_22_method_1_code_23 (by decide) (cap := 1) (by decide) (by decide) (by decide) (by decide) (pc' := 25) rfl ?_
  intro T6 h6 a6 kA6 S6 E6 hg6 hz6 hk6 V6
  replace V6 : Arv Z h6 a6 kA6 .int (1 : Int32) [(.int (0 : Int32))] (.int (0 : Int32)) := V6
  have n_r_a6 : r ≠ a6 := Nat.ne_of_lt (Nat.lt_of_lt_of_le E.lt (Nat.le_of_eq hg6))
  have n_a2_a6 : a2 ≠ a6 := Nat.ne_of_lt (Nat.lt_of_lt_of_le V2.lt (Nat.le_of_eq hg6))
  replace E := E.ext E6
  replace V2 := V2.ext E6
  replace Fi := Fi.ext E6
  replace Fs := Fs.ext E6
  replace Fn := Fn.ext E6
  replace F3 := F3.ext E6
  replace F4 := F4.ext E6
  refine Go.putfield S6 (host := "") (Or.inl (wd18 hw)) Via.refl Fi E (Or.inl (wd19 hw)) (wd1 hw) (ty := (.array .int)) (by decide) rfl rfl hzr (Or.inl (List.mem_singleton.mpr rfl)) d_prog_22_method_1_code_25 (pc' := 28) rfl ?_
  intro T7 h7 L7 S7 W7
  have F7 := Fi.same W7
  replace Fs := Fs.other W7 (Or.inr (slot_ne (Or.inl (wd22 hw)) (Or.inl (wd19 hw)) (by decide) (t := (.array .double)) (t' := (.array .int)) (by decide) (by decide)))
  replace Fn := Fn.other W7 (Or.inr (slot_ne (Or.inl (wd38 hw)) (Or.inl (wd19 hw)) (by decide) (t := .int) (t' := (.array .int)) (by decide) (by decide)))
  replace F3 := F3.other W7 (Or.inr (slot_ne (Or.inl (wd11 hw)) (Or.inl (wd19 hw)) (by decide) (t := (.array .int)) (t' := (.array .int)) (by decide) (by decide)))
  replace F4 := F4.other W7 (Or.inr (slot_ne (Or.inr (wd13 hw)) (Or.inl (wd19 hw)) (by decide) (t := .int) (t' := (.array .int)) (by decide) (by decide)))
  replace E := E.wr W7
  replace V2 := V2.other W7 ((Ne.symm n_r_a2))
  replace V6 := V6.other W7 ((Ne.symm n_r_a6))
  refine Go.aloadN S7 d_prog_22_method_1_code_28 rfl rfl (pc' := 29) rfl ?_
  refine Go.aloadN S7 d_prog_22_method_1_code_29 rfl rfl (pc' := 30) rfl ?_
  refine Go.getfield S7 (host := "") (Or.inl (wd18 hw)) Via.refl F7 d_prog_22_method_1_code_30 (pc' := 33) rfl ?_
  intro T8 S8
  refine Go.arraylength S8 V6 d_prog_22_method_1_code_33 (pc' := 34) rfl ?_
  refine Go.newarray S8 (ty := .double) (dv := (.double (0 : UInt64))) rfl rfl (wd20 hw) d_prog_22_method_1_code_34 (by decide) (cap := 1) (by decide) (by decide) (by decide) (by decide) (pc' := 36) rfl ?_
  intro T9 h9 a9 kA9 S9 E9 hg9 hz9 hk9 V9
  replace V9 : Arv Z h9 a9 kA9 .double (1 : Int32) [(.double (0 : UInt64))] (.double (0 : UInt64)) := V9
  replace V9 : Arv Z h9 a9 kA9 .double (1 : Int32) [(.double (FP.l2d 0))] (.double (FP.l2d 0)) := by rw [l2d_zero]; exact V9
  have n_r_a9 : r ≠ a9 := Nat.ne_of_lt (Nat.lt_of_lt_of_le E.lt (Nat.le_of_eq hg9))
  have n_a2_a9 : a2 ≠ a9 := Nat.ne_of_lt (Nat.lt_of_lt_of_le V2.lt (Nat.le_of_eq hg9))
  have n_a6_a9 : a6 ≠ a9 := Nat.ne_of_lt (Nat.lt_of_lt_of_le V6.lt (Nat.le_of_eq hg9))
  replace E := E.ext E9
  replace V2 := V2.ext E9
  replace V6 := V6.ext E9
  replace Fs := Fs.ext E9
  replace Fn := Fn.ext E9
  replace F3 := F3.ext E9
  replace F4 := F4.ext E9
  replace F7 := F7.ext E9
  refine Go.putfield S9 (host := "") (Or.inl (wd21 hw)) Via.refl Fs E (Or.inl (wd22 hw)) (wd1 hw) (ty := (.array .double)) (by decide) rfl rfl hzr (Or.inl (List.mem_singleton.mpr rfl)) d_prog_22_method_1_code_36 (pc' := 39) rfl ?_
  intro T10 h10 L10 S10 W10
  have F10 := Fs.same W10
  replace Fn := Fn.other W10 (Or.inr (slot_ne (Or.inl (wd38 hw)) (Or.inl (wd22 hw)) (by decide) (t := .int) (t' := (.array .double)) (by decide) (by decide)))
  replace F3 := F3.other W10 (Or.inr (slot_ne (Or.inl (wd11 hw)) (Or.inl (wd22 hw)) (by decide) (t := (.array .int)) (t' := (.array .double)) (by decide) (by decide)))
  replace F4 := F4.other W10 (Or.inr (slot_ne (Or.inr (wd13 hw)) (Or.inl (wd22 hw)) (by decide) (t := .int) (t' := (.array .double)) (by decide) (by decide)))
  replace F7 := F7.other W10 (Or.inr (slot_ne (Or.inl (wd19 hw)) (Or.inl (wd22 hw)) (by decide) (t := (.array .int)) (t' := (.array .double)) (by decide) (by decide)))
  replace E := E.wr W10
  replace V2 := V2.other W10 ((Ne.symm n_r_a2))
  replace V6 := V6.other W10 ((Ne.symm n_r_a6))
  replace V9 := V9.other W10 ((Ne.symm n_r_a9))
  exact Go.vreturn S10 rfl d_prog_22_method_1_code_39 (by decide) (by decide) (⟨rfl, a2, a6, a9, kA2, kA6, kA9, F3, F4, F7, F10, Fn, V2, V6, V9, hk6, hk9, n_r_a6, n_r_a9, n_a6_a9, Ne.symm (n_r_a2), n_a2_a6, n_a2_a9⟩)
set_option maxRecDepth 65536 in
set_option maxHeartbeats 4000000 in
theorem rm_init2 {l : Launch} {Z : State} {a0 : Array Value} (hw : HW Z a0) (r : Addr)  {h0 : Heap} (hE : Ext Z.heap h0) (hzr : Z.heap.size ≤ r) (E : Exa Z h0 r "com/example/opas/opas/Ranking") (Fx : Fld Z h0 r "com/example/opas/opas/Ranking" "excluded" "[I" .null) (Fl : Fld Z h0 r "com/example/opas/opas/Ranking" "limit" "I" (.int 0)) (Fi : Fld Z h0 r "com/example/opas/opas/Ranking" "ids" "[I" .null) (Fs : Fld Z h0 r "com/example/opas/opas/Ranking" "scores" "[D" .null) (Fn : Fld Z h0 r "com/example/opas/opas/Ranking" "size" "I" (.int 0)) :
    OMeets l Z (⟨"com/example/opas/opas/Ranking", "<init>", "(I)V"⟩ : MethodName) prog_22_method_1_code 2 none ({ frames := 1, cells := 3, slots := 6, locals := 14 } : Room) #[(.ref r), (.int (2 : Int32))] h0 [r] (fun v h => v = none ∧ ∃ xa ia sa kX kI kS, Fld Z h r "com/example/opas/opas/Ranking" "excluded" "[I" (.ref xa) ∧ Fld Z h r "com/example/opas/opas/Ranking" "limit" "I" (.int (2 : Int32)) ∧ Fld Z h r "com/example/opas/opas/Ranking" "ids" "[I" (.ref ia) ∧ Fld Z h r "com/example/opas/opas/Ranking" "scores" "[D" (.ref sa) ∧ Fld Z h r "com/example/opas/opas/Ranking" "size" "I" (.int (0 : Int32)) ∧ Arv Z h xa kX .int 0 [] (.int 0) ∧ Arv Z h ia kI .int (2 : Int32) [(.int 0), (.int 0)] (.int 0) ∧ Arv Z h sa kS .double (2 : Int32) [(.double (FP.l2d 0)), (.double (FP.l2d 0))] (.double (FP.l2d 0)) ∧ h0.size ≤ ia ∧ h0.size ≤ sa ∧ r ≠ ia ∧ r ≠ sa ∧ ia ≠ sa ∧ xa ≠ r ∧ xa ≠ ia ∧ xa ≠ sa) := by
  refine OMeets.body (plainFor_of_name pn1) hE #[.val (.ref r), .val (.int (2 : Int32))] (fun m => by first | rfl | (simp [entryFrame, mkF, argsToLocals, Value.category, maxLocals]; done)) ?_
  intro p e s m below meth co T S
  refine Go.aloadN S d_prog_22_method_1_code_0 rfl rfl (pc' := 1) rfl ?_
  refine Go.initObject S (wd6 hw) (wd7 hw) (wd8 hw) d_prog_22_method_1_code_1 rfl (by decide) (W := 0) rfl (by decide) (pc' := 4) rfl ?_
  intro T1 S1
  refine Go.aloadN S1 d_prog_22_method_1_code_4 rfl rfl (pc' := 5) rfl ?_
  refine Go.iconst S1 (v := 0) d_prog_22_method_1_code_5 rfl (pc' := 6) rfl ?_
  refine Go.newarray S1 (ty := .int) (dv := (.int (0 : Int32))) rfl rfl (wd9 hw) d_prog_22_method_1_code_6 (by decide) (cap := 0) (by decide) (by decide) (by decide) (by decide) (pc' := 8) rfl ?_
  intro T2 h2 a2 kA2 S2 E2 hg2 hz2 hk2 V2
  replace V2 : Arv Z h2 a2 kA2 .int (0 : Int32) [] (.int (0 : Int32)) := V2
  have n_r_a2 : r ≠ a2 := Nat.ne_of_lt (Nat.lt_of_lt_of_le E.lt (Nat.le_of_eq hg2))
  replace E := E.ext E2
  replace Fx := Fx.ext E2
  replace Fl := Fl.ext E2
  replace Fi := Fi.ext E2
  replace Fs := Fs.ext E2
  replace Fn := Fn.ext E2
  refine Go.putfield S2 (host := "") (Or.inl (wd10 hw)) Via.refl Fx E (Or.inl (wd11 hw)) (wd1 hw) (ty := (.array .int)) (by decide) rfl rfl hzr (Or.inl (List.mem_singleton.mpr rfl)) d_prog_22_method_1_code_8 (pc' := 11) rfl ?_
  intro T3 h3 L3 S3 W3
  have F3 := Fx.same W3
  replace Fl := Fl.other W3 (Or.inr (slot_ne (Or.inr (wd13 hw)) (Or.inl (wd11 hw)) (by decide) (t := .int) (t' := (.array .int)) (by decide) (by decide)))
  replace Fi := Fi.other W3 (Or.inr (slot_ne (Or.inl (wd19 hw)) (Or.inl (wd11 hw)) (by decide) (t := (.array .int)) (t' := (.array .int)) (by decide) (by decide)))
  replace Fs := Fs.other W3 (Or.inr (slot_ne (Or.inl (wd22 hw)) (Or.inl (wd11 hw)) (by decide) (t := (.array .double)) (t' := (.array .int)) (by decide) (by decide)))
  replace Fn := Fn.other W3 (Or.inr (slot_ne (Or.inl (wd38 hw)) (Or.inl (wd11 hw)) (by decide) (t := .int) (t' := (.array .int)) (by decide) (by decide)))
  replace E := E.wr W3
  replace V2 := V2.other W3 ((Ne.symm n_r_a2))
  refine Go.aloadN S3 d_prog_22_method_1_code_11 rfl rfl (pc' := 12) rfl ?_
  refine Go.iloadN S3 d_prog_22_method_1_code_12 rfl (pc' := 13) rfl ?_
  refine Go.putfield S3 (host := "") (Or.inl (wd12 hw)) Via.refl Fl E (Or.inr ⟨(wd13 hw), rfl, rfl⟩) (wd1 hw) (ty := .int) (by decide) rfl rfl hzr (Or.inl (List.mem_singleton.mpr rfl)) d_prog_22_method_1_code_13 (pc' := 16) rfl ?_
  intro T4 h4 L4 S4 W4
  have F4 := Fl.same W4
  replace Fi := Fi.other W4 (Or.inr (slot_ne (Or.inl (wd19 hw)) (Or.inr (wd13 hw)) (by decide) (t := (.array .int)) (t' := .int) (by decide) (by decide)))
  replace Fs := Fs.other W4 (Or.inr (slot_ne (Or.inl (wd22 hw)) (Or.inr (wd13 hw)) (by decide) (t := (.array .double)) (t' := .int) (by decide) (by decide)))
  replace Fn := Fn.other W4 (Or.inr (slot_ne (Or.inl (wd38 hw)) (Or.inr (wd13 hw)) (by decide) (t := .int) (t' := .int) (by decide) (by decide)))
  replace F3 := F3.other W4 (Or.inr (slot_ne (Or.inl (wd11 hw)) (Or.inr (wd13 hw)) (by decide) (t := (.array .int)) (t' := .int) (by decide) (by decide)))
  replace E := E.wr W4
  replace V2 := V2.other W4 ((Ne.symm n_r_a2))
  refine Go.aloadN S4 d_prog_22_method_1_code_16 rfl rfl (pc' := 17) rfl ?_
  refine Go.iloadN S4 d_prog_22_method_1_code_17 rfl (pc' := 18) rfl ?_
  refine Go.bipush S4 (v := 16) d_prog_22_method_1_code_18 rfl (pc' := 20) rfl ?_
  refine Go.invokestatic S4 (y := ⟨"java/lang/Math", "min", "(II)I"⟩) (rm_min hw (2 : Int32) (16 : Int32) S4.ext) (wd14 hw) (wd15 hw) (wd16 hw) (wd17 hw) (by decide) d_prog_22_method_1_code_20 rfl pd0 (argsL := [(.int (2 : Int32)), (.int (16 : Int32))]) rfl rfl rfl (by decide) (W := 1) rfl (by decide) (by decide) (by decide) all0 (pc' := 23) rfl ?_
  intro v5 T5 h5 L5 S5 K5 q5
  obtain ⟨rfl, rfl⟩ := q5
  show Go _ _ _ _ T5 (mkF m 23 #[.val (.ref r), .val (.int (2 : Int32))] [(.int (own_min (2 : Int32) (16 : Int32))), (.ref r)])
  rw [show (own_min (2 : Int32) (16 : Int32)) = 2 from by decide]
  show Go _ _ _ _ T5 (mkF m 23 #[.val (.ref r), .val (.int (2 : Int32))] [(.int (2 : Int32)), (.ref r)])
  refine Go.newarray S5 (ty := .int) (dv := (.int (0 : Int32))) rfl rfl (wd9 hw) d_prog_22_method_1_code_23 (by decide) (cap := 2) (by decide) (by decide) (by decide) (by decide) (pc' := 25) rfl ?_
  intro T6 h6 a6 kA6 S6 E6 hg6 hz6 hk6 V6
  replace V6 : Arv Z h6 a6 kA6 .int (2 : Int32) [(.int (0 : Int32)), (.int (0 : Int32))] (.int (0 : Int32)) := V6
  have n_r_a6 : r ≠ a6 := Nat.ne_of_lt (Nat.lt_of_lt_of_le E.lt (Nat.le_of_eq hg6))
  have n_a2_a6 : a2 ≠ a6 := Nat.ne_of_lt (Nat.lt_of_lt_of_le V2.lt (Nat.le_of_eq hg6))
  replace E := E.ext E6
  replace V2 := V2.ext E6
  replace Fi := Fi.ext E6
  replace Fs := Fs.ext E6
  replace Fn := Fn.ext E6
  replace F3 := F3.ext E6
  replace F4 := F4.ext E6
  refine Go.putfield S6 (host := "") (Or.inl (wd18 hw)) Via.refl Fi E (Or.inl (wd19 hw)) (wd1 hw) (ty := (.array .int)) (by decide) rfl rfl hzr (Or.inl (List.mem_singleton.mpr rfl)) d_prog_22_method_1_code_25 (pc' := 28) rfl ?_
  intro T7 h7 L7 S7 W7
  have F7 := Fi.same W7
  replace Fs := Fs.other W7 (Or.inr (slot_ne (Or.inl (wd22 hw)) (Or.inl (wd19 hw)) (by decide) (t := (.array .double)) (t' := (.array .int)) (by decide) (by decide)))
  replace Fn := Fn.other W7 (Or.inr (slot_ne (Or.inl (wd38 hw)) (Or.inl (wd19 hw)) (by decide) (t := .int) (t' := (.array .int)) (by decide) (by decide)))
  replace F3 := F3.other W7 (Or.inr (slot_ne (Or.inl (wd11 hw)) (Or.inl (wd19 hw)) (by decide) (t := (.array .int)) (t' := (.array .int)) (by decide) (by decide)))
  replace F4 := F4.other W7 (Or.inr (slot_ne (Or.inr (wd13 hw)) (Or.inl (wd19 hw)) (by decide) (t := .int) (t' := (.array .int)) (by decide) (by decide)))
  replace E := E.wr W7
  replace V2 := V2.other W7 ((Ne.symm n_r_a2))
  replace V6 := V6.other W7 ((Ne.symm n_r_a6))
  refine Go.aloadN S7 d_prog_22_method_1_code_28 rfl rfl (pc' := 29) rfl ?_
  refine Go.aloadN S7 d_prog_22_method_1_code_29 rfl rfl (pc' := 30) rfl ?_
  refine Go.getfield S7 (host := "") (Or.inl (wd18 hw)) Via.refl F7 d_prog_22_method_1_code_30 (pc' := 33) rfl ?_
  intro T8 S8
  refine Go.arraylength S8 V6 d_prog_22_method_1_code_33 (pc' := 34) rfl ?_
  refine Go.newarray S8 (ty := .double) (dv := (.double (0 : UInt64))) rfl rfl (wd20 hw) d_prog_22_method_1_code_34 (by decide) (cap := 2) (by decide) (by decide) (by decide) (by decide) (pc' := 36) rfl ?_
  intro T9 h9 a9 kA9 S9 E9 hg9 hz9 hk9 V9
  replace V9 : Arv Z h9 a9 kA9 .double (2 : Int32) [(.double (0 : UInt64)), (.double (0 : UInt64))] (.double (0 : UInt64)) := V9
  replace V9 : Arv Z h9 a9 kA9 .double (2 : Int32) [(.double (FP.l2d 0)), (.double (FP.l2d 0))] (.double (FP.l2d 0)) := by rw [l2d_zero]; exact V9
  have n_r_a9 : r ≠ a9 := Nat.ne_of_lt (Nat.lt_of_lt_of_le E.lt (Nat.le_of_eq hg9))
  have n_a2_a9 : a2 ≠ a9 := Nat.ne_of_lt (Nat.lt_of_lt_of_le V2.lt (Nat.le_of_eq hg9))
  have n_a6_a9 : a6 ≠ a9 := Nat.ne_of_lt (Nat.lt_of_lt_of_le V6.lt (Nat.le_of_eq hg9))
  replace E := E.ext E9
  replace V2 := V2.ext E9
  replace V6 := V6.ext E9
  replace Fs := Fs.ext E9
  replace Fn := Fn.ext E9
  replace F3 := F3.ext E9
  replace F4 := F4.ext E9
  replace F7 := F7.ext E9
  refine Go.putfield S9 (host := "") (Or.inl (wd21 hw)) Via.refl Fs E (Or.inl (wd22 hw)) (wd1 hw) (ty := (.array .double)) (by decide) rfl rfl hzr (Or.inl (List.mem_singleton.mpr rfl)) d_prog_22_method_1_code_36 (pc' := 39) rfl ?_
  intro T10 h10 L10 S10 W10
  have F10 := Fs.same W10
  replace Fn := Fn.other W10 (Or.inr (slot_ne (Or.inl (wd38 hw)) (Or.inl (wd22 hw)) (by decide) (t := .int) (t' := (.array .double)) (by decide) (by decide)))
  replace F3 := F3.other W10 (Or.inr (slot_ne (Or.inl (wd11 hw)) (Or.inl (wd22 hw)) (by decide) (t := (.array .int)) (t' := (.array .double)) (by decide) (by decide)))
  replace F4 := F4.other W10 (Or.inr (slot_ne (Or.inr (wd13 hw)) (Or.inl (wd22 hw)) (by decide) (t := .int) (t' := (.array .double)) (by decide) (by decide)))
  replace F7 := F7.other W10 (Or.inr (slot_ne (Or.inl (wd19 hw)) (Or.inl (wd22 hw)) (by decide) (t := (.array .int)) (t' := (.array .double)) (by decide) (by decide)))
  replace E := E.wr W10
  replace V2 := V2.other W10 ((Ne.symm n_r_a2))
  replace V6 := V6.other W10 ((Ne.symm n_r_a6))
  replace V9 := V9.other W10 ((Ne.symm n_r_a9))
  exact Go.vreturn S10 rfl d_prog_22_method_1_code_39 (by decide) (by decide) (⟨rfl, a2, a6, a9, kA2, kA6, kA9, F3, F4, F7, F10, Fn, V2, V6, V9, hk6, hk9, n_r_a6, n_r_a9, n_a6_a9, Ne.symm (n_r_a2), n_a2_a6, n_a2_a9⟩)
set_option maxRecDepth 65536 in
set_option maxHeartbeats 4000000 in
theorem rm_init3 {l : Launch} {Z : State} {a0 : Array Value} (hw : HW Z a0) (r : Addr)  {h0 : Heap} (hE : Ext Z.heap h0) (hzr : Z.heap.size ≤ r) (E : Exa Z h0 r "com/example/opas/opas/Ranking") (Fx : Fld Z h0 r "com/example/opas/opas/Ranking" "excluded" "[I" .null) (Fl : Fld Z h0 r "com/example/opas/opas/Ranking" "limit" "I" (.int 0)) (Fi : Fld Z h0 r "com/example/opas/opas/Ranking" "ids" "[I" .null) (Fs : Fld Z h0 r "com/example/opas/opas/Ranking" "scores" "[D" .null) (Fn : Fld Z h0 r "com/example/opas/opas/Ranking" "size" "I" (.int 0)) :
    OMeets l Z (⟨"com/example/opas/opas/Ranking", "<init>", "(I)V"⟩ : MethodName) prog_22_method_1_code 2 none ({ frames := 1, cells := 3, slots := 6, locals := 14 } : Room) #[(.ref r), (.int (3 : Int32))] h0 [r] (fun v h => v = none ∧ ∃ xa ia sa kX kI kS, Fld Z h r "com/example/opas/opas/Ranking" "excluded" "[I" (.ref xa) ∧ Fld Z h r "com/example/opas/opas/Ranking" "limit" "I" (.int (3 : Int32)) ∧ Fld Z h r "com/example/opas/opas/Ranking" "ids" "[I" (.ref ia) ∧ Fld Z h r "com/example/opas/opas/Ranking" "scores" "[D" (.ref sa) ∧ Fld Z h r "com/example/opas/opas/Ranking" "size" "I" (.int (0 : Int32)) ∧ Arv Z h xa kX .int 0 [] (.int 0) ∧ Arv Z h ia kI .int (3 : Int32) [(.int 0), (.int 0), (.int 0)] (.int 0) ∧ Arv Z h sa kS .double (3 : Int32) [(.double (FP.l2d 0)), (.double (FP.l2d 0)), (.double (FP.l2d 0))] (.double (FP.l2d 0)) ∧ h0.size ≤ ia ∧ h0.size ≤ sa ∧ r ≠ ia ∧ r ≠ sa ∧ ia ≠ sa ∧ xa ≠ r ∧ xa ≠ ia ∧ xa ≠ sa) := by
  refine OMeets.body (plainFor_of_name pn1) hE #[.val (.ref r), .val (.int (3 : Int32))] (fun m => by first | rfl | (simp [entryFrame, mkF, argsToLocals, Value.category, maxLocals]; done)) ?_
  intro p e s m below meth co T S
  refine Go.aloadN S d_prog_22_method_1_code_0 rfl rfl (pc' := 1) rfl ?_
  refine Go.initObject S (wd6 hw) (wd7 hw) (wd8 hw) d_prog_22_method_1_code_1 rfl (by decide) (W := 0) rfl (by decide) (pc' := 4) rfl ?_
  intro T1 S1
  refine Go.aloadN S1 d_prog_22_method_1_code_4 rfl rfl (pc' := 5) rfl ?_
  refine Go.iconst S1 (v := 0) d_prog_22_method_1_code_5 rfl (pc' := 6) rfl ?_
  refine Go.newarray S1 (ty := .int) (dv := (.int (0 : Int32))) rfl rfl (wd9 hw) d_prog_22_method_1_code_6 (by decide) (cap := 0) (by decide) (by decide) (by decide) (by decide) (pc' := 8) rfl ?_
  intro T2 h2 a2 kA2 S2 E2 hg2 hz2 hk2 V2
  replace V2 : Arv Z h2 a2 kA2 .int (0 : Int32) [] (.int (0 : Int32)) := V2
  have n_r_a2 : r ≠ a2 := Nat.ne_of_lt (Nat.lt_of_lt_of_le E.lt (Nat.le_of_eq hg2))
  replace E := E.ext E2
  replace Fx := Fx.ext E2
  replace Fl := Fl.ext E2
  replace Fi := Fi.ext E2
  replace Fs := Fs.ext E2
  replace Fn := Fn.ext E2
  refine Go.putfield S2 (host := "") (Or.inl (wd10 hw)) Via.refl Fx E (Or.inl (wd11 hw)) (wd1 hw) (ty := (.array .int)) (by decide) rfl rfl hzr (Or.inl (List.mem_singleton.mpr rfl)) d_prog_22_method_1_code_8 (pc' := 11) rfl ?_
  intro T3 h3 L3 S3 W3
  have F3 := Fx.same W3
  replace Fl := Fl.other W3 (Or.inr (slot_ne (Or.inr (wd13 hw)) (Or.inl (wd11 hw)) (by decide) (t := .int) (t' := (.array .int)) (by decide) (by decide)))
  replace Fi := Fi.other W3 (Or.inr (slot_ne (Or.inl (wd19 hw)) (Or.inl (wd11 hw)) (by decide) (t := (.array .int)) (t' := (.array .int)) (by decide) (by decide)))
  replace Fs := Fs.other W3 (Or.inr (slot_ne (Or.inl (wd22 hw)) (Or.inl (wd11 hw)) (by decide) (t := (.array .double)) (t' := (.array .int)) (by decide) (by decide)))
  replace Fn := Fn.other W3 (Or.inr (slot_ne (Or.inl (wd38 hw)) (Or.inl (wd11 hw)) (by decide) (t := .int) (t' := (.array .int)) (by decide) (by decide)))
  replace E := E.wr W3
  replace V2 := V2.other W3 ((Ne.symm n_r_a2))
  refine Go.aloadN S3 d_prog_22_method_1_code_11 rfl rfl (pc' := 12) rfl ?_
  refine Go.iloadN S3 d_prog_22_method_1_code_12 rfl (pc' := 13) rfl ?_
  refine Go.putfield S3 (host := "") (Or.inl (wd12 hw)) Via.refl Fl E (Or.inr ⟨(wd13 hw), rfl, rfl⟩) (wd1 hw) (ty := .int) (by decide) rfl rfl hzr (Or.inl (List.mem_singleton.mpr rfl)) d_prog_22_method_1_code_13 (pc' := 16) rfl ?_
  intro T4 h4 L4 S4 W4
  have F4 := Fl.same W4
  replace Fi := Fi.other W4 (Or.inr (slot_ne (Or.inl (wd19 hw)) (Or.inr (wd13 hw)) (by decide) (t := (.array .int)) (t' := .int) (by decide) (by decide)))
  replace Fs := Fs.other W4 (Or.inr (slot_ne (Or.inl (wd22 hw)) (Or.inr (wd13 hw)) (by decide) (t := (.array .double)) (t' := .int) (by decide) (by decide)))
  replace Fn := Fn.other W4 (Or.inr (slot_ne (Or.inl (wd38 hw)) (Or.inr (wd13 hw)) (by decide) (t := .int) (t' := .int) (by decide) (by decide)))
  replace F3 := F3.other W4 (Or.inr (slot_ne (Or.inl (wd11 hw)) (Or.inr (wd13 hw)) (by decide) (t := (.array .int)) (t' := .int) (by decide) (by decide)))
  replace E := E.wr W4
  replace V2 := V2.other W4 ((Ne.symm n_r_a2))
  refine Go.aloadN S4 d_prog_22_method_1_code_16 rfl rfl (pc' := 17) rfl ?_
  refine Go.iloadN S4 d_prog_22_method_1_code_17 rfl (pc' := 18) rfl ?_
  refine Go.bipush S4 (v := 16) d_prog_22_method_1_code_18 rfl (pc' := 20) rfl ?_
  refine Go.invokestatic S4 (y := ⟨"java/lang/Math", "min", "(II)I"⟩) (rm_min hw (3 : Int32) (16 : Int32) S4.ext) (wd14 hw) (wd15 hw) (wd16 hw) (wd17 hw) (by decide) d_prog_22_method_1_code_20 rfl pd0 (argsL := [(.int (3 : Int32)), (.int (16 : Int32))]) rfl rfl rfl (by decide) (W := 1) rfl (by decide) (by decide) (by decide) all0 (pc' := 23) rfl ?_
  intro v5 T5 h5 L5 S5 K5 q5
  obtain ⟨rfl, rfl⟩ := q5
  show Go _ _ _ _ T5 (mkF m 23 #[.val (.ref r), .val (.int (3 : Int32))] [(.int (own_min (3 : Int32) (16 : Int32))), (.ref r)])
  rw [show (own_min (3 : Int32) (16 : Int32)) = 3 from by decide]
  show Go _ _ _ _ T5 (mkF m 23 #[.val (.ref r), .val (.int (3 : Int32))] [(.int (3 : Int32)), (.ref r)])
  refine Go.newarray S5 (ty := .int) (dv := (.int (0 : Int32))) rfl rfl (wd9 hw) d_prog_22_method_1_code_23 (by decide) (cap := 3) (by decide) (by decide) (by decide) (by decide) (pc' := 25) rfl ?_
  intro T6 h6 a6 kA6 S6 E6 hg6 hz6 hk6 V6
  replace V6 : Arv Z h6 a6 kA6 .int (3 : Int32) [(.int (0 : Int32)), (.int (0 : Int32)), (.int (0 : Int32))] (.int (0 : Int32)) := V6
  have n_r_a6 : r ≠ a6 := Nat.ne_of_lt (Nat.lt_of_lt_of_le E.lt (Nat.le_of_eq hg6))
  have n_a2_a6 : a2 ≠ a6 := Nat.ne_of_lt (Nat.lt_of_lt_of_le V2.lt (Nat.le_of_eq hg6))
  replace E := E.ext E6
  replace V2 := V2.ext E6
  replace Fi := Fi.ext E6
  replace Fs := Fs.ext E6
  replace Fn := Fn.ext E6
  replace F3 := F3.ext E6
  replace F4 := F4.ext E6
  refine Go.putfield S6 (host := "") (Or.inl (wd18 hw)) Via.refl Fi E (Or.inl (wd19 hw)) (wd1 hw) (ty := (.array .int)) (by decide) rfl rfl hzr (Or.inl (List.mem_singleton.mpr rfl)) d_prog_22_method_1_code_25 (pc' := 28) rfl ?_
  intro T7 h7 L7 S7 W7
  have F7 := Fi.same W7
  replace Fs := Fs.other W7 (Or.inr (slot_ne (Or.inl (wd22 hw)) (Or.inl (wd19 hw)) (by decide) (t := (.array .double)) (t' := (.array .int)) (by decide) (by decide)))
  replace Fn := Fn.other W7 (Or.inr (slot_ne (Or.inl (wd38 hw)) (Or.inl (wd19 hw)) (by decide) (t := .int) (t' := (.array .int)) (by decide) (by decide)))
  replace F3 := F3.other W7 (Or.inr (slot_ne (Or.inl (wd11 hw)) (Or.inl (wd19 hw)) (by decide) (t := (.array .int)) (t' := (.array .int)) (by decide) (by decide)))
  replace F4 := F4.other W7 (Or.inr (slot_ne (Or.inr (wd13 hw)) (Or.inl (wd19 hw)) (by decide) (t := .int) (t' := (.array .int)) (by decide) (by decide)))
  replace E := E.wr W7
  replace V2 := V2.other W7 ((Ne.symm n_r_a2))
  replace V6 := V6.other W7 ((Ne.symm n_r_a6))
  refine Go.aloadN S7 d_prog_22_method_1_code_28 rfl rfl (pc' := 29) rfl ?_
  refine Go.aloadN S7 d_prog_22_method_1_code_29 rfl rfl (pc' := 30) rfl ?_
  refine Go.getfield S7 (host := "") (Or.inl (wd18 hw)) Via.refl F7 d_prog_22_method_1_code_30 (pc' := 33) rfl ?_
  intro T8 S8
  refine Go.arraylength S8 V6 d_prog_22_method_1_code_33 (pc' := 34) rfl ?_
  refine Go.newarray S8 (ty := .double) (dv := (.double (0 : UInt64))) rfl rfl (wd20 hw) d_prog_22_method_1_code_34 (by decide) (cap := 3) (by decide) (by decide) (by decide) (by decide) (pc' := 36) rfl ?_
  intro T9 h9 a9 kA9 S9 E9 hg9 hz9 hk9 V9
  replace V9 : Arv Z h9 a9 kA9 .double (3 : Int32) [(.double (0 : UInt64)), (.double (0 : UInt64)), (.double (0 : UInt64))] (.double (0 : UInt64)) := V9
  replace V9 : Arv Z h9 a9 kA9 .double (3 : Int32) [(.double (FP.l2d 0)), (.double (FP.l2d 0)), (.double (FP.l2d 0))] (.double (FP.l2d 0)) := by rw [l2d_zero]; exact V9
  have n_r_a9 : r ≠ a9 := Nat.ne_of_lt (Nat.lt_of_lt_of_le E.lt (Nat.le_of_eq hg9))
  have n_a2_a9 : a2 ≠ a9 := Nat.ne_of_lt (Nat.lt_of_lt_of_le V2.lt (Nat.le_of_eq hg9))
  have n_a6_a9 : a6 ≠ a9 := Nat.ne_of_lt (Nat.lt_of_lt_of_le V6.lt (Nat.le_of_eq hg9))
  replace E := E.ext E9
  replace V2 := V2.ext E9
  replace V6 := V6.ext E9
  replace Fs := Fs.ext E9
  replace Fn := Fn.ext E9
  replace F3 := F3.ext E9
  replace F4 := F4.ext E9
  replace F7 := F7.ext E9
  refine Go.putfield S9 (host := "") (Or.inl (wd21 hw)) Via.refl Fs E (Or.inl (wd22 hw)) (wd1 hw) (ty := (.array .double)) (by decide) rfl rfl hzr (Or.inl (List.mem_singleton.mpr rfl)) d_prog_22_method_1_code_36 (pc' := 39) rfl ?_
  intro T10 h10 L10 S10 W10
  have F10 := Fs.same W10
  replace Fn := Fn.other W10 (Or.inr (slot_ne (Or.inl (wd38 hw)) (Or.inl (wd22 hw)) (by decide) (t := .int) (t' := (.array .double)) (by decide) (by decide)))
  replace F3 := F3.other W10 (Or.inr (slot_ne (Or.inl (wd11 hw)) (Or.inl (wd22 hw)) (by decide) (t := (.array .int)) (t' := (.array .double)) (by decide) (by decide)))
  replace F4 := F4.other W10 (Or.inr (slot_ne (Or.inr (wd13 hw)) (Or.inl (wd22 hw)) (by decide) (t := .int) (t' := (.array .double)) (by decide) (by decide)))
  replace F7 := F7.other W10 (Or.inr (slot_ne (Or.inl (wd19 hw)) (Or.inl (wd22 hw)) (by decide) (t := (.array .int)) (t' := (.array .double)) (by decide) (by decide)))
  replace E := E.wr W10
  replace V2 := V2.other W10 ((Ne.symm n_r_a2))
  replace V6 := V6.other W10 ((Ne.symm n_r_a6))
  replace V9 := V9.other W10 ((Ne.symm n_r_a9))
  exact Go.vreturn S10 rfl d_prog_22_method_1_code_39 (by decide) (by decide) (⟨rfl, a2, a6, a9, kA2, kA6, kA9, F3, F4, F7, F10, Fn, V2, V6, V9, hk6, hk9, n_r_a6, n_r_a9, n_a6_a9, Ne.symm (n_r_a2), n_a2_a6, n_a2_a9⟩)
theorem own_q53 {q : Int64} (h : -2147483650 ≤ q.toInt ∧ q.toInt ≤ 2147483652) : B53 q := ⟨by have := h.1; omega, by have := h.2; omega⟩
theorem own_pos {z : Int32} (h : ¬ z < 0) (h' : ¬ z = 0) : 0 < z := by
  rw [Int32.lt_iff_toInt_lt] at *
  rw [← Int32.toInt_inj] at h'
  have e0 : (0 : Int32).toInt = 0 := rfl
  omega
set_option maxRecDepth 65536 in
set_option maxHeartbeats 4000000 in
theorem j159 {p : Program} {l : Launch} {e : Env} {s : State} {m : MethodId} {args : Array Value} {below : List Frame} {meth : Method} {co : Code} {Z : State} {a0 : Array Value} (hw : HW Z a0) (sh s0 s1 s2 xx nv lm nf : Int32) (r sa : Addr) (t0 t1 t2 : Int32) (thr q b0 : Int64) {h0 h : Heap} {T : State} {locs : List Loc} (S : St p l e room_1 s m args below meth co Z x.cls code maxLocals ret x.name h0 [] T h locs 4 11) (hlm : ¬ lm < 0) (E : Exa Z h r "com/example/opas/opas/Ranking") (Fl : Fld Z h r "com/example/opas/opas/Ranking" "limit" "I" (.int lm)) (Fs : Fld Z h r "com/example/opas/opas/Ranking" "scores" "[D" (.ref sa)) (Fn : Fld Z h r "com/example/opas/opas/Ranking" "size" "I" (.int (own_min nv lm))) (hV : ¬ own_min nv lm < lm → 0 < lm → (-2147483648 ≤ b0.toInt ∧ b0.toInt ≤ 2147483647) ∧ ∃ kS nL wv, Arv Z h sa kS .double nL (.double (FP.l2d b0) :: wv) (.double (FP.l2d 0)) ∧ ¬ (0 : Int32) < 0 ∧ 0 < nL) (hq : -2147483650 ≤ q.toInt ∧ q.toInt ≤ 2147483652) (hb : ¬ own_min nv lm < lm → 0 < lm → b0 = thr) :
    Go p e below (PostOf Z s h0 [] room_1.cells room_1.slots (fun v h => v = some (.int 1))) T (mkF m 159 #[.val (.int sh), .val (.int s0), .val (.int s1), .val (.int s2), .val (.int xx), .val (.int nv), .val (.int lm), .val (.int nf), .val (.ref r), .val (.int t0), .val (.int t1), .val (.int t2), .val (.long thr), .second, .unset, .unset, .unset, .unset] [(.long q)]) := by
  refine Go.lstore S at_159 (Ls' := #[.val (.int sh), .val (.int s0), .val (.int s1), .val (.int s2), .val (.int xx), .val (.int nv), .val (.int lm), .val (.int nf), .val (.ref r), .val (.int t0), .val (.int t1), .val (.int t2), .val (.long thr), .second, .val (.long q), .second, .unset, .unset]) rfl (pc' := 161) rfl ?_
  refine Go.iload S at_161 rfl (pc' := 163) rfl ?_
  refine Go.iload S at_163 rfl (pc' := 165) rfl ?_
  refine Go.invokestatic S (y := ⟨"java/lang/Math", "min", "(II)I"⟩) (rm_min hw nv lm S.ext) (wd31 hw) (wd15 hw) (wd16 hw) (wd17 hw) (by decide) at_165 rfl pd0 (argsL := [(.int nv), (.int lm)]) rfl rfl rfl (by decide) (W := 0) rfl (by decide) (by decide) (by decide) all0 (pc' := 168) rfl ?_
  intro v1 T1 h1 L1 S1 K1 q1
  obtain ⟨rfl, rfl⟩ := q1
  show Go _ _ _ _ T1 (mkF m 168 #[.val (.int sh), .val (.int s0), .val (.int s1), .val (.int s2), .val (.int xx), .val (.int nv), .val (.int lm), .val (.int nf), .val (.ref r), .val (.int t0), .val (.int t1), .val (.int t2), .val (.long thr), .second, .val (.long q), .second, .unset, .unset] [(.int (own_min nv lm))])
  refine Go.istore S1 at_168 (Ls' := #[.val (.int sh), .val (.int s0), .val (.int s1), .val (.int s2), .val (.int xx), .val (.int nv), .val (.int lm), .val (.int nf), .val (.ref r), .val (.int t0), .val (.int t1), .val (.int t2), .val (.long thr), .second, .val (.long q), .second, .val (.int (own_min nv lm)), .unset]) rfl (pc' := 170) rfl ?_
  refine Go.iload S1 at_170 rfl (pc' := 172) rfl ?_
  refine Go.iload S1 at_172 rfl (pc' := 174) rfl ?_
  refine Go.icmp_ge S1 at_174 (pt := 183) (by decide) (pc' := 177) rfl ?_ ?_
  · intro c174
    refine Go.iload S1 at_183 rfl (pc' := 185) rfl ?_
    refine Go.if_ne S1 at_185 (pt := 194) (by decide) (pc' := 188) rfl ?_ ?_
    · intro c185
      refine Go.lload S1 at_194 rfl (pc' := 196) rfl ?_
      refine Go.lload S1 at_196 rfl (pc' := 198) rfl ?_
      refine Go.lcmp_lt S1 at_198 (pc1 := 199) rfl at_199 (pt := 206) (by decide) (pc' := 202) rfl ?_ ?_
      · intro c198
        refine Go.iconst S1 (v := 0) at_206 rfl (pc' := 207) rfl ?_
        refine Go.istore S1 at_207 (Ls' := #[.val (.int sh), .val (.int s0), .val (.int s1), .val (.int s2), .val (.int xx), .val (.int nv), .val (.int lm), .val (.int nf), .val (.ref r), .val (.int t0), .val (.int t1), .val (.int t2), .val (.long thr), .second, .val (.long q), .second, .val (.int (own_min nv lm)), .val (.int (0 : Int32))]) rfl (pc' := 209) rfl ?_
        refine Go.aload S1 at_209 rfl rfl (pc' := 211) rfl ?_
        refine Go.lload S1 at_211 rfl (pc' := 213) rfl ?_
        refine Go.l2d S1 at_213 (pc' := 214) rfl ?_
        have hbt := hb c174 (own_pos hlm c185)
        refine Go.invokevirtual S1 (y := ⟨"com/example/opas/opas/Ranking", "couldKeep", "(D)Z"⟩) (rm_keep hw r q sa (own_min nv lm) lm b0 S1.ext Fl Fs Fn (own_q53 hq) hV) (wd32 hw) (wd33 hw) (S1.nf (wd35 hw)) (wd35 hw) (wd34 hw) (wd2 hw) (wd36 hw) (by decide) E at_214 rfl pd5 (argsL := [(.double (FP.l2d q))]) rfl rfl rfl (by decide) (W := 0) rfl (by decide) (by decide) (by decide) all0 (pc' := 217) rfl ?_
        intro v2 T2 h2 L2 S2 K2 q2
        rw [if_neg c174, if_pos (own_pos hlm c185), hbt, if_pos c198] at q2
        obtain ⟨rfl, rfl⟩ := q2
        show Go _ _ _ _ T2 (mkF m 217 #[.val (.int sh), .val (.int s0), .val (.int s1), .val (.int s2), .val (.int xx), .val (.int nv), .val (.int lm), .val (.int nf), .val (.ref r), .val (.int t0), .val (.int t1), .val (.int t2), .val (.long thr), .second, .val (.long q), .second, .val (.int (own_min nv lm)), .val (.int (0 : Int32))] [(.int (0 : Int32))])
        refine Go.iload S2 at_217 rfl (pc' := 219) rfl ?_
        refine Go.icmp_ne S2 at_219 (pt := 226) (by decide) (pc' := 222) rfl ?_ ?_
        · intro c219; exact absurd (by decide) c219
        · intro c219
          refine Go.iconst S2 (v := 1) at_222 rfl (pc' := 223) rfl ?_
          refine Go.goto S2 at_223 (pc' := 227) (by decide) ?_
          exact Go.zreturn S2 rfl (by decide) at_227 (z' := (1 : Int32)) rfl (by decide) (by decide) (rfl)
      · intro c198
        refine Go.iconst S1 (v := 1) at_202 rfl (pc' := 203) rfl ?_
        refine Go.goto S1 at_203 (pc' := 207) (by decide) ?_
        refine Go.istore S1 at_207 (Ls' := #[.val (.int sh), .val (.int s0), .val (.int s1), .val (.int s2), .val (.int xx), .val (.int nv), .val (.int lm), .val (.int nf), .val (.ref r), .val (.int t0), .val (.int t1), .val (.int t2), .val (.long thr), .second, .val (.long q), .second, .val (.int (own_min nv lm)), .val (.int (1 : Int32))]) rfl (pc' := 209) rfl ?_
        refine Go.aload S1 at_209 rfl rfl (pc' := 211) rfl ?_
        refine Go.lload S1 at_211 rfl (pc' := 213) rfl ?_
        refine Go.l2d S1 at_213 (pc' := 214) rfl ?_
        have hbt := hb c174 (own_pos hlm c185)
        refine Go.invokevirtual S1 (y := ⟨"com/example/opas/opas/Ranking", "couldKeep", "(D)Z"⟩) (rm_keep hw r q sa (own_min nv lm) lm b0 S1.ext Fl Fs Fn (own_q53 hq) hV) (wd32 hw) (wd33 hw) (S1.nf (wd35 hw)) (wd35 hw) (wd34 hw) (wd2 hw) (wd36 hw) (by decide) E at_214 rfl pd5 (argsL := [(.double (FP.l2d q))]) rfl rfl rfl (by decide) (W := 0) rfl (by decide) (by decide) (by decide) all0 (pc' := 217) rfl ?_
        intro v3 T3 h3 L3 S3 K3 q3
        rw [if_neg c174, if_pos (own_pos hlm c185), hbt, if_neg c198] at q3
        obtain ⟨rfl, rfl⟩ := q3
        show Go _ _ _ _ T3 (mkF m 217 #[.val (.int sh), .val (.int s0), .val (.int s1), .val (.int s2), .val (.int xx), .val (.int nv), .val (.int lm), .val (.int nf), .val (.ref r), .val (.int t0), .val (.int t1), .val (.int t2), .val (.long thr), .second, .val (.long q), .second, .val (.int (own_min nv lm)), .val (.int (1 : Int32))] [(.int (1 : Int32))])
        refine Go.iload S3 at_217 rfl (pc' := 219) rfl ?_
        refine Go.icmp_ne S3 at_219 (pt := 226) (by decide) (pc' := 222) rfl ?_ ?_
        · intro c219; exact absurd (by decide) c219
        · intro c219
          refine Go.iconst S3 (v := 1) at_222 rfl (pc' := 223) rfl ?_
          refine Go.goto S3 at_223 (pc' := 227) (by decide) ?_
          exact Go.zreturn S3 rfl (by decide) at_227 (z' := (1 : Int32)) rfl (by decide) (by decide) (rfl)
    · intro c185
      refine Go.iconst S1 (v := 0) at_188 rfl (pc' := 189) rfl ?_
      refine Go.istore S1 at_189 (Ls' := #[.val (.int sh), .val (.int s0), .val (.int s1), .val (.int s2), .val (.int xx), .val (.int nv), .val (.int lm), .val (.int nf), .val (.ref r), .val (.int t0), .val (.int t1), .val (.int t2), .val (.long thr), .second, .val (.long q), .second, .val (.int (own_min nv lm)), .val (.int (0 : Int32))]) rfl (pc' := 191) rfl ?_
      refine Go.goto S1 at_191 (pc' := 209) (by decide) ?_
      refine Go.aload S1 at_209 rfl rfl (pc' := 211) rfl ?_
      refine Go.lload S1 at_211 rfl (pc' := 213) rfl ?_
      refine Go.l2d S1 at_213 (pc' := 214) rfl ?_
      refine Go.invokevirtual S1 (y := ⟨"com/example/opas/opas/Ranking", "couldKeep", "(D)Z"⟩) (rm_keep hw r q sa (own_min nv lm) lm b0 S1.ext Fl Fs Fn (own_q53 hq) hV) (wd32 hw) (wd33 hw) (S1.nf (wd35 hw)) (wd35 hw) (wd34 hw) (wd2 hw) (wd36 hw) (by decide) E at_214 rfl pd5 (argsL := [(.double (FP.l2d q))]) rfl rfl rfl (by decide) (W := 0) rfl (by decide) (by decide) (by decide) all0 (pc' := 217) rfl ?_
      intro v4 T4 h4 L4 S4 K4 q4
      rw [if_neg c174, if_neg (by rw [c185]; decide)] at q4
      obtain ⟨rfl, rfl⟩ := q4
      show Go _ _ _ _ T4 (mkF m 217 #[.val (.int sh), .val (.int s0), .val (.int s1), .val (.int s2), .val (.int xx), .val (.int nv), .val (.int lm), .val (.int nf), .val (.ref r), .val (.int t0), .val (.int t1), .val (.int t2), .val (.long thr), .second, .val (.long q), .second, .val (.int (own_min nv lm)), .val (.int (0 : Int32))] [(.int (0 : Int32))])
      refine Go.iload S4 at_217 rfl (pc' := 219) rfl ?_
      refine Go.icmp_ne S4 at_219 (pt := 226) (by decide) (pc' := 222) rfl ?_ ?_
      · intro c219; exact absurd (by decide) c219
      · intro c219
        refine Go.iconst S4 (v := 1) at_222 rfl (pc' := 223) rfl ?_
        refine Go.goto S4 at_223 (pc' := 227) (by decide) ?_
        exact Go.zreturn S4 rfl (by decide) at_227 (z' := (1 : Int32)) rfl (by decide) (by decide) (rfl)
  · intro c174
    refine Go.iconst S1 (v := 1) at_177 rfl (pc' := 178) rfl ?_
    refine Go.istore S1 at_178 (Ls' := #[.val (.int sh), .val (.int s0), .val (.int s1), .val (.int s2), .val (.int xx), .val (.int nv), .val (.int lm), .val (.int nf), .val (.ref r), .val (.int t0), .val (.int t1), .val (.int t2), .val (.long thr), .second, .val (.long q), .second, .val (.int (own_min nv lm)), .val (.int (1 : Int32))]) rfl (pc' := 180) rfl ?_
    refine Go.goto S1 at_180 (pc' := 209) (by decide) ?_
    refine Go.aload S1 at_209 rfl rfl (pc' := 211) rfl ?_
    refine Go.lload S1 at_211 rfl (pc' := 213) rfl ?_
    refine Go.l2d S1 at_213 (pc' := 214) rfl ?_
    refine Go.invokevirtual S1 (y := ⟨"com/example/opas/opas/Ranking", "couldKeep", "(D)Z"⟩) (rm_keep hw r q sa (own_min nv lm) lm b0 S1.ext Fl Fs Fn (own_q53 hq) hV) (wd32 hw) (wd33 hw) (S1.nf (wd35 hw)) (wd35 hw) (wd34 hw) (wd2 hw) (wd36 hw) (by decide) E at_214 rfl pd5 (argsL := [(.double (FP.l2d q))]) rfl rfl rfl (by decide) (W := 0) rfl (by decide) (by decide) (by decide) all0 (pc' := 217) rfl ?_
    intro v5 T5 h5 L5 S5 K5 q5
    rw [if_pos c174] at q5
    obtain ⟨rfl, rfl⟩ := q5
    show Go _ _ _ _ T5 (mkF m 217 #[.val (.int sh), .val (.int s0), .val (.int s1), .val (.int s2), .val (.int xx), .val (.int nv), .val (.int lm), .val (.int nf), .val (.ref r), .val (.int t0), .val (.int t1), .val (.int t2), .val (.long thr), .second, .val (.long q), .second, .val (.int (own_min nv lm)), .val (.int (1 : Int32))] [(.int (1 : Int32))])
    refine Go.iload S5 at_217 rfl (pc' := 219) rfl ?_
    refine Go.icmp_ne S5 at_219 (pt := 226) (by decide) (pc' := 222) rfl ?_ ?_
    · intro c219; exact absurd (by decide) c219
    · intro c219
      refine Go.iconst S5 (v := 1) at_222 rfl (pc' := 223) rfl ?_
      refine Go.goto S5 at_223 (pc' := 227) (by decide) ?_
      exact Go.zreturn S5 rfl (by decide) at_227 (z' := (1 : Int32)) rfl (by decide) (by decide) (rfl)
theorem own_xb (z : Int32) : -2147483650 ≤ z.toInt64.toInt ∧ z.toInt64.toInt ≤ 2147483652 := by
  have q := own_ti z
  have r := rng32 z
  omega
set_option maxRecDepth 65536 in
set_option maxHeartbeats 4000000 in
theorem j120 {p : Program} {l : Launch} {e : Env} {s : State} {m : MethodId} {args : Array Value} {below : List Frame} {meth : Method} {co : Code} {Z : State} {a0 : Array Value} (hw : HW Z a0) (sh s0 s1 s2 xx nv lm nf : Int32) (r sa : Addr) (t0 t1 t2 : Int32) (b0 : Int64) {h0 h : Heap} {T : State} {locs : List Loc} (S : St p l e room_1 s m args below meth co Z x.cls code maxLocals ret x.name h0 [] T h locs 4 11) (hlm : ¬ lm < 0) (E : Exa Z h r "com/example/opas/opas/Ranking") (Fl : Fld Z h r "com/example/opas/opas/Ranking" "limit" "I" (.int lm)) (Fs : Fld Z h r "com/example/opas/opas/Ranking" "scores" "[D" (.ref sa)) (Fn : Fld Z h r "com/example/opas/opas/Ranking" "size" "I" (.int (own_min nv lm))) (hV : ¬ own_min nv lm < lm → 0 < lm → (-2147483648 ≤ b0.toInt ∧ b0.toInt ≤ 2147483647) ∧ ∃ kS nL wv, Arv Z h sa kS .double nL (.double (FP.l2d b0) :: wv) (.double (FP.l2d 0)) ∧ ¬ (0 : Int32) < 0 ∧ 0 < nL) (hb : ¬ own_min nv lm < lm → 0 < lm → b0 = own_lg lm t0 t1 t2) :
    Go p e below (PostOf Z s h0 [] room_1.cells room_1.slots (fun v h => v = some (.int 1))) T (mkF m 120 #[.val (.int sh), .val (.int s0), .val (.int s1), .val (.int s2), .val (.int xx), .val (.int nv), .val (.int lm), .val (.int nf), .val (.ref r), .val (.int t0), .val (.int t1), .val (.int t2), .unset, .unset, .unset, .unset, .unset, .unset] []) := by
  refine Go.iload S at_120 rfl (pc' := 122) rfl ?_
  refine Go.iload S at_122 rfl (pc' := 124) rfl ?_
  refine Go.iload S at_124 rfl (pc' := 126) rfl ?_
  refine Go.iload S at_126 rfl (pc' := 128) rfl ?_
  refine Go.invokestatic S (y := ⟨"com/example/opas/opas/RankingCouldKeepPinLaw", "largest", "(IIII)J"⟩) (rm_lg hw lm t0 t1 t2 S.ext) (wd24 hw) (wd25 hw) (wd26 hw) (wd27 hw) (by decide) at_128 rfl pd6 (argsL := [(.int lm), (.int t0), (.int t1), (.int t2)]) rfl rfl rfl (by decide) (W := 0) rfl (by decide) (by decide) (by decide) all0 (pc' := 131) rfl ?_
  intro v6 T6 h6 L6 S6 K6 q6
  obtain ⟨rfl, rfl⟩ := q6
  show Go _ _ _ _ T6 (mkF m 131 #[.val (.int sh), .val (.int s0), .val (.int s1), .val (.int s2), .val (.int xx), .val (.int nv), .val (.int lm), .val (.int nf), .val (.ref r), .val (.int t0), .val (.int t1), .val (.int t2), .unset, .unset, .unset, .unset, .unset, .unset] [(.long (own_lg lm t0 t1 t2))])
  refine Go.lstore S6 at_131 (Ls' := #[.val (.int sh), .val (.int s0), .val (.int s1), .val (.int s2), .val (.int xx), .val (.int nv), .val (.int lm), .val (.int nf), .val (.ref r), .val (.int t0), .val (.int t1), .val (.int t2), .val (.long (own_lg lm t0 t1 t2)), .second, .unset, .unset, .unset, .unset]) rfl (pc' := 133) rfl ?_
  generalize h_thr : (own_lg lm t0 t1 t2) = thr
  refine Go.iload S6 at_133 rfl (pc' := 135) rfl ?_
  refine Go.if_eq S6 at_135 (pt := 156) (by decide) (pc' := 138) rfl ?_ ?_
  · intro c135
    refine Go.iload S6 at_156 rfl (pc' := 158) rfl ?_
    refine Go.i2l S6 at_158 (pc' := 159) rfl ?_
    exact j159 hw sh s0 s1 s2 xx nv lm nf r sa t0 t1 t2 thr (xx.toInt64) b0 S6 hlm E Fl Fs Fn hV (own_xb xx) (fun z z' => (hb z z').trans h_thr)
  · intro c135
    refine Go.iload S6 at_138 rfl (pc' := 140) rfl ?_
    refine Go.if_le S6 at_140 (pt := 156) (by decide) (pc' := 143) rfl ?_ ?_
    · intro c140
      refine Go.iload S6 at_156 rfl (pc' := 158) rfl ?_
      refine Go.i2l S6 at_158 (pc' := 159) rfl ?_
      exact j159 hw sh s0 s1 s2 xx nv lm nf r sa t0 t1 t2 thr (xx.toInt64) b0 S6 hlm E Fl Fs Fn hV (own_xb xx) (fun z z' => (hb z z').trans h_thr)
    · intro c140
      refine Go.lload S6 at_143 rfl (pc' := 145) rfl ?_
      refine Go.iload S6 at_145 rfl (pc' := 147) rfl ?_
      refine Go.iconst S6 (v := 3) at_147 rfl (pc' := 148) rfl ?_
      refine Go.iand S6 at_148 (pc' := 149) rfl ?_
      refine Go.iconst S6 (v := 1) at_149 rfl (pc' := 150) rfl ?_
      refine Go.isub S6 at_150 (pc' := 151) rfl ?_
      refine Go.i2l S6 at_151 (pc' := 152) rfl ?_
      refine Go.ladd S6 at_152 (pc' := 153) rfl ?_
      refine Go.goto S6 at_153 (pc' := 159) (by decide) ?_
      exact j159 hw sh s0 s1 s2 xx nv lm nf r sa t0 t1 t2 thr (thr + (((xx &&& (3 : Int32)) - (1 : Int32)).toInt64)) b0 S6 hlm E Fl Fs Fn hV (own_qb (by rw [← h_thr]; exact own_lgb lm t0 t1 t2) (own_near xx)) (fun z z' => (hb z z').trans h_thr)
set_option maxRecDepth 65536 in
set_option maxHeartbeats 4000000 in
theorem own_A00 {p : Program} {l : Launch} {e : Env} {s : State} {m : MethodId} {args : Array Value} {below : List Frame} {meth : Method} {co : Code} {Z : State} {a0 : Array Value} (hw : HW Z a0) (sh s0 s1 s2 xx nf : Int32) {h0 h : Heap} {T : State} {locs : List Loc} (S : St p l e room_1 s m args below meth co Z x.cls code maxLocals ret x.name h0 [] T h locs 0 0) :
    Go p e below (PostOf Z s h0 [] room_1.cells room_1.slots (fun v h => v = some (.int 1))) T (mkF m 27 #[.val (.int sh), .val (.int s0), .val (.int s1), .val (.int s2), .val (.int xx), .val (.int (0 : Int32)), .val (.int (0 : Int32)), .val (.int nf), .unset, .unset, .unset, .unset, .unset, .unset, .unset, .unset, .unset, .unset] []) := by
  refine Go.new S (wd0 hw) (wd1 hw) (wd2 hw) at_27 (by decide) (by decide) (pc' := 30) rfl ?_
  intro T1 h1 a1 S1 E1 hg1 hz1 hk1 X1 D1
  have F1_excluded : Fld Z h1 a1 "com/example/opas/opas/Ranking" "excluded" "[I" .null := D1 (Or.inl (wd11 hw)) (ty := (.array .int)) (by decide)
  have F1_limit : Fld Z h1 a1 "com/example/opas/opas/Ranking" "limit" "I" (.int (0 : Int32)) := D1 (Or.inr (wd13 hw)) (ty := .int) (by decide)
  have F1_ids : Fld Z h1 a1 "com/example/opas/opas/Ranking" "ids" "[I" .null := D1 (Or.inl (wd19 hw)) (ty := (.array .int)) (by decide)
  have F1_scores : Fld Z h1 a1 "com/example/opas/opas/Ranking" "scores" "[D" .null := D1 (Or.inl (wd22 hw)) (ty := (.array .double)) (by decide)
  have F1_size : Fld Z h1 a1 "com/example/opas/opas/Ranking" "size" "I" (.int (0 : Int32)) := D1 (Or.inl (wd38 hw)) (ty := .int) (by decide)
  refine Go.dup S1 at_30 rfl (pc' := 31) rfl ?_
  refine Go.iload S1 at_31 rfl (pc' := 33) rfl ?_
  have hzo := S1.ext.1
  have hko := S1.keep.1
  refine Go.invokespecial S1 (y := ⟨"com/example/opas/opas/Ranking", "<init>", "(I)V"⟩) (rm_init0 hw a1 S1.ext hz1 X1 F1_excluded F1_limit F1_ids F1_scores F1_size) rfl rfl (wd3 hw) (wd4 hw) (wd2 hw) (wd5 hw) (by decide) at_33 rfl pd4 (argsL := [(.int (0 : Int32))]) rfl rfl rfl (by decide) (W := 1) rfl (by decide) (by decide) (by decide) (allS (Or.inr hk1) all0) (pc' := 36) rfl ?_
  intro v2 T2 h2 L2 S2 K2 q2
  obtain ⟨rfl, xa, ia, sa, kX, kI, kS, Fx, Fl, Fi, Fs, Fn, VX, VI, VS, hki, hks, nri, nrs, nis, nxr, nxi, nxs⟩ := q2
  replace X1 := X1.keep K2
  show Go _ _ _ _ T2 (mkF m 36 #[.val (.int sh), .val (.int s0), .val (.int s1), .val (.int s2), .val (.int xx), .val (.int (0 : Int32)), .val (.int (0 : Int32)), .val (.int nf), .unset, .unset, .unset, .unset, .unset, .unset, .unset, .unset, .unset, .unset] [(.ref a1)])
  have hzi := Nat.le_trans hzo hki
  have hzs := Nat.le_trans hzo hks
  replace hki := Nat.le_trans hko hki
  replace hks := Nat.le_trans hko hks
  refine Go.astore S2 at_36 rfl (Ls' := #[.val (.int sh), .val (.int s0), .val (.int s1), .val (.int s2), .val (.int xx), .val (.int (0 : Int32)), .val (.int (0 : Int32)), .val (.int nf), .val (.ref a1), .unset, .unset, .unset, .unset, .unset, .unset, .unset, .unset, .unset]) rfl (pc' := 38) rfl ?_
  refine Go.iload S2 at_38 rfl (pc' := 40) rfl ?_
  refine Go.if_le S2 at_40 (pt := 51) (by decide) (pc' := 43) rfl ?_ ?_
  · intro c40
    refine Go.iload S2 at_51 rfl (pc' := 53) rfl ?_
    refine Go.iconst S2 (v := 1) at_53 rfl (pc' := 54) rfl ?_
    refine Go.icmp_le S2 at_54 (pt := 65) (by decide) (pc' := 57) rfl ?_ ?_
    · intro c54
      refine Go.iload S2 at_65 rfl (pc' := 67) rfl ?_
      refine Go.iconst S2 (v := 2) at_67 rfl (pc' := 68) rfl ?_
      refine Go.icmp_le S2 at_68 (pt := 79) (by decide) (pc' := 71) rfl ?_ ?_
      · intro c68
        refine Go.iload S2 at_79 rfl (pc' := 81) rfl ?_
        refine Go.if_le S2 at_81 (pt := 88) (by decide) (pc' := 84) rfl ?_ ?_
        · intro c81
          refine Go.ldc S2 (wd23 hw) at_88 (pc' := 90) rfl ?_
          refine Go.istore S2 at_90 (Ls' := #[.val (.int sh), .val (.int s0), .val (.int s1), .val (.int s2), .val (.int xx), .val (.int (0 : Int32)), .val (.int (0 : Int32)), .val (.int nf), .val (.ref a1), .val (.int (-2147483648 : Int32)), .unset, .unset, .unset, .unset, .unset, .unset, .unset, .unset]) rfl (pc' := 92) rfl ?_
          refine Go.iload S2 at_92 rfl (pc' := 94) rfl ?_
          refine Go.iconst S2 (v := 1) at_94 rfl (pc' := 95) rfl ?_
          refine Go.icmp_le S2 at_95 (pt := 102) (by decide) (pc' := 98) rfl ?_ ?_
          · intro c95
            refine Go.ldc S2 (wd23 hw) at_102 (pc' := 104) rfl ?_
            refine Go.istore S2 at_104 (Ls' := #[.val (.int sh), .val (.int s0), .val (.int s1), .val (.int s2), .val (.int xx), .val (.int (0 : Int32)), .val (.int (0 : Int32)), .val (.int nf), .val (.ref a1), .val (.int (-2147483648 : Int32)), .val (.int (-2147483648 : Int32)), .unset, .unset, .unset, .unset, .unset, .unset, .unset]) rfl (pc' := 106) rfl ?_
            refine Go.iload S2 at_106 rfl (pc' := 108) rfl ?_
            refine Go.iconst S2 (v := 2) at_108 rfl (pc' := 109) rfl ?_
            refine Go.icmp_le S2 at_109 (pt := 116) (by decide) (pc' := 112) rfl ?_ ?_
            · intro c109
              refine Go.ldc S2 (wd23 hw) at_116 (pc' := 118) rfl ?_
              refine Go.istore S2 at_118 (Ls' := #[.val (.int sh), .val (.int s0), .val (.int s1), .val (.int s2), .val (.int xx), .val (.int (0 : Int32)), .val (.int (0 : Int32)), .val (.int nf), .val (.ref a1), .val (.int (-2147483648 : Int32)), .val (.int (-2147483648 : Int32)), .val (.int (-2147483648 : Int32)), .unset, .unset, .unset, .unset, .unset, .unset]) rfl (pc' := 120) rfl ?_
              have hmn : own_min (0 : Int32) (0 : Int32) = (0 : Int32) := by decide
              exact j120 hw sh s0 s1 s2 xx (0 : Int32) (0 : Int32) nf a1 sa (-2147483648 : Int32) (-2147483648 : Int32) (-2147483648 : Int32) 0 (S2.more (by decide) (by decide)) (by decide) X1 Fl Fs (by rw [hmn]; exact Fn) (fun _ z => absurd z (by decide)) (fun _ z => absurd z (by decide))
            · intro c109; exact absurd c109 (by decide)
          · intro c95; exact absurd c95 (by decide)
        · intro c81; exact absurd c81 (by decide)
      · intro c68; exact absurd c68 (by decide)
    · intro c54; exact absurd c54 (by decide)
  · intro c40; exact absurd c40 (by decide)
set_option maxRecDepth 65536 in
set_option maxHeartbeats 4000000 in
theorem own_A01 {p : Program} {l : Launch} {e : Env} {s : State} {m : MethodId} {args : Array Value} {below : List Frame} {meth : Method} {co : Code} {Z : State} {a0 : Array Value} (hw : HW Z a0) (sh s0 s1 s2 xx nf : Int32) {h0 h : Heap} {T : State} {locs : List Loc} (S : St p l e room_1 s m args below meth co Z x.cls code maxLocals ret x.name h0 [] T h locs 0 0) :
    Go p e below (PostOf Z s h0 [] room_1.cells room_1.slots (fun v h => v = some (.int 1))) T (mkF m 27 #[.val (.int sh), .val (.int s0), .val (.int s1), .val (.int s2), .val (.int xx), .val (.int (1 : Int32)), .val (.int (0 : Int32)), .val (.int nf), .unset, .unset, .unset, .unset, .unset, .unset, .unset, .unset, .unset, .unset] []) := by
  refine Go.new S (wd0 hw) (wd1 hw) (wd2 hw) at_27 (by decide) (by decide) (pc' := 30) rfl ?_
  intro T1 h1 a1 S1 E1 hg1 hz1 hk1 X1 D1
  have F1_excluded : Fld Z h1 a1 "com/example/opas/opas/Ranking" "excluded" "[I" .null := D1 (Or.inl (wd11 hw)) (ty := (.array .int)) (by decide)
  have F1_limit : Fld Z h1 a1 "com/example/opas/opas/Ranking" "limit" "I" (.int (0 : Int32)) := D1 (Or.inr (wd13 hw)) (ty := .int) (by decide)
  have F1_ids : Fld Z h1 a1 "com/example/opas/opas/Ranking" "ids" "[I" .null := D1 (Or.inl (wd19 hw)) (ty := (.array .int)) (by decide)
  have F1_scores : Fld Z h1 a1 "com/example/opas/opas/Ranking" "scores" "[D" .null := D1 (Or.inl (wd22 hw)) (ty := (.array .double)) (by decide)
  have F1_size : Fld Z h1 a1 "com/example/opas/opas/Ranking" "size" "I" (.int (0 : Int32)) := D1 (Or.inl (wd38 hw)) (ty := .int) (by decide)
  refine Go.dup S1 at_30 rfl (pc' := 31) rfl ?_
  refine Go.iload S1 at_31 rfl (pc' := 33) rfl ?_
  have hzo := S1.ext.1
  have hko := S1.keep.1
  refine Go.invokespecial S1 (y := ⟨"com/example/opas/opas/Ranking", "<init>", "(I)V"⟩) (rm_init0 hw a1 S1.ext hz1 X1 F1_excluded F1_limit F1_ids F1_scores F1_size) rfl rfl (wd3 hw) (wd4 hw) (wd2 hw) (wd5 hw) (by decide) at_33 rfl pd4 (argsL := [(.int (0 : Int32))]) rfl rfl rfl (by decide) (W := 1) rfl (by decide) (by decide) (by decide) (allS (Or.inr hk1) all0) (pc' := 36) rfl ?_
  intro v2 T2 h2 L2 S2 K2 q2
  obtain ⟨rfl, xa, ia, sa, kX, kI, kS, Fx, Fl, Fi, Fs, Fn, VX, VI, VS, hki, hks, nri, nrs, nis, nxr, nxi, nxs⟩ := q2
  replace X1 := X1.keep K2
  show Go _ _ _ _ T2 (mkF m 36 #[.val (.int sh), .val (.int s0), .val (.int s1), .val (.int s2), .val (.int xx), .val (.int (1 : Int32)), .val (.int (0 : Int32)), .val (.int nf), .unset, .unset, .unset, .unset, .unset, .unset, .unset, .unset, .unset, .unset] [(.ref a1)])
  have hzi := Nat.le_trans hzo hki
  have hzs := Nat.le_trans hzo hks
  replace hki := Nat.le_trans hko hki
  replace hks := Nat.le_trans hko hks
  refine Go.astore S2 at_36 rfl (Ls' := #[.val (.int sh), .val (.int s0), .val (.int s1), .val (.int s2), .val (.int xx), .val (.int (1 : Int32)), .val (.int (0 : Int32)), .val (.int nf), .val (.ref a1), .unset, .unset, .unset, .unset, .unset, .unset, .unset, .unset, .unset]) rfl (pc' := 38) rfl ?_
  refine Go.iload S2 at_38 rfl (pc' := 40) rfl ?_
  refine Go.if_le S2 at_40 (pt := 51) (by decide) (pc' := 43) rfl ?_ ?_
  · intro c40; exact absurd (by decide) c40
  · intro c40
    refine Go.aload S2 at_43 rfl rfl (pc' := 45) rfl ?_
    refine Go.iconst S2 (v := 0) at_45 rfl (pc' := 46) rfl ?_
    refine Go.iloadN S2 at_46 rfl (pc' := 47) rfl ?_
    refine Go.i2d S2 at_47 (pc' := 48) rfl ?_
    have bq0 := own_bd s0
    have ti0 := own_ti s0
    refine Go.invokevirtual S2 (y := ⟨"com/example/opas/opas/Ranking", "offer", "(ID)V"⟩) (rm_off00 hw a1 (0 : Int32) (s0.toInt64) xa kX ia sa kI kS  S2.ext X1 Fx Fl Fn VX Fi Fs VI VS hzi hzs nri nrs nis hz1 nxr nxi nxs (own_bd s0) ) (wd39 hw) (wd40 hw) (S2.nf (wd42 hw)) (wd42 hw) (wd41 hw) (wd2 hw) (wd43 hw) (by decide) X1 at_48 rfl pd7 (argsL := [(.int (0 : Int32)), (.double (FP.l2d (s0.toInt64)))]) rfl rfl rfl (by decide) (W := 0) rfl (by decide) (by decide) (by decide) all0 (pc' := 51) rfl ?_
    intro v3 T3 h3 L3 S3 K3 q3
    obtain ⟨rfl, rfl⟩ := q3
    show Go _ _ _ _ T3 (mkF m 51 #[.val (.int sh), .val (.int s0), .val (.int s1), .val (.int s2), .val (.int xx), .val (.int (1 : Int32)), .val (.int (0 : Int32)), .val (.int nf), .val (.ref a1), .unset, .unset, .unset, .unset, .unset, .unset, .unset, .unset, .unset] [])
    refine Go.iload S3 at_51 rfl (pc' := 53) rfl ?_
    refine Go.iconst S3 (v := 1) at_53 rfl (pc' := 54) rfl ?_
    refine Go.icmp_le S3 at_54 (pt := 65) (by decide) (pc' := 57) rfl ?_ ?_
    · intro c54
      refine Go.iload S3 at_65 rfl (pc' := 67) rfl ?_
      refine Go.iconst S3 (v := 2) at_67 rfl (pc' := 68) rfl ?_
      refine Go.icmp_le S3 at_68 (pt := 79) (by decide) (pc' := 71) rfl ?_ ?_
      · intro c68
        refine Go.iload S3 at_79 rfl (pc' := 81) rfl ?_
        refine Go.if_le S3 at_81 (pt := 88) (by decide) (pc' := 84) rfl ?_ ?_
        · intro c81; exact absurd (by decide) c81
        · intro c81
          refine Go.iloadN S3 at_84 rfl (pc' := 85) rfl ?_
          refine Go.goto S3 at_85 (pc' := 90) (by decide) ?_
          refine Go.istore S3 at_90 (Ls' := #[.val (.int sh), .val (.int s0), .val (.int s1), .val (.int s2), .val (.int xx), .val (.int (1 : Int32)), .val (.int (0 : Int32)), .val (.int nf), .val (.ref a1), .val (.int s0), .unset, .unset, .unset, .unset, .unset, .unset, .unset, .unset]) rfl (pc' := 92) rfl ?_
          refine Go.iload S3 at_92 rfl (pc' := 94) rfl ?_
          refine Go.iconst S3 (v := 1) at_94 rfl (pc' := 95) rfl ?_
          refine Go.icmp_le S3 at_95 (pt := 102) (by decide) (pc' := 98) rfl ?_ ?_
          · intro c95
            refine Go.ldc S3 (wd23 hw) at_102 (pc' := 104) rfl ?_
            refine Go.istore S3 at_104 (Ls' := #[.val (.int sh), .val (.int s0), .val (.int s1), .val (.int s2), .val (.int xx), .val (.int (1 : Int32)), .val (.int (0 : Int32)), .val (.int nf), .val (.ref a1), .val (.int s0), .val (.int (-2147483648 : Int32)), .unset, .unset, .unset, .unset, .unset, .unset, .unset]) rfl (pc' := 106) rfl ?_
            refine Go.iload S3 at_106 rfl (pc' := 108) rfl ?_
            refine Go.iconst S3 (v := 2) at_108 rfl (pc' := 109) rfl ?_
            refine Go.icmp_le S3 at_109 (pt := 116) (by decide) (pc' := 112) rfl ?_ ?_
            · intro c109
              refine Go.ldc S3 (wd23 hw) at_116 (pc' := 118) rfl ?_
              refine Go.istore S3 at_118 (Ls' := #[.val (.int sh), .val (.int s0), .val (.int s1), .val (.int s2), .val (.int xx), .val (.int (1 : Int32)), .val (.int (0 : Int32)), .val (.int nf), .val (.ref a1), .val (.int s0), .val (.int (-2147483648 : Int32)), .val (.int (-2147483648 : Int32)), .unset, .unset, .unset, .unset, .unset, .unset]) rfl (pc' := 120) rfl ?_
              have hmn : own_min (1 : Int32) (0 : Int32) = (0 : Int32) := by decide
              exact j120 hw sh s0 s1 s2 xx (1 : Int32) (0 : Int32) nf a1 sa s0 (-2147483648 : Int32) (-2147483648 : Int32) 0 (S3.more (by decide) (by decide)) (by decide) X1 Fl Fs (by rw [hmn]; exact Fn) (fun _ z => absurd z (by decide)) (fun _ z => absurd z (by decide))
            · intro c109; exact absurd c109 (by decide)
          · intro c95; exact absurd c95 (by decide)
      · intro c68; exact absurd c68 (by decide)
    · intro c54; exact absurd c54 (by decide)
set_option maxRecDepth 65536 in
set_option maxHeartbeats 4000000 in
theorem own_A02 {p : Program} {l : Launch} {e : Env} {s : State} {m : MethodId} {args : Array Value} {below : List Frame} {meth : Method} {co : Code} {Z : State} {a0 : Array Value} (hw : HW Z a0) (sh s0 s1 s2 xx nf : Int32) {h0 h : Heap} {T : State} {locs : List Loc} (S : St p l e room_1 s m args below meth co Z x.cls code maxLocals ret x.name h0 [] T h locs 0 0) :
    Go p e below (PostOf Z s h0 [] room_1.cells room_1.slots (fun v h => v = some (.int 1))) T (mkF m 27 #[.val (.int sh), .val (.int s0), .val (.int s1), .val (.int s2), .val (.int xx), .val (.int (2 : Int32)), .val (.int (0 : Int32)), .val (.int nf), .unset, .unset, .unset, .unset, .unset, .unset, .unset, .unset, .unset, .unset] []) := by
  refine Go.new S (wd0 hw) (wd1 hw) (wd2 hw) at_27 (by decide) (by decide) (pc' := 30) rfl ?_
  intro T1 h1 a1 S1 E1 hg1 hz1 hk1 X1 D1
  have F1_excluded : Fld Z h1 a1 "com/example/opas/opas/Ranking" "excluded" "[I" .null := D1 (Or.inl (wd11 hw)) (ty := (.array .int)) (by decide)
  have F1_limit : Fld Z h1 a1 "com/example/opas/opas/Ranking" "limit" "I" (.int (0 : Int32)) := D1 (Or.inr (wd13 hw)) (ty := .int) (by decide)
  have F1_ids : Fld Z h1 a1 "com/example/opas/opas/Ranking" "ids" "[I" .null := D1 (Or.inl (wd19 hw)) (ty := (.array .int)) (by decide)
  have F1_scores : Fld Z h1 a1 "com/example/opas/opas/Ranking" "scores" "[D" .null := D1 (Or.inl (wd22 hw)) (ty := (.array .double)) (by decide)
  have F1_size : Fld Z h1 a1 "com/example/opas/opas/Ranking" "size" "I" (.int (0 : Int32)) := D1 (Or.inl (wd38 hw)) (ty := .int) (by decide)
  refine Go.dup S1 at_30 rfl (pc' := 31) rfl ?_
  refine Go.iload S1 at_31 rfl (pc' := 33) rfl ?_
  have hzo := S1.ext.1
  have hko := S1.keep.1
  refine Go.invokespecial S1 (y := ⟨"com/example/opas/opas/Ranking", "<init>", "(I)V"⟩) (rm_init0 hw a1 S1.ext hz1 X1 F1_excluded F1_limit F1_ids F1_scores F1_size) rfl rfl (wd3 hw) (wd4 hw) (wd2 hw) (wd5 hw) (by decide) at_33 rfl pd4 (argsL := [(.int (0 : Int32))]) rfl rfl rfl (by decide) (W := 1) rfl (by decide) (by decide) (by decide) (allS (Or.inr hk1) all0) (pc' := 36) rfl ?_
  intro v2 T2 h2 L2 S2 K2 q2
  obtain ⟨rfl, xa, ia, sa, kX, kI, kS, Fx, Fl, Fi, Fs, Fn, VX, VI, VS, hki, hks, nri, nrs, nis, nxr, nxi, nxs⟩ := q2
  replace X1 := X1.keep K2
  show Go _ _ _ _ T2 (mkF m 36 #[.val (.int sh), .val (.int s0), .val (.int s1), .val (.int s2), .val (.int xx), .val (.int (2 : Int32)), .val (.int (0 : Int32)), .val (.int nf), .unset, .unset, .unset, .unset, .unset, .unset, .unset, .unset, .unset, .unset] [(.ref a1)])
  have hzi := Nat.le_trans hzo hki
  have hzs := Nat.le_trans hzo hks
  replace hki := Nat.le_trans hko hki
  replace hks := Nat.le_trans hko hks
  refine Go.astore S2 at_36 rfl (Ls' := #[.val (.int sh), .val (.int s0), .val (.int s1), .val (.int s2), .val (.int xx), .val (.int (2 : Int32)), .val (.int (0 : Int32)), .val (.int nf), .val (.ref a1), .unset, .unset, .unset, .unset, .unset, .unset, .unset, .unset, .unset]) rfl (pc' := 38) rfl ?_
  refine Go.iload S2 at_38 rfl (pc' := 40) rfl ?_
  refine Go.if_le S2 at_40 (pt := 51) (by decide) (pc' := 43) rfl ?_ ?_
  · intro c40; exact absurd (by decide) c40
  · intro c40
    refine Go.aload S2 at_43 rfl rfl (pc' := 45) rfl ?_
    refine Go.iconst S2 (v := 0) at_45 rfl (pc' := 46) rfl ?_
    refine Go.iloadN S2 at_46 rfl (pc' := 47) rfl ?_
    refine Go.i2d S2 at_47 (pc' := 48) rfl ?_
    have bq0 := own_bd s0
    have ti0 := own_ti s0
    refine Go.invokevirtual S2 (y := ⟨"com/example/opas/opas/Ranking", "offer", "(ID)V"⟩) (rm_off00 hw a1 (0 : Int32) (s0.toInt64) xa kX ia sa kI kS  S2.ext X1 Fx Fl Fn VX Fi Fs VI VS hzi hzs nri nrs nis hz1 nxr nxi nxs (own_bd s0) ) (wd39 hw) (wd40 hw) (S2.nf (wd42 hw)) (wd42 hw) (wd41 hw) (wd2 hw) (wd43 hw) (by decide) X1 at_48 rfl pd7 (argsL := [(.int (0 : Int32)), (.double (FP.l2d (s0.toInt64)))]) rfl rfl rfl (by decide) (W := 0) rfl (by decide) (by decide) (by decide) all0 (pc' := 51) rfl ?_
    intro v3 T3 h3 L3 S3 K3 q3
    obtain ⟨rfl, rfl⟩ := q3
    show Go _ _ _ _ T3 (mkF m 51 #[.val (.int sh), .val (.int s0), .val (.int s1), .val (.int s2), .val (.int xx), .val (.int (2 : Int32)), .val (.int (0 : Int32)), .val (.int nf), .val (.ref a1), .unset, .unset, .unset, .unset, .unset, .unset, .unset, .unset, .unset] [])
    refine Go.iload S3 at_51 rfl (pc' := 53) rfl ?_
    refine Go.iconst S3 (v := 1) at_53 rfl (pc' := 54) rfl ?_
    refine Go.icmp_le S3 at_54 (pt := 65) (by decide) (pc' := 57) rfl ?_ ?_
    · intro c54; exact absurd (by decide) c54
    · intro c54
      refine Go.aload S3 at_57 rfl rfl (pc' := 59) rfl ?_
      refine Go.iconst S3 (v := 1) at_59 rfl (pc' := 60) rfl ?_
      refine Go.iloadN S3 at_60 rfl (pc' := 61) rfl ?_
      refine Go.i2d S3 at_61 (pc' := 62) rfl ?_
      have bq1 := own_bd s1
      have ti1 := own_ti s1
      refine Go.invokevirtual S3 (y := ⟨"com/example/opas/opas/Ranking", "offer", "(ID)V"⟩) (rm_off00 hw a1 (1 : Int32) (s1.toInt64) xa kX ia sa kI kS  S3.ext X1 Fx Fl Fn VX Fi Fs VI VS hzi hzs nri nrs nis hz1 nxr nxi nxs (own_bd s1) ) (wd39 hw) (wd40 hw) (S3.nf (wd42 hw)) (wd42 hw) (wd41 hw) (wd2 hw) (wd43 hw) (by decide) X1 at_62 rfl pd7 (argsL := [(.int (1 : Int32)), (.double (FP.l2d (s1.toInt64)))]) rfl rfl rfl (by decide) (W := 0) rfl (by decide) (by decide) (by decide) all0 (pc' := 65) rfl ?_
      intro v4 T4 h4 L4 S4 K4 q4
      obtain ⟨rfl, rfl⟩ := q4
      show Go _ _ _ _ T4 (mkF m 65 #[.val (.int sh), .val (.int s0), .val (.int s1), .val (.int s2), .val (.int xx), .val (.int (2 : Int32)), .val (.int (0 : Int32)), .val (.int nf), .val (.ref a1), .unset, .unset, .unset, .unset, .unset, .unset, .unset, .unset, .unset] [])
      refine Go.iload S4 at_65 rfl (pc' := 67) rfl ?_
      refine Go.iconst S4 (v := 2) at_67 rfl (pc' := 68) rfl ?_
      refine Go.icmp_le S4 at_68 (pt := 79) (by decide) (pc' := 71) rfl ?_ ?_
      · intro c68
        refine Go.iload S4 at_79 rfl (pc' := 81) rfl ?_
        refine Go.if_le S4 at_81 (pt := 88) (by decide) (pc' := 84) rfl ?_ ?_
        · intro c81; exact absurd (by decide) c81
        · intro c81
          refine Go.iloadN S4 at_84 rfl (pc' := 85) rfl ?_
          refine Go.goto S4 at_85 (pc' := 90) (by decide) ?_
          refine Go.istore S4 at_90 (Ls' := #[.val (.int sh), .val (.int s0), .val (.int s1), .val (.int s2), .val (.int xx), .val (.int (2 : Int32)), .val (.int (0 : Int32)), .val (.int nf), .val (.ref a1), .val (.int s0), .unset, .unset, .unset, .unset, .unset, .unset, .unset, .unset]) rfl (pc' := 92) rfl ?_
          refine Go.iload S4 at_92 rfl (pc' := 94) rfl ?_
          refine Go.iconst S4 (v := 1) at_94 rfl (pc' := 95) rfl ?_
          refine Go.icmp_le S4 at_95 (pt := 102) (by decide) (pc' := 98) rfl ?_ ?_
          · intro c95; exact absurd (by decide) c95
          · intro c95
            refine Go.iloadN S4 at_98 rfl (pc' := 99) rfl ?_
            refine Go.goto S4 at_99 (pc' := 104) (by decide) ?_
            refine Go.istore S4 at_104 (Ls' := #[.val (.int sh), .val (.int s0), .val (.int s1), .val (.int s2), .val (.int xx), .val (.int (2 : Int32)), .val (.int (0 : Int32)), .val (.int nf), .val (.ref a1), .val (.int s0), .val (.int s1), .unset, .unset, .unset, .unset, .unset, .unset, .unset]) rfl (pc' := 106) rfl ?_
            refine Go.iload S4 at_106 rfl (pc' := 108) rfl ?_
            refine Go.iconst S4 (v := 2) at_108 rfl (pc' := 109) rfl ?_
            refine Go.icmp_le S4 at_109 (pt := 116) (by decide) (pc' := 112) rfl ?_ ?_
            · intro c109
              refine Go.ldc S4 (wd23 hw) at_116 (pc' := 118) rfl ?_
              refine Go.istore S4 at_118 (Ls' := #[.val (.int sh), .val (.int s0), .val (.int s1), .val (.int s2), .val (.int xx), .val (.int (2 : Int32)), .val (.int (0 : Int32)), .val (.int nf), .val (.ref a1), .val (.int s0), .val (.int s1), .val (.int (-2147483648 : Int32)), .unset, .unset, .unset, .unset, .unset, .unset]) rfl (pc' := 120) rfl ?_
              have hmn : own_min (2 : Int32) (0 : Int32) = (0 : Int32) := by decide
              exact j120 hw sh s0 s1 s2 xx (2 : Int32) (0 : Int32) nf a1 sa s0 s1 (-2147483648 : Int32) 0 (S4.more (by decide) (by decide)) (by decide) X1 Fl Fs (by rw [hmn]; exact Fn) (fun _ z => absurd z (by decide)) (fun _ z => absurd z (by decide))
            · intro c109; exact absurd c109 (by decide)
      · intro c68; exact absurd c68 (by decide)
set_option maxRecDepth 65536 in
set_option maxHeartbeats 4000000 in
theorem own_A03 {p : Program} {l : Launch} {e : Env} {s : State} {m : MethodId} {args : Array Value} {below : List Frame} {meth : Method} {co : Code} {Z : State} {a0 : Array Value} (hw : HW Z a0) (sh s0 s1 s2 xx nf : Int32) {h0 h : Heap} {T : State} {locs : List Loc} (S : St p l e room_1 s m args below meth co Z x.cls code maxLocals ret x.name h0 [] T h locs 0 0) :
    Go p e below (PostOf Z s h0 [] room_1.cells room_1.slots (fun v h => v = some (.int 1))) T (mkF m 27 #[.val (.int sh), .val (.int s0), .val (.int s1), .val (.int s2), .val (.int xx), .val (.int (3 : Int32)), .val (.int (0 : Int32)), .val (.int nf), .unset, .unset, .unset, .unset, .unset, .unset, .unset, .unset, .unset, .unset] []) := by
  refine Go.new S (wd0 hw) (wd1 hw) (wd2 hw) at_27 (by decide) (by decide) (pc' := 30) rfl ?_
  intro T1 h1 a1 S1 E1 hg1 hz1 hk1 X1 D1
  have F1_excluded : Fld Z h1 a1 "com/example/opas/opas/Ranking" "excluded" "[I" .null := D1 (Or.inl (wd11 hw)) (ty := (.array .int)) (by decide)
  have F1_limit : Fld Z h1 a1 "com/example/opas/opas/Ranking" "limit" "I" (.int (0 : Int32)) := D1 (Or.inr (wd13 hw)) (ty := .int) (by decide)
  have F1_ids : Fld Z h1 a1 "com/example/opas/opas/Ranking" "ids" "[I" .null := D1 (Or.inl (wd19 hw)) (ty := (.array .int)) (by decide)
  have F1_scores : Fld Z h1 a1 "com/example/opas/opas/Ranking" "scores" "[D" .null := D1 (Or.inl (wd22 hw)) (ty := (.array .double)) (by decide)
  have F1_size : Fld Z h1 a1 "com/example/opas/opas/Ranking" "size" "I" (.int (0 : Int32)) := D1 (Or.inl (wd38 hw)) (ty := .int) (by decide)
  refine Go.dup S1 at_30 rfl (pc' := 31) rfl ?_
  refine Go.iload S1 at_31 rfl (pc' := 33) rfl ?_
  have hzo := S1.ext.1
  have hko := S1.keep.1
  refine Go.invokespecial S1 (y := ⟨"com/example/opas/opas/Ranking", "<init>", "(I)V"⟩) (rm_init0 hw a1 S1.ext hz1 X1 F1_excluded F1_limit F1_ids F1_scores F1_size) rfl rfl (wd3 hw) (wd4 hw) (wd2 hw) (wd5 hw) (by decide) at_33 rfl pd4 (argsL := [(.int (0 : Int32))]) rfl rfl rfl (by decide) (W := 1) rfl (by decide) (by decide) (by decide) (allS (Or.inr hk1) all0) (pc' := 36) rfl ?_
  intro v2 T2 h2 L2 S2 K2 q2
  obtain ⟨rfl, xa, ia, sa, kX, kI, kS, Fx, Fl, Fi, Fs, Fn, VX, VI, VS, hki, hks, nri, nrs, nis, nxr, nxi, nxs⟩ := q2
  replace X1 := X1.keep K2
  show Go _ _ _ _ T2 (mkF m 36 #[.val (.int sh), .val (.int s0), .val (.int s1), .val (.int s2), .val (.int xx), .val (.int (3 : Int32)), .val (.int (0 : Int32)), .val (.int nf), .unset, .unset, .unset, .unset, .unset, .unset, .unset, .unset, .unset, .unset] [(.ref a1)])
  have hzi := Nat.le_trans hzo hki
  have hzs := Nat.le_trans hzo hks
  replace hki := Nat.le_trans hko hki
  replace hks := Nat.le_trans hko hks
  refine Go.astore S2 at_36 rfl (Ls' := #[.val (.int sh), .val (.int s0), .val (.int s1), .val (.int s2), .val (.int xx), .val (.int (3 : Int32)), .val (.int (0 : Int32)), .val (.int nf), .val (.ref a1), .unset, .unset, .unset, .unset, .unset, .unset, .unset, .unset, .unset]) rfl (pc' := 38) rfl ?_
  refine Go.iload S2 at_38 rfl (pc' := 40) rfl ?_
  refine Go.if_le S2 at_40 (pt := 51) (by decide) (pc' := 43) rfl ?_ ?_
  · intro c40; exact absurd (by decide) c40
  · intro c40
    refine Go.aload S2 at_43 rfl rfl (pc' := 45) rfl ?_
    refine Go.iconst S2 (v := 0) at_45 rfl (pc' := 46) rfl ?_
    refine Go.iloadN S2 at_46 rfl (pc' := 47) rfl ?_
    refine Go.i2d S2 at_47 (pc' := 48) rfl ?_
    have bq0 := own_bd s0
    have ti0 := own_ti s0
    refine Go.invokevirtual S2 (y := ⟨"com/example/opas/opas/Ranking", "offer", "(ID)V"⟩) (rm_off00 hw a1 (0 : Int32) (s0.toInt64) xa kX ia sa kI kS  S2.ext X1 Fx Fl Fn VX Fi Fs VI VS hzi hzs nri nrs nis hz1 nxr nxi nxs (own_bd s0) ) (wd39 hw) (wd40 hw) (S2.nf (wd42 hw)) (wd42 hw) (wd41 hw) (wd2 hw) (wd43 hw) (by decide) X1 at_48 rfl pd7 (argsL := [(.int (0 : Int32)), (.double (FP.l2d (s0.toInt64)))]) rfl rfl rfl (by decide) (W := 0) rfl (by decide) (by decide) (by decide) all0 (pc' := 51) rfl ?_
    intro v3 T3 h3 L3 S3 K3 q3
    obtain ⟨rfl, rfl⟩ := q3
    show Go _ _ _ _ T3 (mkF m 51 #[.val (.int sh), .val (.int s0), .val (.int s1), .val (.int s2), .val (.int xx), .val (.int (3 : Int32)), .val (.int (0 : Int32)), .val (.int nf), .val (.ref a1), .unset, .unset, .unset, .unset, .unset, .unset, .unset, .unset, .unset] [])
    refine Go.iload S3 at_51 rfl (pc' := 53) rfl ?_
    refine Go.iconst S3 (v := 1) at_53 rfl (pc' := 54) rfl ?_
    refine Go.icmp_le S3 at_54 (pt := 65) (by decide) (pc' := 57) rfl ?_ ?_
    · intro c54; exact absurd (by decide) c54
    · intro c54
      refine Go.aload S3 at_57 rfl rfl (pc' := 59) rfl ?_
      refine Go.iconst S3 (v := 1) at_59 rfl (pc' := 60) rfl ?_
      refine Go.iloadN S3 at_60 rfl (pc' := 61) rfl ?_
      refine Go.i2d S3 at_61 (pc' := 62) rfl ?_
      have bq1 := own_bd s1
      have ti1 := own_ti s1
      refine Go.invokevirtual S3 (y := ⟨"com/example/opas/opas/Ranking", "offer", "(ID)V"⟩) (rm_off00 hw a1 (1 : Int32) (s1.toInt64) xa kX ia sa kI kS  S3.ext X1 Fx Fl Fn VX Fi Fs VI VS hzi hzs nri nrs nis hz1 nxr nxi nxs (own_bd s1) ) (wd39 hw) (wd40 hw) (S3.nf (wd42 hw)) (wd42 hw) (wd41 hw) (wd2 hw) (wd43 hw) (by decide) X1 at_62 rfl pd7 (argsL := [(.int (1 : Int32)), (.double (FP.l2d (s1.toInt64)))]) rfl rfl rfl (by decide) (W := 0) rfl (by decide) (by decide) (by decide) all0 (pc' := 65) rfl ?_
      intro v4 T4 h4 L4 S4 K4 q4
      obtain ⟨rfl, rfl⟩ := q4
      show Go _ _ _ _ T4 (mkF m 65 #[.val (.int sh), .val (.int s0), .val (.int s1), .val (.int s2), .val (.int xx), .val (.int (3 : Int32)), .val (.int (0 : Int32)), .val (.int nf), .val (.ref a1), .unset, .unset, .unset, .unset, .unset, .unset, .unset, .unset, .unset] [])
      refine Go.iload S4 at_65 rfl (pc' := 67) rfl ?_
      refine Go.iconst S4 (v := 2) at_67 rfl (pc' := 68) rfl ?_
      refine Go.icmp_le S4 at_68 (pt := 79) (by decide) (pc' := 71) rfl ?_ ?_
      · intro c68; exact absurd (by decide) c68
      · intro c68
        refine Go.aload S4 at_71 rfl rfl (pc' := 73) rfl ?_
        refine Go.iconst S4 (v := 2) at_73 rfl (pc' := 74) rfl ?_
        refine Go.iloadN S4 at_74 rfl (pc' := 75) rfl ?_
        refine Go.i2d S4 at_75 (pc' := 76) rfl ?_
        have bq2 := own_bd s2
        have ti2 := own_ti s2
        refine Go.invokevirtual S4 (y := ⟨"com/example/opas/opas/Ranking", "offer", "(ID)V"⟩) (rm_off00 hw a1 (2 : Int32) (s2.toInt64) xa kX ia sa kI kS  S4.ext X1 Fx Fl Fn VX Fi Fs VI VS hzi hzs nri nrs nis hz1 nxr nxi nxs (own_bd s2) ) (wd39 hw) (wd40 hw) (S4.nf (wd42 hw)) (wd42 hw) (wd41 hw) (wd2 hw) (wd43 hw) (by decide) X1 at_76 rfl pd7 (argsL := [(.int (2 : Int32)), (.double (FP.l2d (s2.toInt64)))]) rfl rfl rfl (by decide) (W := 0) rfl (by decide) (by decide) (by decide) all0 (pc' := 79) rfl ?_
        intro v5 T5 h5 L5 S5 K5 q5
        obtain ⟨rfl, rfl⟩ := q5
        show Go _ _ _ _ T5 (mkF m 79 #[.val (.int sh), .val (.int s0), .val (.int s1), .val (.int s2), .val (.int xx), .val (.int (3 : Int32)), .val (.int (0 : Int32)), .val (.int nf), .val (.ref a1), .unset, .unset, .unset, .unset, .unset, .unset, .unset, .unset, .unset] [])
        refine Go.iload S5 at_79 rfl (pc' := 81) rfl ?_
        refine Go.if_le S5 at_81 (pt := 88) (by decide) (pc' := 84) rfl ?_ ?_
        · intro c81; exact absurd (by decide) c81
        · intro c81
          refine Go.iloadN S5 at_84 rfl (pc' := 85) rfl ?_
          refine Go.goto S5 at_85 (pc' := 90) (by decide) ?_
          refine Go.istore S5 at_90 (Ls' := #[.val (.int sh), .val (.int s0), .val (.int s1), .val (.int s2), .val (.int xx), .val (.int (3 : Int32)), .val (.int (0 : Int32)), .val (.int nf), .val (.ref a1), .val (.int s0), .unset, .unset, .unset, .unset, .unset, .unset, .unset, .unset]) rfl (pc' := 92) rfl ?_
          refine Go.iload S5 at_92 rfl (pc' := 94) rfl ?_
          refine Go.iconst S5 (v := 1) at_94 rfl (pc' := 95) rfl ?_
          refine Go.icmp_le S5 at_95 (pt := 102) (by decide) (pc' := 98) rfl ?_ ?_
          · intro c95; exact absurd (by decide) c95
          · intro c95
            refine Go.iloadN S5 at_98 rfl (pc' := 99) rfl ?_
            refine Go.goto S5 at_99 (pc' := 104) (by decide) ?_
            refine Go.istore S5 at_104 (Ls' := #[.val (.int sh), .val (.int s0), .val (.int s1), .val (.int s2), .val (.int xx), .val (.int (3 : Int32)), .val (.int (0 : Int32)), .val (.int nf), .val (.ref a1), .val (.int s0), .val (.int s1), .unset, .unset, .unset, .unset, .unset, .unset, .unset]) rfl (pc' := 106) rfl ?_
            refine Go.iload S5 at_106 rfl (pc' := 108) rfl ?_
            refine Go.iconst S5 (v := 2) at_108 rfl (pc' := 109) rfl ?_
            refine Go.icmp_le S5 at_109 (pt := 116) (by decide) (pc' := 112) rfl ?_ ?_
            · intro c109; exact absurd (by decide) c109
            · intro c109
              refine Go.iloadN S5 at_112 rfl (pc' := 113) rfl ?_
              refine Go.goto S5 at_113 (pc' := 118) (by decide) ?_
              refine Go.istore S5 at_118 (Ls' := #[.val (.int sh), .val (.int s0), .val (.int s1), .val (.int s2), .val (.int xx), .val (.int (3 : Int32)), .val (.int (0 : Int32)), .val (.int nf), .val (.ref a1), .val (.int s0), .val (.int s1), .val (.int s2), .unset, .unset, .unset, .unset, .unset, .unset]) rfl (pc' := 120) rfl ?_
              have hmn : own_min (3 : Int32) (0 : Int32) = (0 : Int32) := by decide
              exact j120 hw sh s0 s1 s2 xx (3 : Int32) (0 : Int32) nf a1 sa s0 s1 s2 0 (S5.more (by decide) (by decide)) (by decide) X1 Fl Fs (by rw [hmn]; exact Fn) (fun _ z => absurd z (by decide)) (fun _ z => absurd z (by decide))
set_option maxRecDepth 65536 in
set_option maxHeartbeats 4000000 in
theorem own_A10 {p : Program} {l : Launch} {e : Env} {s : State} {m : MethodId} {args : Array Value} {below : List Frame} {meth : Method} {co : Code} {Z : State} {a0 : Array Value} (hw : HW Z a0) (sh s0 s1 s2 xx nf : Int32) {h0 h : Heap} {T : State} {locs : List Loc} (S : St p l e room_1 s m args below meth co Z x.cls code maxLocals ret x.name h0 [] T h locs 0 0) :
    Go p e below (PostOf Z s h0 [] room_1.cells room_1.slots (fun v h => v = some (.int 1))) T (mkF m 27 #[.val (.int sh), .val (.int s0), .val (.int s1), .val (.int s2), .val (.int xx), .val (.int (0 : Int32)), .val (.int (1 : Int32)), .val (.int nf), .unset, .unset, .unset, .unset, .unset, .unset, .unset, .unset, .unset, .unset] []) := by
  refine Go.new S (wd0 hw) (wd1 hw) (wd2 hw) at_27 (by decide) (by decide) (pc' := 30) rfl ?_
  intro T1 h1 a1 S1 E1 hg1 hz1 hk1 X1 D1
  have F1_excluded : Fld Z h1 a1 "com/example/opas/opas/Ranking" "excluded" "[I" .null := D1 (Or.inl (wd11 hw)) (ty := (.array .int)) (by decide)
  have F1_limit : Fld Z h1 a1 "com/example/opas/opas/Ranking" "limit" "I" (.int (0 : Int32)) := D1 (Or.inr (wd13 hw)) (ty := .int) (by decide)
  have F1_ids : Fld Z h1 a1 "com/example/opas/opas/Ranking" "ids" "[I" .null := D1 (Or.inl (wd19 hw)) (ty := (.array .int)) (by decide)
  have F1_scores : Fld Z h1 a1 "com/example/opas/opas/Ranking" "scores" "[D" .null := D1 (Or.inl (wd22 hw)) (ty := (.array .double)) (by decide)
  have F1_size : Fld Z h1 a1 "com/example/opas/opas/Ranking" "size" "I" (.int (0 : Int32)) := D1 (Or.inl (wd38 hw)) (ty := .int) (by decide)
  refine Go.dup S1 at_30 rfl (pc' := 31) rfl ?_
  refine Go.iload S1 at_31 rfl (pc' := 33) rfl ?_
  have hzo := S1.ext.1
  have hko := S1.keep.1
  refine Go.invokespecial S1 (y := ⟨"com/example/opas/opas/Ranking", "<init>", "(I)V"⟩) (rm_init1 hw a1 S1.ext hz1 X1 F1_excluded F1_limit F1_ids F1_scores F1_size) rfl rfl (wd3 hw) (wd4 hw) (wd2 hw) (wd5 hw) (by decide) at_33 rfl pd4 (argsL := [(.int (1 : Int32))]) rfl rfl rfl (by decide) (W := 1) rfl (by decide) (by decide) (by decide) (allS (Or.inr hk1) all0) (pc' := 36) rfl ?_
  intro v2 T2 h2 L2 S2 K2 q2
  obtain ⟨rfl, xa, ia, sa, kX, kI, kS, Fx, Fl, Fi, Fs, Fn, VX, VI, VS, hki, hks, nri, nrs, nis, nxr, nxi, nxs⟩ := q2
  replace X1 := X1.keep K2
  show Go _ _ _ _ T2 (mkF m 36 #[.val (.int sh), .val (.int s0), .val (.int s1), .val (.int s2), .val (.int xx), .val (.int (0 : Int32)), .val (.int (1 : Int32)), .val (.int nf), .unset, .unset, .unset, .unset, .unset, .unset, .unset, .unset, .unset, .unset] [(.ref a1)])
  have hzi := Nat.le_trans hzo hki
  have hzs := Nat.le_trans hzo hks
  replace hki := Nat.le_trans hko hki
  replace hks := Nat.le_trans hko hks
  refine Go.astore S2 at_36 rfl (Ls' := #[.val (.int sh), .val (.int s0), .val (.int s1), .val (.int s2), .val (.int xx), .val (.int (0 : Int32)), .val (.int (1 : Int32)), .val (.int nf), .val (.ref a1), .unset, .unset, .unset, .unset, .unset, .unset, .unset, .unset, .unset]) rfl (pc' := 38) rfl ?_
  refine Go.iload S2 at_38 rfl (pc' := 40) rfl ?_
  refine Go.if_le S2 at_40 (pt := 51) (by decide) (pc' := 43) rfl ?_ ?_
  · intro c40
    refine Go.iload S2 at_51 rfl (pc' := 53) rfl ?_
    refine Go.iconst S2 (v := 1) at_53 rfl (pc' := 54) rfl ?_
    refine Go.icmp_le S2 at_54 (pt := 65) (by decide) (pc' := 57) rfl ?_ ?_
    · intro c54
      refine Go.iload S2 at_65 rfl (pc' := 67) rfl ?_
      refine Go.iconst S2 (v := 2) at_67 rfl (pc' := 68) rfl ?_
      refine Go.icmp_le S2 at_68 (pt := 79) (by decide) (pc' := 71) rfl ?_ ?_
      · intro c68
        refine Go.iload S2 at_79 rfl (pc' := 81) rfl ?_
        refine Go.if_le S2 at_81 (pt := 88) (by decide) (pc' := 84) rfl ?_ ?_
        · intro c81
          refine Go.ldc S2 (wd23 hw) at_88 (pc' := 90) rfl ?_
          refine Go.istore S2 at_90 (Ls' := #[.val (.int sh), .val (.int s0), .val (.int s1), .val (.int s2), .val (.int xx), .val (.int (0 : Int32)), .val (.int (1 : Int32)), .val (.int nf), .val (.ref a1), .val (.int (-2147483648 : Int32)), .unset, .unset, .unset, .unset, .unset, .unset, .unset, .unset]) rfl (pc' := 92) rfl ?_
          refine Go.iload S2 at_92 rfl (pc' := 94) rfl ?_
          refine Go.iconst S2 (v := 1) at_94 rfl (pc' := 95) rfl ?_
          refine Go.icmp_le S2 at_95 (pt := 102) (by decide) (pc' := 98) rfl ?_ ?_
          · intro c95
            refine Go.ldc S2 (wd23 hw) at_102 (pc' := 104) rfl ?_
            refine Go.istore S2 at_104 (Ls' := #[.val (.int sh), .val (.int s0), .val (.int s1), .val (.int s2), .val (.int xx), .val (.int (0 : Int32)), .val (.int (1 : Int32)), .val (.int nf), .val (.ref a1), .val (.int (-2147483648 : Int32)), .val (.int (-2147483648 : Int32)), .unset, .unset, .unset, .unset, .unset, .unset, .unset]) rfl (pc' := 106) rfl ?_
            refine Go.iload S2 at_106 rfl (pc' := 108) rfl ?_
            refine Go.iconst S2 (v := 2) at_108 rfl (pc' := 109) rfl ?_
            refine Go.icmp_le S2 at_109 (pt := 116) (by decide) (pc' := 112) rfl ?_ ?_
            · intro c109
              refine Go.ldc S2 (wd23 hw) at_116 (pc' := 118) rfl ?_
              refine Go.istore S2 at_118 (Ls' := #[.val (.int sh), .val (.int s0), .val (.int s1), .val (.int s2), .val (.int xx), .val (.int (0 : Int32)), .val (.int (1 : Int32)), .val (.int nf), .val (.ref a1), .val (.int (-2147483648 : Int32)), .val (.int (-2147483648 : Int32)), .val (.int (-2147483648 : Int32)), .unset, .unset, .unset, .unset, .unset, .unset]) rfl (pc' := 120) rfl ?_
              have hmn : own_min (0 : Int32) (1 : Int32) = (0 : Int32) := by decide
              exact j120 hw sh s0 s1 s2 xx (0 : Int32) (1 : Int32) nf a1 sa (-2147483648 : Int32) (-2147483648 : Int32) (-2147483648 : Int32) 0 (S2.more (by decide) (by decide)) (by decide) X1 Fl Fs (by rw [hmn]; exact Fn) (fun z _ => absurd (by decide) z) (fun z _ => absurd (by decide) z)
            · intro c109; exact absurd c109 (by decide)
          · intro c95; exact absurd c95 (by decide)
        · intro c81; exact absurd c81 (by decide)
      · intro c68; exact absurd c68 (by decide)
    · intro c54; exact absurd c54 (by decide)
  · intro c40; exact absurd c40 (by decide)
set_option maxRecDepth 65536 in
set_option maxHeartbeats 4000000 in
theorem own_A11 {p : Program} {l : Launch} {e : Env} {s : State} {m : MethodId} {args : Array Value} {below : List Frame} {meth : Method} {co : Code} {Z : State} {a0 : Array Value} (hw : HW Z a0) (sh s0 s1 s2 xx nf : Int32) {h0 h : Heap} {T : State} {locs : List Loc} (S : St p l e room_1 s m args below meth co Z x.cls code maxLocals ret x.name h0 [] T h locs 0 0) :
    Go p e below (PostOf Z s h0 [] room_1.cells room_1.slots (fun v h => v = some (.int 1))) T (mkF m 27 #[.val (.int sh), .val (.int s0), .val (.int s1), .val (.int s2), .val (.int xx), .val (.int (1 : Int32)), .val (.int (1 : Int32)), .val (.int nf), .unset, .unset, .unset, .unset, .unset, .unset, .unset, .unset, .unset, .unset] []) := by
  refine Go.new S (wd0 hw) (wd1 hw) (wd2 hw) at_27 (by decide) (by decide) (pc' := 30) rfl ?_
  intro T1 h1 a1 S1 E1 hg1 hz1 hk1 X1 D1
  have F1_excluded : Fld Z h1 a1 "com/example/opas/opas/Ranking" "excluded" "[I" .null := D1 (Or.inl (wd11 hw)) (ty := (.array .int)) (by decide)
  have F1_limit : Fld Z h1 a1 "com/example/opas/opas/Ranking" "limit" "I" (.int (0 : Int32)) := D1 (Or.inr (wd13 hw)) (ty := .int) (by decide)
  have F1_ids : Fld Z h1 a1 "com/example/opas/opas/Ranking" "ids" "[I" .null := D1 (Or.inl (wd19 hw)) (ty := (.array .int)) (by decide)
  have F1_scores : Fld Z h1 a1 "com/example/opas/opas/Ranking" "scores" "[D" .null := D1 (Or.inl (wd22 hw)) (ty := (.array .double)) (by decide)
  have F1_size : Fld Z h1 a1 "com/example/opas/opas/Ranking" "size" "I" (.int (0 : Int32)) := D1 (Or.inl (wd38 hw)) (ty := .int) (by decide)
  refine Go.dup S1 at_30 rfl (pc' := 31) rfl ?_
  refine Go.iload S1 at_31 rfl (pc' := 33) rfl ?_
  have hzo := S1.ext.1
  have hko := S1.keep.1
  refine Go.invokespecial S1 (y := ⟨"com/example/opas/opas/Ranking", "<init>", "(I)V"⟩) (rm_init1 hw a1 S1.ext hz1 X1 F1_excluded F1_limit F1_ids F1_scores F1_size) rfl rfl (wd3 hw) (wd4 hw) (wd2 hw) (wd5 hw) (by decide) at_33 rfl pd4 (argsL := [(.int (1 : Int32))]) rfl rfl rfl (by decide) (W := 1) rfl (by decide) (by decide) (by decide) (allS (Or.inr hk1) all0) (pc' := 36) rfl ?_
  intro v2 T2 h2 L2 S2 K2 q2
  obtain ⟨rfl, xa, ia, sa, kX, kI, kS, Fx, Fl, Fi, Fs, Fn, VX, VI, VS, hki, hks, nri, nrs, nis, nxr, nxi, nxs⟩ := q2
  replace X1 := X1.keep K2
  show Go _ _ _ _ T2 (mkF m 36 #[.val (.int sh), .val (.int s0), .val (.int s1), .val (.int s2), .val (.int xx), .val (.int (1 : Int32)), .val (.int (1 : Int32)), .val (.int nf), .unset, .unset, .unset, .unset, .unset, .unset, .unset, .unset, .unset, .unset] [(.ref a1)])
  have hzi := Nat.le_trans hzo hki
  have hzs := Nat.le_trans hzo hks
  replace hki := Nat.le_trans hko hki
  replace hks := Nat.le_trans hko hks
  refine Go.astore S2 at_36 rfl (Ls' := #[.val (.int sh), .val (.int s0), .val (.int s1), .val (.int s2), .val (.int xx), .val (.int (1 : Int32)), .val (.int (1 : Int32)), .val (.int nf), .val (.ref a1), .unset, .unset, .unset, .unset, .unset, .unset, .unset, .unset, .unset]) rfl (pc' := 38) rfl ?_
  refine Go.iload S2 at_38 rfl (pc' := 40) rfl ?_
  refine Go.if_le S2 at_40 (pt := 51) (by decide) (pc' := 43) rfl ?_ ?_
  · intro c40; exact absurd (by decide) c40
  · intro c40
    refine Go.aload S2 at_43 rfl rfl (pc' := 45) rfl ?_
    refine Go.iconst S2 (v := 0) at_45 rfl (pc' := 46) rfl ?_
    refine Go.iloadN S2 at_46 rfl (pc' := 47) rfl ?_
    refine Go.i2d S2 at_47 (pc' := 48) rfl ?_
    have bq0 := own_bd s0
    have ti0 := own_ti s0
    refine Go.invokevirtual S2 (y := ⟨"com/example/opas/opas/Ranking", "offer", "(ID)V"⟩) (rm_off10 hw a1 (0 : Int32) (s0.toInt64) xa kX ia sa kI kS 0 0 S2.ext X1 Fx Fl Fn VX Fi Fs VI VS hzi hzs nri nrs nis hz1 nxr nxi nxs (own_bd s0) ) (wd39 hw) (wd40 hw) (S2.nf (wd42 hw)) (wd42 hw) (wd41 hw) (wd2 hw) (wd43 hw) (by decide) X1 at_48 rfl pd7 (argsL := [(.int (0 : Int32)), (.double (FP.l2d (s0.toInt64)))]) rfl rfl rfl (by decide) (W := 0) rfl (by decide) (by decide) (by decide) (allS (Or.inr hk1) (allS (Or.inr hki) (allS (Or.inr hks) all0))) (pc' := 51) rfl ?_
    intro v3 T3 h3 L3 S3 K3 q3
    obtain ⟨rfl, Fx3, Fl3, Fi3, Fs3, Fn3, e0_0, f0_0, VI3, VS3, hP0⟩ := q3
    replace X1 := X1.keep K3
    replace VX := VX.keep K3 (ninS nxr (ninS nxi (ninS nxs nin0)))
    show Go _ _ _ _ T3 (mkF m 51 #[.val (.int sh), .val (.int s0), .val (.int s1), .val (.int s2), .val (.int xx), .val (.int (1 : Int32)), .val (.int (1 : Int32)), .val (.int nf), .val (.ref a1), .unset, .unset, .unset, .unset, .unset, .unset, .unset, .unset, .unset] [])
    have bd0_0 : (-2147483648 ≤ f0_0.toInt ∧ f0_0.toInt ≤ 2147483647) := by omega
    refine Go.iload S3 at_51 rfl (pc' := 53) rfl ?_
    refine Go.iconst S3 (v := 1) at_53 rfl (pc' := 54) rfl ?_
    refine Go.icmp_le S3 at_54 (pt := 65) (by decide) (pc' := 57) rfl ?_ ?_
    · intro c54
      refine Go.iload S3 at_65 rfl (pc' := 67) rfl ?_
      refine Go.iconst S3 (v := 2) at_67 rfl (pc' := 68) rfl ?_
      refine Go.icmp_le S3 at_68 (pt := 79) (by decide) (pc' := 71) rfl ?_ ?_
      · intro c68
        refine Go.iload S3 at_79 rfl (pc' := 81) rfl ?_
        refine Go.if_le S3 at_81 (pt := 88) (by decide) (pc' := 84) rfl ?_ ?_
        · intro c81; exact absurd (by decide) c81
        · intro c81
          refine Go.iloadN S3 at_84 rfl (pc' := 85) rfl ?_
          refine Go.goto S3 at_85 (pc' := 90) (by decide) ?_
          refine Go.istore S3 at_90 (Ls' := #[.val (.int sh), .val (.int s0), .val (.int s1), .val (.int s2), .val (.int xx), .val (.int (1 : Int32)), .val (.int (1 : Int32)), .val (.int nf), .val (.ref a1), .val (.int s0), .unset, .unset, .unset, .unset, .unset, .unset, .unset, .unset]) rfl (pc' := 92) rfl ?_
          refine Go.iload S3 at_92 rfl (pc' := 94) rfl ?_
          refine Go.iconst S3 (v := 1) at_94 rfl (pc' := 95) rfl ?_
          refine Go.icmp_le S3 at_95 (pt := 102) (by decide) (pc' := 98) rfl ?_ ?_
          · intro c95
            refine Go.ldc S3 (wd23 hw) at_102 (pc' := 104) rfl ?_
            refine Go.istore S3 at_104 (Ls' := #[.val (.int sh), .val (.int s0), .val (.int s1), .val (.int s2), .val (.int xx), .val (.int (1 : Int32)), .val (.int (1 : Int32)), .val (.int nf), .val (.ref a1), .val (.int s0), .val (.int (-2147483648 : Int32)), .unset, .unset, .unset, .unset, .unset, .unset, .unset]) rfl (pc' := 106) rfl ?_
            refine Go.iload S3 at_106 rfl (pc' := 108) rfl ?_
            refine Go.iconst S3 (v := 2) at_108 rfl (pc' := 109) rfl ?_
            refine Go.icmp_le S3 at_109 (pt := 116) (by decide) (pc' := 112) rfl ?_ ?_
            · intro c109
              refine Go.ldc S3 (wd23 hw) at_116 (pc' := 118) rfl ?_
              refine Go.istore S3 at_118 (Ls' := #[.val (.int sh), .val (.int s0), .val (.int s1), .val (.int s2), .val (.int xx), .val (.int (1 : Int32)), .val (.int (1 : Int32)), .val (.int nf), .val (.ref a1), .val (.int s0), .val (.int (-2147483648 : Int32)), .val (.int (-2147483648 : Int32)), .unset, .unset, .unset, .unset, .unset, .unset]) rfl (pc' := 120) rfl ?_
              have eM : (-2147483648 : Int32).toInt = -2147483648 := by decide
              have rn0 := rng32 s0
              have rn1 := rng32 s1
              have rn2 := rng32 s2
              have hb : f0_0 = own_lg (1 : Int32) s0 (-2147483648 : Int32) (-2147483648 : Int32) := by
                rw [← Int64.toInt_inj, own_lg1]
                omega
              have hmn : own_min (1 : Int32) (1 : Int32) = (1 : Int32) := by decide
              exact j120 hw sh s0 s1 s2 xx (1 : Int32) (1 : Int32) nf a1 sa s0 (-2147483648 : Int32) (-2147483648 : Int32) f0_0 (S3.more (by decide) (by decide)) (by decide) X1 Fl3 Fs3 (by rw [hmn]; exact Fn3) (fun _ _ => ⟨bd0_0, kS, _, _, VS3, by decide, by decide⟩) (fun _ _ => hb)
            · intro c109; exact absurd c109 (by decide)
          · intro c95; exact absurd c95 (by decide)
      · intro c68; exact absurd c68 (by decide)
    · intro c54; exact absurd c54 (by decide)
set_option maxRecDepth 65536 in
set_option maxHeartbeats 4000000 in
theorem own_A12 {p : Program} {l : Launch} {e : Env} {s : State} {m : MethodId} {args : Array Value} {below : List Frame} {meth : Method} {co : Code} {Z : State} {a0 : Array Value} (hw : HW Z a0) (sh s0 s1 s2 xx nf : Int32) {h0 h : Heap} {T : State} {locs : List Loc} (S : St p l e room_1 s m args below meth co Z x.cls code maxLocals ret x.name h0 [] T h locs 0 0) :
    Go p e below (PostOf Z s h0 [] room_1.cells room_1.slots (fun v h => v = some (.int 1))) T (mkF m 27 #[.val (.int sh), .val (.int s0), .val (.int s1), .val (.int s2), .val (.int xx), .val (.int (2 : Int32)), .val (.int (1 : Int32)), .val (.int nf), .unset, .unset, .unset, .unset, .unset, .unset, .unset, .unset, .unset, .unset] []) := by
  refine Go.new S (wd0 hw) (wd1 hw) (wd2 hw) at_27 (by decide) (by decide) (pc' := 30) rfl ?_
  intro T1 h1 a1 S1 E1 hg1 hz1 hk1 X1 D1
  have F1_excluded : Fld Z h1 a1 "com/example/opas/opas/Ranking" "excluded" "[I" .null := D1 (Or.inl (wd11 hw)) (ty := (.array .int)) (by decide)
  have F1_limit : Fld Z h1 a1 "com/example/opas/opas/Ranking" "limit" "I" (.int (0 : Int32)) := D1 (Or.inr (wd13 hw)) (ty := .int) (by decide)
  have F1_ids : Fld Z h1 a1 "com/example/opas/opas/Ranking" "ids" "[I" .null := D1 (Or.inl (wd19 hw)) (ty := (.array .int)) (by decide)
  have F1_scores : Fld Z h1 a1 "com/example/opas/opas/Ranking" "scores" "[D" .null := D1 (Or.inl (wd22 hw)) (ty := (.array .double)) (by decide)
  have F1_size : Fld Z h1 a1 "com/example/opas/opas/Ranking" "size" "I" (.int (0 : Int32)) := D1 (Or.inl (wd38 hw)) (ty := .int) (by decide)
  refine Go.dup S1 at_30 rfl (pc' := 31) rfl ?_
  refine Go.iload S1 at_31 rfl (pc' := 33) rfl ?_
  have hzo := S1.ext.1
  have hko := S1.keep.1
  refine Go.invokespecial S1 (y := ⟨"com/example/opas/opas/Ranking", "<init>", "(I)V"⟩) (rm_init1 hw a1 S1.ext hz1 X1 F1_excluded F1_limit F1_ids F1_scores F1_size) rfl rfl (wd3 hw) (wd4 hw) (wd2 hw) (wd5 hw) (by decide) at_33 rfl pd4 (argsL := [(.int (1 : Int32))]) rfl rfl rfl (by decide) (W := 1) rfl (by decide) (by decide) (by decide) (allS (Or.inr hk1) all0) (pc' := 36) rfl ?_
  intro v2 T2 h2 L2 S2 K2 q2
  obtain ⟨rfl, xa, ia, sa, kX, kI, kS, Fx, Fl, Fi, Fs, Fn, VX, VI, VS, hki, hks, nri, nrs, nis, nxr, nxi, nxs⟩ := q2
  replace X1 := X1.keep K2
  show Go _ _ _ _ T2 (mkF m 36 #[.val (.int sh), .val (.int s0), .val (.int s1), .val (.int s2), .val (.int xx), .val (.int (2 : Int32)), .val (.int (1 : Int32)), .val (.int nf), .unset, .unset, .unset, .unset, .unset, .unset, .unset, .unset, .unset, .unset] [(.ref a1)])
  have hzi := Nat.le_trans hzo hki
  have hzs := Nat.le_trans hzo hks
  replace hki := Nat.le_trans hko hki
  replace hks := Nat.le_trans hko hks
  refine Go.astore S2 at_36 rfl (Ls' := #[.val (.int sh), .val (.int s0), .val (.int s1), .val (.int s2), .val (.int xx), .val (.int (2 : Int32)), .val (.int (1 : Int32)), .val (.int nf), .val (.ref a1), .unset, .unset, .unset, .unset, .unset, .unset, .unset, .unset, .unset]) rfl (pc' := 38) rfl ?_
  refine Go.iload S2 at_38 rfl (pc' := 40) rfl ?_
  refine Go.if_le S2 at_40 (pt := 51) (by decide) (pc' := 43) rfl ?_ ?_
  · intro c40; exact absurd (by decide) c40
  · intro c40
    refine Go.aload S2 at_43 rfl rfl (pc' := 45) rfl ?_
    refine Go.iconst S2 (v := 0) at_45 rfl (pc' := 46) rfl ?_
    refine Go.iloadN S2 at_46 rfl (pc' := 47) rfl ?_
    refine Go.i2d S2 at_47 (pc' := 48) rfl ?_
    have bq0 := own_bd s0
    have ti0 := own_ti s0
    refine Go.invokevirtual S2 (y := ⟨"com/example/opas/opas/Ranking", "offer", "(ID)V"⟩) (rm_off10 hw a1 (0 : Int32) (s0.toInt64) xa kX ia sa kI kS 0 0 S2.ext X1 Fx Fl Fn VX Fi Fs VI VS hzi hzs nri nrs nis hz1 nxr nxi nxs (own_bd s0) ) (wd39 hw) (wd40 hw) (S2.nf (wd42 hw)) (wd42 hw) (wd41 hw) (wd2 hw) (wd43 hw) (by decide) X1 at_48 rfl pd7 (argsL := [(.int (0 : Int32)), (.double (FP.l2d (s0.toInt64)))]) rfl rfl rfl (by decide) (W := 0) rfl (by decide) (by decide) (by decide) (allS (Or.inr hk1) (allS (Or.inr hki) (allS (Or.inr hks) all0))) (pc' := 51) rfl ?_
    intro v3 T3 h3 L3 S3 K3 q3
    obtain ⟨rfl, Fx3, Fl3, Fi3, Fs3, Fn3, e0_0, f0_0, VI3, VS3, hP0⟩ := q3
    replace X1 := X1.keep K3
    replace VX := VX.keep K3 (ninS nxr (ninS nxi (ninS nxs nin0)))
    show Go _ _ _ _ T3 (mkF m 51 #[.val (.int sh), .val (.int s0), .val (.int s1), .val (.int s2), .val (.int xx), .val (.int (2 : Int32)), .val (.int (1 : Int32)), .val (.int nf), .val (.ref a1), .unset, .unset, .unset, .unset, .unset, .unset, .unset, .unset, .unset] [])
    have bd0_0 : (-2147483648 ≤ f0_0.toInt ∧ f0_0.toInt ≤ 2147483647) := by omega
    refine Go.iload S3 at_51 rfl (pc' := 53) rfl ?_
    refine Go.iconst S3 (v := 1) at_53 rfl (pc' := 54) rfl ?_
    refine Go.icmp_le S3 at_54 (pt := 65) (by decide) (pc' := 57) rfl ?_ ?_
    · intro c54; exact absurd (by decide) c54
    · intro c54
      refine Go.aload S3 at_57 rfl rfl (pc' := 59) rfl ?_
      refine Go.iconst S3 (v := 1) at_59 rfl (pc' := 60) rfl ?_
      refine Go.iloadN S3 at_60 rfl (pc' := 61) rfl ?_
      refine Go.i2d S3 at_61 (pc' := 62) rfl ?_
      have bq1 := own_bd s1
      have ti1 := own_ti s1
      refine Go.invokevirtual S3 (y := ⟨"com/example/opas/opas/Ranking", "offer", "(ID)V"⟩) (rm_off11 hw a1 (1 : Int32) (s1.toInt64) xa kX ia sa kI kS e0_0 f0_0 S3.ext X1 Fx3 Fl3 Fn3 VX Fi3 Fs3 VI3 VS3 hzi hzs nri nrs nis hz1 nxr nxi nxs (own_bd s1) bd0_0) (wd39 hw) (wd40 hw) (S3.nf (wd42 hw)) (wd42 hw) (wd41 hw) (wd2 hw) (wd43 hw) (by decide) X1 at_62 rfl pd7 (argsL := [(.int (1 : Int32)), (.double (FP.l2d (s1.toInt64)))]) rfl rfl rfl (by decide) (W := 0) rfl (by decide) (by decide) (by decide) (allS (Or.inr hk1) (allS (Or.inr hki) (allS (Or.inr hks) all0))) (pc' := 65) rfl ?_
      intro v4 T4 h4 L4 S4 K4 q4
      obtain ⟨rfl, Fx4, Fl4, Fi4, Fs4, Fn4, e1_0, f1_0, VI4, VS4, hP1⟩ := q4
      replace X1 := X1.keep K4
      replace VX := VX.keep K4 (ninS nxr (ninS nxi (ninS nxs nin0)))
      show Go _ _ _ _ T4 (mkF m 65 #[.val (.int sh), .val (.int s0), .val (.int s1), .val (.int s2), .val (.int xx), .val (.int (2 : Int32)), .val (.int (1 : Int32)), .val (.int nf), .val (.ref a1), .unset, .unset, .unset, .unset, .unset, .unset, .unset, .unset, .unset] [])
      have bd1_0 : (-2147483648 ≤ f1_0.toInt ∧ f1_0.toInt ≤ 2147483647) := by omega
      refine Go.iload S4 at_65 rfl (pc' := 67) rfl ?_
      refine Go.iconst S4 (v := 2) at_67 rfl (pc' := 68) rfl ?_
      refine Go.icmp_le S4 at_68 (pt := 79) (by decide) (pc' := 71) rfl ?_ ?_
      · intro c68
        refine Go.iload S4 at_79 rfl (pc' := 81) rfl ?_
        refine Go.if_le S4 at_81 (pt := 88) (by decide) (pc' := 84) rfl ?_ ?_
        · intro c81; exact absurd (by decide) c81
        · intro c81
          refine Go.iloadN S4 at_84 rfl (pc' := 85) rfl ?_
          refine Go.goto S4 at_85 (pc' := 90) (by decide) ?_
          refine Go.istore S4 at_90 (Ls' := #[.val (.int sh), .val (.int s0), .val (.int s1), .val (.int s2), .val (.int xx), .val (.int (2 : Int32)), .val (.int (1 : Int32)), .val (.int nf), .val (.ref a1), .val (.int s0), .unset, .unset, .unset, .unset, .unset, .unset, .unset, .unset]) rfl (pc' := 92) rfl ?_
          refine Go.iload S4 at_92 rfl (pc' := 94) rfl ?_
          refine Go.iconst S4 (v := 1) at_94 rfl (pc' := 95) rfl ?_
          refine Go.icmp_le S4 at_95 (pt := 102) (by decide) (pc' := 98) rfl ?_ ?_
          · intro c95; exact absurd (by decide) c95
          · intro c95
            refine Go.iloadN S4 at_98 rfl (pc' := 99) rfl ?_
            refine Go.goto S4 at_99 (pc' := 104) (by decide) ?_
            refine Go.istore S4 at_104 (Ls' := #[.val (.int sh), .val (.int s0), .val (.int s1), .val (.int s2), .val (.int xx), .val (.int (2 : Int32)), .val (.int (1 : Int32)), .val (.int nf), .val (.ref a1), .val (.int s0), .val (.int s1), .unset, .unset, .unset, .unset, .unset, .unset, .unset]) rfl (pc' := 106) rfl ?_
            refine Go.iload S4 at_106 rfl (pc' := 108) rfl ?_
            refine Go.iconst S4 (v := 2) at_108 rfl (pc' := 109) rfl ?_
            refine Go.icmp_le S4 at_109 (pt := 116) (by decide) (pc' := 112) rfl ?_ ?_
            · intro c109
              refine Go.ldc S4 (wd23 hw) at_116 (pc' := 118) rfl ?_
              refine Go.istore S4 at_118 (Ls' := #[.val (.int sh), .val (.int s0), .val (.int s1), .val (.int s2), .val (.int xx), .val (.int (2 : Int32)), .val (.int (1 : Int32)), .val (.int nf), .val (.ref a1), .val (.int s0), .val (.int s1), .val (.int (-2147483648 : Int32)), .unset, .unset, .unset, .unset, .unset, .unset]) rfl (pc' := 120) rfl ?_
              have eM : (-2147483648 : Int32).toInt = -2147483648 := by decide
              have rn0 := rng32 s0
              have rn1 := rng32 s1
              have rn2 := rng32 s2
              have hb : f1_0 = own_lg (1 : Int32) s0 s1 (-2147483648 : Int32) := by
                rw [← Int64.toInt_inj, own_lg1]
                omega
              have hmn : own_min (2 : Int32) (1 : Int32) = (1 : Int32) := by decide
              exact j120 hw sh s0 s1 s2 xx (2 : Int32) (1 : Int32) nf a1 sa s0 s1 (-2147483648 : Int32) f1_0 (S4.more (by decide) (by decide)) (by decide) X1 Fl4 Fs4 (by rw [hmn]; exact Fn4) (fun _ _ => ⟨bd1_0, kS, _, _, VS4, by decide, by decide⟩) (fun _ _ => hb)
            · intro c109; exact absurd c109 (by decide)
      · intro c68; exact absurd c68 (by decide)
set_option maxRecDepth 65536 in
set_option maxHeartbeats 4000000 in
theorem own_A13 {p : Program} {l : Launch} {e : Env} {s : State} {m : MethodId} {args : Array Value} {below : List Frame} {meth : Method} {co : Code} {Z : State} {a0 : Array Value} (hw : HW Z a0) (sh s0 s1 s2 xx nf : Int32) {h0 h : Heap} {T : State} {locs : List Loc} (S : St p l e room_1 s m args below meth co Z x.cls code maxLocals ret x.name h0 [] T h locs 0 0) :
    Go p e below (PostOf Z s h0 [] room_1.cells room_1.slots (fun v h => v = some (.int 1))) T (mkF m 27 #[.val (.int sh), .val (.int s0), .val (.int s1), .val (.int s2), .val (.int xx), .val (.int (3 : Int32)), .val (.int (1 : Int32)), .val (.int nf), .unset, .unset, .unset, .unset, .unset, .unset, .unset, .unset, .unset, .unset] []) := by
  refine Go.new S (wd0 hw) (wd1 hw) (wd2 hw) at_27 (by decide) (by decide) (pc' := 30) rfl ?_
  intro T1 h1 a1 S1 E1 hg1 hz1 hk1 X1 D1
  have F1_excluded : Fld Z h1 a1 "com/example/opas/opas/Ranking" "excluded" "[I" .null := D1 (Or.inl (wd11 hw)) (ty := (.array .int)) (by decide)
  have F1_limit : Fld Z h1 a1 "com/example/opas/opas/Ranking" "limit" "I" (.int (0 : Int32)) := D1 (Or.inr (wd13 hw)) (ty := .int) (by decide)
  have F1_ids : Fld Z h1 a1 "com/example/opas/opas/Ranking" "ids" "[I" .null := D1 (Or.inl (wd19 hw)) (ty := (.array .int)) (by decide)
  have F1_scores : Fld Z h1 a1 "com/example/opas/opas/Ranking" "scores" "[D" .null := D1 (Or.inl (wd22 hw)) (ty := (.array .double)) (by decide)
  have F1_size : Fld Z h1 a1 "com/example/opas/opas/Ranking" "size" "I" (.int (0 : Int32)) := D1 (Or.inl (wd38 hw)) (ty := .int) (by decide)
  refine Go.dup S1 at_30 rfl (pc' := 31) rfl ?_
  refine Go.iload S1 at_31 rfl (pc' := 33) rfl ?_
  have hzo := S1.ext.1
  have hko := S1.keep.1
  refine Go.invokespecial S1 (y := ⟨"com/example/opas/opas/Ranking", "<init>", "(I)V"⟩) (rm_init1 hw a1 S1.ext hz1 X1 F1_excluded F1_limit F1_ids F1_scores F1_size) rfl rfl (wd3 hw) (wd4 hw) (wd2 hw) (wd5 hw) (by decide) at_33 rfl pd4 (argsL := [(.int (1 : Int32))]) rfl rfl rfl (by decide) (W := 1) rfl (by decide) (by decide) (by decide) (allS (Or.inr hk1) all0) (pc' := 36) rfl ?_
  intro v2 T2 h2 L2 S2 K2 q2
  obtain ⟨rfl, xa, ia, sa, kX, kI, kS, Fx, Fl, Fi, Fs, Fn, VX, VI, VS, hki, hks, nri, nrs, nis, nxr, nxi, nxs⟩ := q2
  replace X1 := X1.keep K2
  show Go _ _ _ _ T2 (mkF m 36 #[.val (.int sh), .val (.int s0), .val (.int s1), .val (.int s2), .val (.int xx), .val (.int (3 : Int32)), .val (.int (1 : Int32)), .val (.int nf), .unset, .unset, .unset, .unset, .unset, .unset, .unset, .unset, .unset, .unset] [(.ref a1)])
  have hzi := Nat.le_trans hzo hki
  have hzs := Nat.le_trans hzo hks
  replace hki := Nat.le_trans hko hki
  replace hks := Nat.le_trans hko hks
  refine Go.astore S2 at_36 rfl (Ls' := #[.val (.int sh), .val (.int s0), .val (.int s1), .val (.int s2), .val (.int xx), .val (.int (3 : Int32)), .val (.int (1 : Int32)), .val (.int nf), .val (.ref a1), .unset, .unset, .unset, .unset, .unset, .unset, .unset, .unset, .unset]) rfl (pc' := 38) rfl ?_
  refine Go.iload S2 at_38 rfl (pc' := 40) rfl ?_
  refine Go.if_le S2 at_40 (pt := 51) (by decide) (pc' := 43) rfl ?_ ?_
  · intro c40; exact absurd (by decide) c40
  · intro c40
    refine Go.aload S2 at_43 rfl rfl (pc' := 45) rfl ?_
    refine Go.iconst S2 (v := 0) at_45 rfl (pc' := 46) rfl ?_
    refine Go.iloadN S2 at_46 rfl (pc' := 47) rfl ?_
    refine Go.i2d S2 at_47 (pc' := 48) rfl ?_
    have bq0 := own_bd s0
    have ti0 := own_ti s0
    refine Go.invokevirtual S2 (y := ⟨"com/example/opas/opas/Ranking", "offer", "(ID)V"⟩) (rm_off10 hw a1 (0 : Int32) (s0.toInt64) xa kX ia sa kI kS 0 0 S2.ext X1 Fx Fl Fn VX Fi Fs VI VS hzi hzs nri nrs nis hz1 nxr nxi nxs (own_bd s0) ) (wd39 hw) (wd40 hw) (S2.nf (wd42 hw)) (wd42 hw) (wd41 hw) (wd2 hw) (wd43 hw) (by decide) X1 at_48 rfl pd7 (argsL := [(.int (0 : Int32)), (.double (FP.l2d (s0.toInt64)))]) rfl rfl rfl (by decide) (W := 0) rfl (by decide) (by decide) (by decide) (allS (Or.inr hk1) (allS (Or.inr hki) (allS (Or.inr hks) all0))) (pc' := 51) rfl ?_
    intro v3 T3 h3 L3 S3 K3 q3
    obtain ⟨rfl, Fx3, Fl3, Fi3, Fs3, Fn3, e0_0, f0_0, VI3, VS3, hP0⟩ := q3
    replace X1 := X1.keep K3
    replace VX := VX.keep K3 (ninS nxr (ninS nxi (ninS nxs nin0)))
    show Go _ _ _ _ T3 (mkF m 51 #[.val (.int sh), .val (.int s0), .val (.int s1), .val (.int s2), .val (.int xx), .val (.int (3 : Int32)), .val (.int (1 : Int32)), .val (.int nf), .val (.ref a1), .unset, .unset, .unset, .unset, .unset, .unset, .unset, .unset, .unset] [])
    have bd0_0 : (-2147483648 ≤ f0_0.toInt ∧ f0_0.toInt ≤ 2147483647) := by omega
    refine Go.iload S3 at_51 rfl (pc' := 53) rfl ?_
    refine Go.iconst S3 (v := 1) at_53 rfl (pc' := 54) rfl ?_
    refine Go.icmp_le S3 at_54 (pt := 65) (by decide) (pc' := 57) rfl ?_ ?_
    · intro c54; exact absurd (by decide) c54
    · intro c54
      refine Go.aload S3 at_57 rfl rfl (pc' := 59) rfl ?_
      refine Go.iconst S3 (v := 1) at_59 rfl (pc' := 60) rfl ?_
      refine Go.iloadN S3 at_60 rfl (pc' := 61) rfl ?_
      refine Go.i2d S3 at_61 (pc' := 62) rfl ?_
      have bq1 := own_bd s1
      have ti1 := own_ti s1
      refine Go.invokevirtual S3 (y := ⟨"com/example/opas/opas/Ranking", "offer", "(ID)V"⟩) (rm_off11 hw a1 (1 : Int32) (s1.toInt64) xa kX ia sa kI kS e0_0 f0_0 S3.ext X1 Fx3 Fl3 Fn3 VX Fi3 Fs3 VI3 VS3 hzi hzs nri nrs nis hz1 nxr nxi nxs (own_bd s1) bd0_0) (wd39 hw) (wd40 hw) (S3.nf (wd42 hw)) (wd42 hw) (wd41 hw) (wd2 hw) (wd43 hw) (by decide) X1 at_62 rfl pd7 (argsL := [(.int (1 : Int32)), (.double (FP.l2d (s1.toInt64)))]) rfl rfl rfl (by decide) (W := 0) rfl (by decide) (by decide) (by decide) (allS (Or.inr hk1) (allS (Or.inr hki) (allS (Or.inr hks) all0))) (pc' := 65) rfl ?_
      intro v4 T4 h4 L4 S4 K4 q4
      obtain ⟨rfl, Fx4, Fl4, Fi4, Fs4, Fn4, e1_0, f1_0, VI4, VS4, hP1⟩ := q4
      replace X1 := X1.keep K4
      replace VX := VX.keep K4 (ninS nxr (ninS nxi (ninS nxs nin0)))
      show Go _ _ _ _ T4 (mkF m 65 #[.val (.int sh), .val (.int s0), .val (.int s1), .val (.int s2), .val (.int xx), .val (.int (3 : Int32)), .val (.int (1 : Int32)), .val (.int nf), .val (.ref a1), .unset, .unset, .unset, .unset, .unset, .unset, .unset, .unset, .unset] [])
      have bd1_0 : (-2147483648 ≤ f1_0.toInt ∧ f1_0.toInt ≤ 2147483647) := by omega
      refine Go.iload S4 at_65 rfl (pc' := 67) rfl ?_
      refine Go.iconst S4 (v := 2) at_67 rfl (pc' := 68) rfl ?_
      refine Go.icmp_le S4 at_68 (pt := 79) (by decide) (pc' := 71) rfl ?_ ?_
      · intro c68; exact absurd (by decide) c68
      · intro c68
        refine Go.aload S4 at_71 rfl rfl (pc' := 73) rfl ?_
        refine Go.iconst S4 (v := 2) at_73 rfl (pc' := 74) rfl ?_
        refine Go.iloadN S4 at_74 rfl (pc' := 75) rfl ?_
        refine Go.i2d S4 at_75 (pc' := 76) rfl ?_
        have bq2 := own_bd s2
        have ti2 := own_ti s2
        refine Go.invokevirtual S4 (y := ⟨"com/example/opas/opas/Ranking", "offer", "(ID)V"⟩) (rm_off11 hw a1 (2 : Int32) (s2.toInt64) xa kX ia sa kI kS e1_0 f1_0 S4.ext X1 Fx4 Fl4 Fn4 VX Fi4 Fs4 VI4 VS4 hzi hzs nri nrs nis hz1 nxr nxi nxs (own_bd s2) bd1_0) (wd39 hw) (wd40 hw) (S4.nf (wd42 hw)) (wd42 hw) (wd41 hw) (wd2 hw) (wd43 hw) (by decide) X1 at_76 rfl pd7 (argsL := [(.int (2 : Int32)), (.double (FP.l2d (s2.toInt64)))]) rfl rfl rfl (by decide) (W := 0) rfl (by decide) (by decide) (by decide) (allS (Or.inr hk1) (allS (Or.inr hki) (allS (Or.inr hks) all0))) (pc' := 79) rfl ?_
        intro v5 T5 h5 L5 S5 K5 q5
        obtain ⟨rfl, Fx5, Fl5, Fi5, Fs5, Fn5, e2_0, f2_0, VI5, VS5, hP2⟩ := q5
        replace X1 := X1.keep K5
        replace VX := VX.keep K5 (ninS nxr (ninS nxi (ninS nxs nin0)))
        show Go _ _ _ _ T5 (mkF m 79 #[.val (.int sh), .val (.int s0), .val (.int s1), .val (.int s2), .val (.int xx), .val (.int (3 : Int32)), .val (.int (1 : Int32)), .val (.int nf), .val (.ref a1), .unset, .unset, .unset, .unset, .unset, .unset, .unset, .unset, .unset] [])
        have bd2_0 : (-2147483648 ≤ f2_0.toInt ∧ f2_0.toInt ≤ 2147483647) := by omega
        refine Go.iload S5 at_79 rfl (pc' := 81) rfl ?_
        refine Go.if_le S5 at_81 (pt := 88) (by decide) (pc' := 84) rfl ?_ ?_
        · intro c81; exact absurd (by decide) c81
        · intro c81
          refine Go.iloadN S5 at_84 rfl (pc' := 85) rfl ?_
          refine Go.goto S5 at_85 (pc' := 90) (by decide) ?_
          refine Go.istore S5 at_90 (Ls' := #[.val (.int sh), .val (.int s0), .val (.int s1), .val (.int s2), .val (.int xx), .val (.int (3 : Int32)), .val (.int (1 : Int32)), .val (.int nf), .val (.ref a1), .val (.int s0), .unset, .unset, .unset, .unset, .unset, .unset, .unset, .unset]) rfl (pc' := 92) rfl ?_
          refine Go.iload S5 at_92 rfl (pc' := 94) rfl ?_
          refine Go.iconst S5 (v := 1) at_94 rfl (pc' := 95) rfl ?_
          refine Go.icmp_le S5 at_95 (pt := 102) (by decide) (pc' := 98) rfl ?_ ?_
          · intro c95; exact absurd (by decide) c95
          · intro c95
            refine Go.iloadN S5 at_98 rfl (pc' := 99) rfl ?_
            refine Go.goto S5 at_99 (pc' := 104) (by decide) ?_
            refine Go.istore S5 at_104 (Ls' := #[.val (.int sh), .val (.int s0), .val (.int s1), .val (.int s2), .val (.int xx), .val (.int (3 : Int32)), .val (.int (1 : Int32)), .val (.int nf), .val (.ref a1), .val (.int s0), .val (.int s1), .unset, .unset, .unset, .unset, .unset, .unset, .unset]) rfl (pc' := 106) rfl ?_
            refine Go.iload S5 at_106 rfl (pc' := 108) rfl ?_
            refine Go.iconst S5 (v := 2) at_108 rfl (pc' := 109) rfl ?_
            refine Go.icmp_le S5 at_109 (pt := 116) (by decide) (pc' := 112) rfl ?_ ?_
            · intro c109; exact absurd (by decide) c109
            · intro c109
              refine Go.iloadN S5 at_112 rfl (pc' := 113) rfl ?_
              refine Go.goto S5 at_113 (pc' := 118) (by decide) ?_
              refine Go.istore S5 at_118 (Ls' := #[.val (.int sh), .val (.int s0), .val (.int s1), .val (.int s2), .val (.int xx), .val (.int (3 : Int32)), .val (.int (1 : Int32)), .val (.int nf), .val (.ref a1), .val (.int s0), .val (.int s1), .val (.int s2), .unset, .unset, .unset, .unset, .unset, .unset]) rfl (pc' := 120) rfl ?_
              have eM : (-2147483648 : Int32).toInt = -2147483648 := by decide
              have rn0 := rng32 s0
              have rn1 := rng32 s1
              have rn2 := rng32 s2
              have hb : f2_0 = own_lg (1 : Int32) s0 s1 s2 := by
                rw [← Int64.toInt_inj, own_lg1]
                omega
              have hmn : own_min (3 : Int32) (1 : Int32) = (1 : Int32) := by decide
              exact j120 hw sh s0 s1 s2 xx (3 : Int32) (1 : Int32) nf a1 sa s0 s1 s2 f2_0 (S5.more (by decide) (by decide)) (by decide) X1 Fl5 Fs5 (by rw [hmn]; exact Fn5) (fun _ _ => ⟨bd2_0, kS, _, _, VS5, by decide, by decide⟩) (fun _ _ => hb)
set_option maxRecDepth 65536 in
set_option maxHeartbeats 4000000 in
theorem own_A20 {p : Program} {l : Launch} {e : Env} {s : State} {m : MethodId} {args : Array Value} {below : List Frame} {meth : Method} {co : Code} {Z : State} {a0 : Array Value} (hw : HW Z a0) (sh s0 s1 s2 xx nf : Int32) {h0 h : Heap} {T : State} {locs : List Loc} (S : St p l e room_1 s m args below meth co Z x.cls code maxLocals ret x.name h0 [] T h locs 0 0) :
    Go p e below (PostOf Z s h0 [] room_1.cells room_1.slots (fun v h => v = some (.int 1))) T (mkF m 27 #[.val (.int sh), .val (.int s0), .val (.int s1), .val (.int s2), .val (.int xx), .val (.int (0 : Int32)), .val (.int (2 : Int32)), .val (.int nf), .unset, .unset, .unset, .unset, .unset, .unset, .unset, .unset, .unset, .unset] []) := by
  refine Go.new S (wd0 hw) (wd1 hw) (wd2 hw) at_27 (by decide) (by decide) (pc' := 30) rfl ?_
  intro T1 h1 a1 S1 E1 hg1 hz1 hk1 X1 D1
  have F1_excluded : Fld Z h1 a1 "com/example/opas/opas/Ranking" "excluded" "[I" .null := D1 (Or.inl (wd11 hw)) (ty := (.array .int)) (by decide)
  have F1_limit : Fld Z h1 a1 "com/example/opas/opas/Ranking" "limit" "I" (.int (0 : Int32)) := D1 (Or.inr (wd13 hw)) (ty := .int) (by decide)
  have F1_ids : Fld Z h1 a1 "com/example/opas/opas/Ranking" "ids" "[I" .null := D1 (Or.inl (wd19 hw)) (ty := (.array .int)) (by decide)
  have F1_scores : Fld Z h1 a1 "com/example/opas/opas/Ranking" "scores" "[D" .null := D1 (Or.inl (wd22 hw)) (ty := (.array .double)) (by decide)
  have F1_size : Fld Z h1 a1 "com/example/opas/opas/Ranking" "size" "I" (.int (0 : Int32)) := D1 (Or.inl (wd38 hw)) (ty := .int) (by decide)
  refine Go.dup S1 at_30 rfl (pc' := 31) rfl ?_
  refine Go.iload S1 at_31 rfl (pc' := 33) rfl ?_
  have hzo := S1.ext.1
  have hko := S1.keep.1
  refine Go.invokespecial S1 (y := ⟨"com/example/opas/opas/Ranking", "<init>", "(I)V"⟩) (rm_init2 hw a1 S1.ext hz1 X1 F1_excluded F1_limit F1_ids F1_scores F1_size) rfl rfl (wd3 hw) (wd4 hw) (wd2 hw) (wd5 hw) (by decide) at_33 rfl pd4 (argsL := [(.int (2 : Int32))]) rfl rfl rfl (by decide) (W := 1) rfl (by decide) (by decide) (by decide) (allS (Or.inr hk1) all0) (pc' := 36) rfl ?_
  intro v2 T2 h2 L2 S2 K2 q2
  obtain ⟨rfl, xa, ia, sa, kX, kI, kS, Fx, Fl, Fi, Fs, Fn, VX, VI, VS, hki, hks, nri, nrs, nis, nxr, nxi, nxs⟩ := q2
  replace X1 := X1.keep K2
  show Go _ _ _ _ T2 (mkF m 36 #[.val (.int sh), .val (.int s0), .val (.int s1), .val (.int s2), .val (.int xx), .val (.int (0 : Int32)), .val (.int (2 : Int32)), .val (.int nf), .unset, .unset, .unset, .unset, .unset, .unset, .unset, .unset, .unset, .unset] [(.ref a1)])
  have hzi := Nat.le_trans hzo hki
  have hzs := Nat.le_trans hzo hks
  replace hki := Nat.le_trans hko hki
  replace hks := Nat.le_trans hko hks
  refine Go.astore S2 at_36 rfl (Ls' := #[.val (.int sh), .val (.int s0), .val (.int s1), .val (.int s2), .val (.int xx), .val (.int (0 : Int32)), .val (.int (2 : Int32)), .val (.int nf), .val (.ref a1), .unset, .unset, .unset, .unset, .unset, .unset, .unset, .unset, .unset]) rfl (pc' := 38) rfl ?_
  refine Go.iload S2 at_38 rfl (pc' := 40) rfl ?_
  refine Go.if_le S2 at_40 (pt := 51) (by decide) (pc' := 43) rfl ?_ ?_
  · intro c40
    refine Go.iload S2 at_51 rfl (pc' := 53) rfl ?_
    refine Go.iconst S2 (v := 1) at_53 rfl (pc' := 54) rfl ?_
    refine Go.icmp_le S2 at_54 (pt := 65) (by decide) (pc' := 57) rfl ?_ ?_
    · intro c54
      refine Go.iload S2 at_65 rfl (pc' := 67) rfl ?_
      refine Go.iconst S2 (v := 2) at_67 rfl (pc' := 68) rfl ?_
      refine Go.icmp_le S2 at_68 (pt := 79) (by decide) (pc' := 71) rfl ?_ ?_
      · intro c68
        refine Go.iload S2 at_79 rfl (pc' := 81) rfl ?_
        refine Go.if_le S2 at_81 (pt := 88) (by decide) (pc' := 84) rfl ?_ ?_
        · intro c81
          refine Go.ldc S2 (wd23 hw) at_88 (pc' := 90) rfl ?_
          refine Go.istore S2 at_90 (Ls' := #[.val (.int sh), .val (.int s0), .val (.int s1), .val (.int s2), .val (.int xx), .val (.int (0 : Int32)), .val (.int (2 : Int32)), .val (.int nf), .val (.ref a1), .val (.int (-2147483648 : Int32)), .unset, .unset, .unset, .unset, .unset, .unset, .unset, .unset]) rfl (pc' := 92) rfl ?_
          refine Go.iload S2 at_92 rfl (pc' := 94) rfl ?_
          refine Go.iconst S2 (v := 1) at_94 rfl (pc' := 95) rfl ?_
          refine Go.icmp_le S2 at_95 (pt := 102) (by decide) (pc' := 98) rfl ?_ ?_
          · intro c95
            refine Go.ldc S2 (wd23 hw) at_102 (pc' := 104) rfl ?_
            refine Go.istore S2 at_104 (Ls' := #[.val (.int sh), .val (.int s0), .val (.int s1), .val (.int s2), .val (.int xx), .val (.int (0 : Int32)), .val (.int (2 : Int32)), .val (.int nf), .val (.ref a1), .val (.int (-2147483648 : Int32)), .val (.int (-2147483648 : Int32)), .unset, .unset, .unset, .unset, .unset, .unset, .unset]) rfl (pc' := 106) rfl ?_
            refine Go.iload S2 at_106 rfl (pc' := 108) rfl ?_
            refine Go.iconst S2 (v := 2) at_108 rfl (pc' := 109) rfl ?_
            refine Go.icmp_le S2 at_109 (pt := 116) (by decide) (pc' := 112) rfl ?_ ?_
            · intro c109
              refine Go.ldc S2 (wd23 hw) at_116 (pc' := 118) rfl ?_
              refine Go.istore S2 at_118 (Ls' := #[.val (.int sh), .val (.int s0), .val (.int s1), .val (.int s2), .val (.int xx), .val (.int (0 : Int32)), .val (.int (2 : Int32)), .val (.int nf), .val (.ref a1), .val (.int (-2147483648 : Int32)), .val (.int (-2147483648 : Int32)), .val (.int (-2147483648 : Int32)), .unset, .unset, .unset, .unset, .unset, .unset]) rfl (pc' := 120) rfl ?_
              have hmn : own_min (0 : Int32) (2 : Int32) = (0 : Int32) := by decide
              exact j120 hw sh s0 s1 s2 xx (0 : Int32) (2 : Int32) nf a1 sa (-2147483648 : Int32) (-2147483648 : Int32) (-2147483648 : Int32) 0 (S2.more (by decide) (by decide)) (by decide) X1 Fl Fs (by rw [hmn]; exact Fn) (fun z _ => absurd (by decide) z) (fun z _ => absurd (by decide) z)
            · intro c109; exact absurd c109 (by decide)
          · intro c95; exact absurd c95 (by decide)
        · intro c81; exact absurd c81 (by decide)
      · intro c68; exact absurd c68 (by decide)
    · intro c54; exact absurd c54 (by decide)
  · intro c40; exact absurd c40 (by decide)
set_option maxRecDepth 65536 in
set_option maxHeartbeats 4000000 in
theorem own_A21 {p : Program} {l : Launch} {e : Env} {s : State} {m : MethodId} {args : Array Value} {below : List Frame} {meth : Method} {co : Code} {Z : State} {a0 : Array Value} (hw : HW Z a0) (sh s0 s1 s2 xx nf : Int32) {h0 h : Heap} {T : State} {locs : List Loc} (S : St p l e room_1 s m args below meth co Z x.cls code maxLocals ret x.name h0 [] T h locs 0 0) :
    Go p e below (PostOf Z s h0 [] room_1.cells room_1.slots (fun v h => v = some (.int 1))) T (mkF m 27 #[.val (.int sh), .val (.int s0), .val (.int s1), .val (.int s2), .val (.int xx), .val (.int (1 : Int32)), .val (.int (2 : Int32)), .val (.int nf), .unset, .unset, .unset, .unset, .unset, .unset, .unset, .unset, .unset, .unset] []) := by
  refine Go.new S (wd0 hw) (wd1 hw) (wd2 hw) at_27 (by decide) (by decide) (pc' := 30) rfl ?_
  intro T1 h1 a1 S1 E1 hg1 hz1 hk1 X1 D1
  have F1_excluded : Fld Z h1 a1 "com/example/opas/opas/Ranking" "excluded" "[I" .null := D1 (Or.inl (wd11 hw)) (ty := (.array .int)) (by decide)
  have F1_limit : Fld Z h1 a1 "com/example/opas/opas/Ranking" "limit" "I" (.int (0 : Int32)) := D1 (Or.inr (wd13 hw)) (ty := .int) (by decide)
  have F1_ids : Fld Z h1 a1 "com/example/opas/opas/Ranking" "ids" "[I" .null := D1 (Or.inl (wd19 hw)) (ty := (.array .int)) (by decide)
  have F1_scores : Fld Z h1 a1 "com/example/opas/opas/Ranking" "scores" "[D" .null := D1 (Or.inl (wd22 hw)) (ty := (.array .double)) (by decide)
  have F1_size : Fld Z h1 a1 "com/example/opas/opas/Ranking" "size" "I" (.int (0 : Int32)) := D1 (Or.inl (wd38 hw)) (ty := .int) (by decide)
  refine Go.dup S1 at_30 rfl (pc' := 31) rfl ?_
  refine Go.iload S1 at_31 rfl (pc' := 33) rfl ?_
  have hzo := S1.ext.1
  have hko := S1.keep.1
  refine Go.invokespecial S1 (y := ⟨"com/example/opas/opas/Ranking", "<init>", "(I)V"⟩) (rm_init2 hw a1 S1.ext hz1 X1 F1_excluded F1_limit F1_ids F1_scores F1_size) rfl rfl (wd3 hw) (wd4 hw) (wd2 hw) (wd5 hw) (by decide) at_33 rfl pd4 (argsL := [(.int (2 : Int32))]) rfl rfl rfl (by decide) (W := 1) rfl (by decide) (by decide) (by decide) (allS (Or.inr hk1) all0) (pc' := 36) rfl ?_
  intro v2 T2 h2 L2 S2 K2 q2
  obtain ⟨rfl, xa, ia, sa, kX, kI, kS, Fx, Fl, Fi, Fs, Fn, VX, VI, VS, hki, hks, nri, nrs, nis, nxr, nxi, nxs⟩ := q2
  replace X1 := X1.keep K2
  show Go _ _ _ _ T2 (mkF m 36 #[.val (.int sh), .val (.int s0), .val (.int s1), .val (.int s2), .val (.int xx), .val (.int (1 : Int32)), .val (.int (2 : Int32)), .val (.int nf), .unset, .unset, .unset, .unset, .unset, .unset, .unset, .unset, .unset, .unset] [(.ref a1)])
  have hzi := Nat.le_trans hzo hki
  have hzs := Nat.le_trans hzo hks
  replace hki := Nat.le_trans hko hki
  replace hks := Nat.le_trans hko hks
  refine Go.astore S2 at_36 rfl (Ls' := #[.val (.int sh), .val (.int s0), .val (.int s1), .val (.int s2), .val (.int xx), .val (.int (1 : Int32)), .val (.int (2 : Int32)), .val (.int nf), .val (.ref a1), .unset, .unset, .unset, .unset, .unset, .unset, .unset, .unset, .unset]) rfl (pc' := 38) rfl ?_
  refine Go.iload S2 at_38 rfl (pc' := 40) rfl ?_
  refine Go.if_le S2 at_40 (pt := 51) (by decide) (pc' := 43) rfl ?_ ?_
  · intro c40; exact absurd (by decide) c40
  · intro c40
    refine Go.aload S2 at_43 rfl rfl (pc' := 45) rfl ?_
    refine Go.iconst S2 (v := 0) at_45 rfl (pc' := 46) rfl ?_
    refine Go.iloadN S2 at_46 rfl (pc' := 47) rfl ?_
    refine Go.i2d S2 at_47 (pc' := 48) rfl ?_
    have bq0 := own_bd s0
    have ti0 := own_ti s0
    refine Go.invokevirtual S2 (y := ⟨"com/example/opas/opas/Ranking", "offer", "(ID)V"⟩) (rm_off20 hw a1 (0 : Int32) (s0.toInt64) xa kX ia sa kI kS 0 0 0 0 S2.ext X1 Fx Fl Fn VX Fi Fs VI VS hzi hzs nri nrs nis hz1 nxr nxi nxs (own_bd s0) ) (wd39 hw) (wd40 hw) (S2.nf (wd42 hw)) (wd42 hw) (wd41 hw) (wd2 hw) (wd43 hw) (by decide) X1 at_48 rfl pd7 (argsL := [(.int (0 : Int32)), (.double (FP.l2d (s0.toInt64)))]) rfl rfl rfl (by decide) (W := 0) rfl (by decide) (by decide) (by decide) (allS (Or.inr hk1) (allS (Or.inr hki) (allS (Or.inr hks) all0))) (pc' := 51) rfl ?_
    intro v3 T3 h3 L3 S3 K3 q3
    obtain ⟨rfl, Fx3, Fl3, Fi3, Fs3, Fn3, e0_0, e0_1, f0_0, f0_1, VI3, VS3, hP0⟩ := q3
    replace X1 := X1.keep K3
    replace VX := VX.keep K3 (ninS nxr (ninS nxi (ninS nxs nin0)))
    show Go _ _ _ _ T3 (mkF m 51 #[.val (.int sh), .val (.int s0), .val (.int s1), .val (.int s2), .val (.int xx), .val (.int (1 : Int32)), .val (.int (2 : Int32)), .val (.int nf), .val (.ref a1), .unset, .unset, .unset, .unset, .unset, .unset, .unset, .unset, .unset] [])
    have bd0_0 : (-2147483648 ≤ f0_0.toInt ∧ f0_0.toInt ≤ 2147483647) := by omega
    refine Go.iload S3 at_51 rfl (pc' := 53) rfl ?_
    refine Go.iconst S3 (v := 1) at_53 rfl (pc' := 54) rfl ?_
    refine Go.icmp_le S3 at_54 (pt := 65) (by decide) (pc' := 57) rfl ?_ ?_
    · intro c54
      refine Go.iload S3 at_65 rfl (pc' := 67) rfl ?_
      refine Go.iconst S3 (v := 2) at_67 rfl (pc' := 68) rfl ?_
      refine Go.icmp_le S3 at_68 (pt := 79) (by decide) (pc' := 71) rfl ?_ ?_
      · intro c68
        refine Go.iload S3 at_79 rfl (pc' := 81) rfl ?_
        refine Go.if_le S3 at_81 (pt := 88) (by decide) (pc' := 84) rfl ?_ ?_
        · intro c81; exact absurd (by decide) c81
        · intro c81
          refine Go.iloadN S3 at_84 rfl (pc' := 85) rfl ?_
          refine Go.goto S3 at_85 (pc' := 90) (by decide) ?_
          refine Go.istore S3 at_90 (Ls' := #[.val (.int sh), .val (.int s0), .val (.int s1), .val (.int s2), .val (.int xx), .val (.int (1 : Int32)), .val (.int (2 : Int32)), .val (.int nf), .val (.ref a1), .val (.int s0), .unset, .unset, .unset, .unset, .unset, .unset, .unset, .unset]) rfl (pc' := 92) rfl ?_
          refine Go.iload S3 at_92 rfl (pc' := 94) rfl ?_
          refine Go.iconst S3 (v := 1) at_94 rfl (pc' := 95) rfl ?_
          refine Go.icmp_le S3 at_95 (pt := 102) (by decide) (pc' := 98) rfl ?_ ?_
          · intro c95
            refine Go.ldc S3 (wd23 hw) at_102 (pc' := 104) rfl ?_
            refine Go.istore S3 at_104 (Ls' := #[.val (.int sh), .val (.int s0), .val (.int s1), .val (.int s2), .val (.int xx), .val (.int (1 : Int32)), .val (.int (2 : Int32)), .val (.int nf), .val (.ref a1), .val (.int s0), .val (.int (-2147483648 : Int32)), .unset, .unset, .unset, .unset, .unset, .unset, .unset]) rfl (pc' := 106) rfl ?_
            refine Go.iload S3 at_106 rfl (pc' := 108) rfl ?_
            refine Go.iconst S3 (v := 2) at_108 rfl (pc' := 109) rfl ?_
            refine Go.icmp_le S3 at_109 (pt := 116) (by decide) (pc' := 112) rfl ?_ ?_
            · intro c109
              refine Go.ldc S3 (wd23 hw) at_116 (pc' := 118) rfl ?_
              refine Go.istore S3 at_118 (Ls' := #[.val (.int sh), .val (.int s0), .val (.int s1), .val (.int s2), .val (.int xx), .val (.int (1 : Int32)), .val (.int (2 : Int32)), .val (.int nf), .val (.ref a1), .val (.int s0), .val (.int (-2147483648 : Int32)), .val (.int (-2147483648 : Int32)), .unset, .unset, .unset, .unset, .unset, .unset]) rfl (pc' := 120) rfl ?_
              have hmn : own_min (1 : Int32) (2 : Int32) = (1 : Int32) := by decide
              exact j120 hw sh s0 s1 s2 xx (1 : Int32) (2 : Int32) nf a1 sa s0 (-2147483648 : Int32) (-2147483648 : Int32) 0 (S3.more (by decide) (by decide)) (by decide) X1 Fl3 Fs3 (by rw [hmn]; exact Fn3) (fun z _ => absurd (by decide) z) (fun z _ => absurd (by decide) z)
            · intro c109; exact absurd c109 (by decide)
          · intro c95; exact absurd c95 (by decide)
      · intro c68; exact absurd c68 (by decide)
    · intro c54; exact absurd c54 (by decide)
set_option maxRecDepth 65536 in
set_option maxHeartbeats 4000000 in
theorem own_A22 {p : Program} {l : Launch} {e : Env} {s : State} {m : MethodId} {args : Array Value} {below : List Frame} {meth : Method} {co : Code} {Z : State} {a0 : Array Value} (hw : HW Z a0) (sh s0 s1 s2 xx nf : Int32) {h0 h : Heap} {T : State} {locs : List Loc} (S : St p l e room_1 s m args below meth co Z x.cls code maxLocals ret x.name h0 [] T h locs 0 0) :
    Go p e below (PostOf Z s h0 [] room_1.cells room_1.slots (fun v h => v = some (.int 1))) T (mkF m 27 #[.val (.int sh), .val (.int s0), .val (.int s1), .val (.int s2), .val (.int xx), .val (.int (2 : Int32)), .val (.int (2 : Int32)), .val (.int nf), .unset, .unset, .unset, .unset, .unset, .unset, .unset, .unset, .unset, .unset] []) := by
  refine Go.new S (wd0 hw) (wd1 hw) (wd2 hw) at_27 (by decide) (by decide) (pc' := 30) rfl ?_
  intro T1 h1 a1 S1 E1 hg1 hz1 hk1 X1 D1
  have F1_excluded : Fld Z h1 a1 "com/example/opas/opas/Ranking" "excluded" "[I" .null := D1 (Or.inl (wd11 hw)) (ty := (.array .int)) (by decide)
  have F1_limit : Fld Z h1 a1 "com/example/opas/opas/Ranking" "limit" "I" (.int (0 : Int32)) := D1 (Or.inr (wd13 hw)) (ty := .int) (by decide)
  have F1_ids : Fld Z h1 a1 "com/example/opas/opas/Ranking" "ids" "[I" .null := D1 (Or.inl (wd19 hw)) (ty := (.array .int)) (by decide)
  have F1_scores : Fld Z h1 a1 "com/example/opas/opas/Ranking" "scores" "[D" .null := D1 (Or.inl (wd22 hw)) (ty := (.array .double)) (by decide)
  have F1_size : Fld Z h1 a1 "com/example/opas/opas/Ranking" "size" "I" (.int (0 : Int32)) := D1 (Or.inl (wd38 hw)) (ty := .int) (by decide)
  refine Go.dup S1 at_30 rfl (pc' := 31) rfl ?_
  refine Go.iload S1 at_31 rfl (pc' := 33) rfl ?_
  have hzo := S1.ext.1
  have hko := S1.keep.1
  refine Go.invokespecial S1 (y := ⟨"com/example/opas/opas/Ranking", "<init>", "(I)V"⟩) (rm_init2 hw a1 S1.ext hz1 X1 F1_excluded F1_limit F1_ids F1_scores F1_size) rfl rfl (wd3 hw) (wd4 hw) (wd2 hw) (wd5 hw) (by decide) at_33 rfl pd4 (argsL := [(.int (2 : Int32))]) rfl rfl rfl (by decide) (W := 1) rfl (by decide) (by decide) (by decide) (allS (Or.inr hk1) all0) (pc' := 36) rfl ?_
  intro v2 T2 h2 L2 S2 K2 q2
  obtain ⟨rfl, xa, ia, sa, kX, kI, kS, Fx, Fl, Fi, Fs, Fn, VX, VI, VS, hki, hks, nri, nrs, nis, nxr, nxi, nxs⟩ := q2
  replace X1 := X1.keep K2
  show Go _ _ _ _ T2 (mkF m 36 #[.val (.int sh), .val (.int s0), .val (.int s1), .val (.int s2), .val (.int xx), .val (.int (2 : Int32)), .val (.int (2 : Int32)), .val (.int nf), .unset, .unset, .unset, .unset, .unset, .unset, .unset, .unset, .unset, .unset] [(.ref a1)])
  have hzi := Nat.le_trans hzo hki
  have hzs := Nat.le_trans hzo hks
  replace hki := Nat.le_trans hko hki
  replace hks := Nat.le_trans hko hks
  refine Go.astore S2 at_36 rfl (Ls' := #[.val (.int sh), .val (.int s0), .val (.int s1), .val (.int s2), .val (.int xx), .val (.int (2 : Int32)), .val (.int (2 : Int32)), .val (.int nf), .val (.ref a1), .unset, .unset, .unset, .unset, .unset, .unset, .unset, .unset, .unset]) rfl (pc' := 38) rfl ?_
  refine Go.iload S2 at_38 rfl (pc' := 40) rfl ?_
  refine Go.if_le S2 at_40 (pt := 51) (by decide) (pc' := 43) rfl ?_ ?_
  · intro c40; exact absurd (by decide) c40
  · intro c40
    refine Go.aload S2 at_43 rfl rfl (pc' := 45) rfl ?_
    refine Go.iconst S2 (v := 0) at_45 rfl (pc' := 46) rfl ?_
    refine Go.iloadN S2 at_46 rfl (pc' := 47) rfl ?_
    refine Go.i2d S2 at_47 (pc' := 48) rfl ?_
    have bq0 := own_bd s0
    have ti0 := own_ti s0
    refine Go.invokevirtual S2 (y := ⟨"com/example/opas/opas/Ranking", "offer", "(ID)V"⟩) (rm_off20 hw a1 (0 : Int32) (s0.toInt64) xa kX ia sa kI kS 0 0 0 0 S2.ext X1 Fx Fl Fn VX Fi Fs VI VS hzi hzs nri nrs nis hz1 nxr nxi nxs (own_bd s0) ) (wd39 hw) (wd40 hw) (S2.nf (wd42 hw)) (wd42 hw) (wd41 hw) (wd2 hw) (wd43 hw) (by decide) X1 at_48 rfl pd7 (argsL := [(.int (0 : Int32)), (.double (FP.l2d (s0.toInt64)))]) rfl rfl rfl (by decide) (W := 0) rfl (by decide) (by decide) (by decide) (allS (Or.inr hk1) (allS (Or.inr hki) (allS (Or.inr hks) all0))) (pc' := 51) rfl ?_
    intro v3 T3 h3 L3 S3 K3 q3
    obtain ⟨rfl, Fx3, Fl3, Fi3, Fs3, Fn3, e0_0, e0_1, f0_0, f0_1, VI3, VS3, hP0⟩ := q3
    replace X1 := X1.keep K3
    replace VX := VX.keep K3 (ninS nxr (ninS nxi (ninS nxs nin0)))
    show Go _ _ _ _ T3 (mkF m 51 #[.val (.int sh), .val (.int s0), .val (.int s1), .val (.int s2), .val (.int xx), .val (.int (2 : Int32)), .val (.int (2 : Int32)), .val (.int nf), .val (.ref a1), .unset, .unset, .unset, .unset, .unset, .unset, .unset, .unset, .unset] [])
    have bd0_0 : (-2147483648 ≤ f0_0.toInt ∧ f0_0.toInt ≤ 2147483647) := by omega
    refine Go.iload S3 at_51 rfl (pc' := 53) rfl ?_
    refine Go.iconst S3 (v := 1) at_53 rfl (pc' := 54) rfl ?_
    refine Go.icmp_le S3 at_54 (pt := 65) (by decide) (pc' := 57) rfl ?_ ?_
    · intro c54; exact absurd (by decide) c54
    · intro c54
      refine Go.aload S3 at_57 rfl rfl (pc' := 59) rfl ?_
      refine Go.iconst S3 (v := 1) at_59 rfl (pc' := 60) rfl ?_
      refine Go.iloadN S3 at_60 rfl (pc' := 61) rfl ?_
      refine Go.i2d S3 at_61 (pc' := 62) rfl ?_
      have bq1 := own_bd s1
      have ti1 := own_ti s1
      refine Go.invokevirtual S3 (y := ⟨"com/example/opas/opas/Ranking", "offer", "(ID)V"⟩) (rm_off21 hw a1 (1 : Int32) (s1.toInt64) xa kX ia sa kI kS e0_0 e0_1 f0_0 f0_1 S3.ext X1 Fx3 Fl3 Fn3 VX Fi3 Fs3 VI3 VS3 hzi hzs nri nrs nis hz1 nxr nxi nxs (own_bd s1) bd0_0) (wd39 hw) (wd40 hw) (S3.nf (wd42 hw)) (wd42 hw) (wd41 hw) (wd2 hw) (wd43 hw) (by decide) X1 at_62 rfl pd7 (argsL := [(.int (1 : Int32)), (.double (FP.l2d (s1.toInt64)))]) rfl rfl rfl (by decide) (W := 0) rfl (by decide) (by decide) (by decide) (allS (Or.inr hk1) (allS (Or.inr hki) (allS (Or.inr hks) all0))) (pc' := 65) rfl ?_
      intro v4 T4 h4 L4 S4 K4 q4
      obtain ⟨rfl, Fx4, Fl4, Fi4, Fs4, Fn4, e1_0, e1_1, f1_0, f1_1, VI4, VS4, hP1⟩ := q4
      replace X1 := X1.keep K4
      replace VX := VX.keep K4 (ninS nxr (ninS nxi (ninS nxs nin0)))
      show Go _ _ _ _ T4 (mkF m 65 #[.val (.int sh), .val (.int s0), .val (.int s1), .val (.int s2), .val (.int xx), .val (.int (2 : Int32)), .val (.int (2 : Int32)), .val (.int nf), .val (.ref a1), .unset, .unset, .unset, .unset, .unset, .unset, .unset, .unset, .unset] [])
      have bd1_0 : (-2147483648 ≤ f1_0.toInt ∧ f1_0.toInt ≤ 2147483647) := by omega
      have bd1_1 : (-2147483648 ≤ f1_1.toInt ∧ f1_1.toInt ≤ 2147483647) := by omega
      refine Go.iload S4 at_65 rfl (pc' := 67) rfl ?_
      refine Go.iconst S4 (v := 2) at_67 rfl (pc' := 68) rfl ?_
      refine Go.icmp_le S4 at_68 (pt := 79) (by decide) (pc' := 71) rfl ?_ ?_
      · intro c68
        refine Go.iload S4 at_79 rfl (pc' := 81) rfl ?_
        refine Go.if_le S4 at_81 (pt := 88) (by decide) (pc' := 84) rfl ?_ ?_
        · intro c81; exact absurd (by decide) c81
        · intro c81
          refine Go.iloadN S4 at_84 rfl (pc' := 85) rfl ?_
          refine Go.goto S4 at_85 (pc' := 90) (by decide) ?_
          refine Go.istore S4 at_90 (Ls' := #[.val (.int sh), .val (.int s0), .val (.int s1), .val (.int s2), .val (.int xx), .val (.int (2 : Int32)), .val (.int (2 : Int32)), .val (.int nf), .val (.ref a1), .val (.int s0), .unset, .unset, .unset, .unset, .unset, .unset, .unset, .unset]) rfl (pc' := 92) rfl ?_
          refine Go.iload S4 at_92 rfl (pc' := 94) rfl ?_
          refine Go.iconst S4 (v := 1) at_94 rfl (pc' := 95) rfl ?_
          refine Go.icmp_le S4 at_95 (pt := 102) (by decide) (pc' := 98) rfl ?_ ?_
          · intro c95; exact absurd (by decide) c95
          · intro c95
            refine Go.iloadN S4 at_98 rfl (pc' := 99) rfl ?_
            refine Go.goto S4 at_99 (pc' := 104) (by decide) ?_
            refine Go.istore S4 at_104 (Ls' := #[.val (.int sh), .val (.int s0), .val (.int s1), .val (.int s2), .val (.int xx), .val (.int (2 : Int32)), .val (.int (2 : Int32)), .val (.int nf), .val (.ref a1), .val (.int s0), .val (.int s1), .unset, .unset, .unset, .unset, .unset, .unset, .unset]) rfl (pc' := 106) rfl ?_
            refine Go.iload S4 at_106 rfl (pc' := 108) rfl ?_
            refine Go.iconst S4 (v := 2) at_108 rfl (pc' := 109) rfl ?_
            refine Go.icmp_le S4 at_109 (pt := 116) (by decide) (pc' := 112) rfl ?_ ?_
            · intro c109
              refine Go.ldc S4 (wd23 hw) at_116 (pc' := 118) rfl ?_
              refine Go.istore S4 at_118 (Ls' := #[.val (.int sh), .val (.int s0), .val (.int s1), .val (.int s2), .val (.int xx), .val (.int (2 : Int32)), .val (.int (2 : Int32)), .val (.int nf), .val (.ref a1), .val (.int s0), .val (.int s1), .val (.int (-2147483648 : Int32)), .unset, .unset, .unset, .unset, .unset, .unset]) rfl (pc' := 120) rfl ?_
              have eM : (-2147483648 : Int32).toInt = -2147483648 := by decide
              have rn0 := rng32 s0
              have rn1 := rng32 s1
              have rn2 := rng32 s2
              have hb : f1_0 = own_lg (2 : Int32) s0 s1 (-2147483648 : Int32) := by
                rw [← Int64.toInt_inj, own_lg2]
                omega
              have hmn : own_min (2 : Int32) (2 : Int32) = (2 : Int32) := by decide
              exact j120 hw sh s0 s1 s2 xx (2 : Int32) (2 : Int32) nf a1 sa s0 s1 (-2147483648 : Int32) f1_0 (S4.more (by decide) (by decide)) (by decide) X1 Fl4 Fs4 (by rw [hmn]; exact Fn4) (fun _ _ => ⟨bd1_0, kS, _, _, VS4, by decide, by decide⟩) (fun _ _ => hb)
            · intro c109; exact absurd c109 (by decide)
      · intro c68; exact absurd c68 (by decide)
set_option maxRecDepth 65536 in
set_option maxHeartbeats 4000000 in
theorem own_A23 {p : Program} {l : Launch} {e : Env} {s : State} {m : MethodId} {args : Array Value} {below : List Frame} {meth : Method} {co : Code} {Z : State} {a0 : Array Value} (hw : HW Z a0) (sh s0 s1 s2 xx nf : Int32) {h0 h : Heap} {T : State} {locs : List Loc} (S : St p l e room_1 s m args below meth co Z x.cls code maxLocals ret x.name h0 [] T h locs 0 0) :
    Go p e below (PostOf Z s h0 [] room_1.cells room_1.slots (fun v h => v = some (.int 1))) T (mkF m 27 #[.val (.int sh), .val (.int s0), .val (.int s1), .val (.int s2), .val (.int xx), .val (.int (3 : Int32)), .val (.int (2 : Int32)), .val (.int nf), .unset, .unset, .unset, .unset, .unset, .unset, .unset, .unset, .unset, .unset] []) := by
  refine Go.new S (wd0 hw) (wd1 hw) (wd2 hw) at_27 (by decide) (by decide) (pc' := 30) rfl ?_
  intro T1 h1 a1 S1 E1 hg1 hz1 hk1 X1 D1
  have F1_excluded : Fld Z h1 a1 "com/example/opas/opas/Ranking" "excluded" "[I" .null := D1 (Or.inl (wd11 hw)) (ty := (.array .int)) (by decide)
  have F1_limit : Fld Z h1 a1 "com/example/opas/opas/Ranking" "limit" "I" (.int (0 : Int32)) := D1 (Or.inr (wd13 hw)) (ty := .int) (by decide)
  have F1_ids : Fld Z h1 a1 "com/example/opas/opas/Ranking" "ids" "[I" .null := D1 (Or.inl (wd19 hw)) (ty := (.array .int)) (by decide)
  have F1_scores : Fld Z h1 a1 "com/example/opas/opas/Ranking" "scores" "[D" .null := D1 (Or.inl (wd22 hw)) (ty := (.array .double)) (by decide)
  have F1_size : Fld Z h1 a1 "com/example/opas/opas/Ranking" "size" "I" (.int (0 : Int32)) := D1 (Or.inl (wd38 hw)) (ty := .int) (by decide)
  refine Go.dup S1 at_30 rfl (pc' := 31) rfl ?_
  refine Go.iload S1 at_31 rfl (pc' := 33) rfl ?_
  have hzo := S1.ext.1
  have hko := S1.keep.1
  refine Go.invokespecial S1 (y := ⟨"com/example/opas/opas/Ranking", "<init>", "(I)V"⟩) (rm_init2 hw a1 S1.ext hz1 X1 F1_excluded F1_limit F1_ids F1_scores F1_size) rfl rfl (wd3 hw) (wd4 hw) (wd2 hw) (wd5 hw) (by decide) at_33 rfl pd4 (argsL := [(.int (2 : Int32))]) rfl rfl rfl (by decide) (W := 1) rfl (by decide) (by decide) (by decide) (allS (Or.inr hk1) all0) (pc' := 36) rfl ?_
  intro v2 T2 h2 L2 S2 K2 q2
  obtain ⟨rfl, xa, ia, sa, kX, kI, kS, Fx, Fl, Fi, Fs, Fn, VX, VI, VS, hki, hks, nri, nrs, nis, nxr, nxi, nxs⟩ := q2
  replace X1 := X1.keep K2
  show Go _ _ _ _ T2 (mkF m 36 #[.val (.int sh), .val (.int s0), .val (.int s1), .val (.int s2), .val (.int xx), .val (.int (3 : Int32)), .val (.int (2 : Int32)), .val (.int nf), .unset, .unset, .unset, .unset, .unset, .unset, .unset, .unset, .unset, .unset] [(.ref a1)])
  have hzi := Nat.le_trans hzo hki
  have hzs := Nat.le_trans hzo hks
  replace hki := Nat.le_trans hko hki
  replace hks := Nat.le_trans hko hks
  refine Go.astore S2 at_36 rfl (Ls' := #[.val (.int sh), .val (.int s0), .val (.int s1), .val (.int s2), .val (.int xx), .val (.int (3 : Int32)), .val (.int (2 : Int32)), .val (.int nf), .val (.ref a1), .unset, .unset, .unset, .unset, .unset, .unset, .unset, .unset, .unset]) rfl (pc' := 38) rfl ?_
  refine Go.iload S2 at_38 rfl (pc' := 40) rfl ?_
  refine Go.if_le S2 at_40 (pt := 51) (by decide) (pc' := 43) rfl ?_ ?_
  · intro c40; exact absurd (by decide) c40
  · intro c40
    refine Go.aload S2 at_43 rfl rfl (pc' := 45) rfl ?_
    refine Go.iconst S2 (v := 0) at_45 rfl (pc' := 46) rfl ?_
    refine Go.iloadN S2 at_46 rfl (pc' := 47) rfl ?_
    refine Go.i2d S2 at_47 (pc' := 48) rfl ?_
    have bq0 := own_bd s0
    have ti0 := own_ti s0
    refine Go.invokevirtual S2 (y := ⟨"com/example/opas/opas/Ranking", "offer", "(ID)V"⟩) (rm_off20 hw a1 (0 : Int32) (s0.toInt64) xa kX ia sa kI kS 0 0 0 0 S2.ext X1 Fx Fl Fn VX Fi Fs VI VS hzi hzs nri nrs nis hz1 nxr nxi nxs (own_bd s0) ) (wd39 hw) (wd40 hw) (S2.nf (wd42 hw)) (wd42 hw) (wd41 hw) (wd2 hw) (wd43 hw) (by decide) X1 at_48 rfl pd7 (argsL := [(.int (0 : Int32)), (.double (FP.l2d (s0.toInt64)))]) rfl rfl rfl (by decide) (W := 0) rfl (by decide) (by decide) (by decide) (allS (Or.inr hk1) (allS (Or.inr hki) (allS (Or.inr hks) all0))) (pc' := 51) rfl ?_
    intro v3 T3 h3 L3 S3 K3 q3
    obtain ⟨rfl, Fx3, Fl3, Fi3, Fs3, Fn3, e0_0, e0_1, f0_0, f0_1, VI3, VS3, hP0⟩ := q3
    replace X1 := X1.keep K3
    replace VX := VX.keep K3 (ninS nxr (ninS nxi (ninS nxs nin0)))
    show Go _ _ _ _ T3 (mkF m 51 #[.val (.int sh), .val (.int s0), .val (.int s1), .val (.int s2), .val (.int xx), .val (.int (3 : Int32)), .val (.int (2 : Int32)), .val (.int nf), .val (.ref a1), .unset, .unset, .unset, .unset, .unset, .unset, .unset, .unset, .unset] [])
    have bd0_0 : (-2147483648 ≤ f0_0.toInt ∧ f0_0.toInt ≤ 2147483647) := by omega
    refine Go.iload S3 at_51 rfl (pc' := 53) rfl ?_
    refine Go.iconst S3 (v := 1) at_53 rfl (pc' := 54) rfl ?_
    refine Go.icmp_le S3 at_54 (pt := 65) (by decide) (pc' := 57) rfl ?_ ?_
    · intro c54; exact absurd (by decide) c54
    · intro c54
      refine Go.aload S3 at_57 rfl rfl (pc' := 59) rfl ?_
      refine Go.iconst S3 (v := 1) at_59 rfl (pc' := 60) rfl ?_
      refine Go.iloadN S3 at_60 rfl (pc' := 61) rfl ?_
      refine Go.i2d S3 at_61 (pc' := 62) rfl ?_
      have bq1 := own_bd s1
      have ti1 := own_ti s1
      refine Go.invokevirtual S3 (y := ⟨"com/example/opas/opas/Ranking", "offer", "(ID)V"⟩) (rm_off21 hw a1 (1 : Int32) (s1.toInt64) xa kX ia sa kI kS e0_0 e0_1 f0_0 f0_1 S3.ext X1 Fx3 Fl3 Fn3 VX Fi3 Fs3 VI3 VS3 hzi hzs nri nrs nis hz1 nxr nxi nxs (own_bd s1) bd0_0) (wd39 hw) (wd40 hw) (S3.nf (wd42 hw)) (wd42 hw) (wd41 hw) (wd2 hw) (wd43 hw) (by decide) X1 at_62 rfl pd7 (argsL := [(.int (1 : Int32)), (.double (FP.l2d (s1.toInt64)))]) rfl rfl rfl (by decide) (W := 0) rfl (by decide) (by decide) (by decide) (allS (Or.inr hk1) (allS (Or.inr hki) (allS (Or.inr hks) all0))) (pc' := 65) rfl ?_
      intro v4 T4 h4 L4 S4 K4 q4
      obtain ⟨rfl, Fx4, Fl4, Fi4, Fs4, Fn4, e1_0, e1_1, f1_0, f1_1, VI4, VS4, hP1⟩ := q4
      replace X1 := X1.keep K4
      replace VX := VX.keep K4 (ninS nxr (ninS nxi (ninS nxs nin0)))
      show Go _ _ _ _ T4 (mkF m 65 #[.val (.int sh), .val (.int s0), .val (.int s1), .val (.int s2), .val (.int xx), .val (.int (3 : Int32)), .val (.int (2 : Int32)), .val (.int nf), .val (.ref a1), .unset, .unset, .unset, .unset, .unset, .unset, .unset, .unset, .unset] [])
      have bd1_0 : (-2147483648 ≤ f1_0.toInt ∧ f1_0.toInt ≤ 2147483647) := by omega
      have bd1_1 : (-2147483648 ≤ f1_1.toInt ∧ f1_1.toInt ≤ 2147483647) := by omega
      refine Go.iload S4 at_65 rfl (pc' := 67) rfl ?_
      refine Go.iconst S4 (v := 2) at_67 rfl (pc' := 68) rfl ?_
      refine Go.icmp_le S4 at_68 (pt := 79) (by decide) (pc' := 71) rfl ?_ ?_
      · intro c68; exact absurd (by decide) c68
      · intro c68
        refine Go.aload S4 at_71 rfl rfl (pc' := 73) rfl ?_
        refine Go.iconst S4 (v := 2) at_73 rfl (pc' := 74) rfl ?_
        refine Go.iloadN S4 at_74 rfl (pc' := 75) rfl ?_
        refine Go.i2d S4 at_75 (pc' := 76) rfl ?_
        have bq2 := own_bd s2
        have ti2 := own_ti s2
        refine Go.invokevirtual S4 (y := ⟨"com/example/opas/opas/Ranking", "offer", "(ID)V"⟩) (rm_off22 hw a1 (2 : Int32) (s2.toInt64) xa kX ia sa kI kS e1_0 e1_1 f1_0 f1_1 S4.ext X1 Fx4 Fl4 Fn4 VX Fi4 Fs4 VI4 VS4 hzi hzs nri nrs nis hz1 nxr nxi nxs (own_bd s2) bd1_0 bd1_1) (wd39 hw) (wd40 hw) (S4.nf (wd42 hw)) (wd42 hw) (wd41 hw) (wd2 hw) (wd43 hw) (by decide) X1 at_76 rfl pd7 (argsL := [(.int (2 : Int32)), (.double (FP.l2d (s2.toInt64)))]) rfl rfl rfl (by decide) (W := 0) rfl (by decide) (by decide) (by decide) (allS (Or.inr hk1) (allS (Or.inr hki) (allS (Or.inr hks) all0))) (pc' := 79) rfl ?_
        intro v5 T5 h5 L5 S5 K5 q5
        obtain ⟨rfl, Fx5, Fl5, Fi5, Fs5, Fn5, e2_0, e2_1, f2_0, f2_1, VI5, VS5, hP2⟩ := q5
        replace X1 := X1.keep K5
        replace VX := VX.keep K5 (ninS nxr (ninS nxi (ninS nxs nin0)))
        show Go _ _ _ _ T5 (mkF m 79 #[.val (.int sh), .val (.int s0), .val (.int s1), .val (.int s2), .val (.int xx), .val (.int (3 : Int32)), .val (.int (2 : Int32)), .val (.int nf), .val (.ref a1), .unset, .unset, .unset, .unset, .unset, .unset, .unset, .unset, .unset] [])
        have bd2_0 : (-2147483648 ≤ f2_0.toInt ∧ f2_0.toInt ≤ 2147483647) := by omega
        have bd2_1 : (-2147483648 ≤ f2_1.toInt ∧ f2_1.toInt ≤ 2147483647) := by omega
        refine Go.iload S5 at_79 rfl (pc' := 81) rfl ?_
        refine Go.if_le S5 at_81 (pt := 88) (by decide) (pc' := 84) rfl ?_ ?_
        · intro c81; exact absurd (by decide) c81
        · intro c81
          refine Go.iloadN S5 at_84 rfl (pc' := 85) rfl ?_
          refine Go.goto S5 at_85 (pc' := 90) (by decide) ?_
          refine Go.istore S5 at_90 (Ls' := #[.val (.int sh), .val (.int s0), .val (.int s1), .val (.int s2), .val (.int xx), .val (.int (3 : Int32)), .val (.int (2 : Int32)), .val (.int nf), .val (.ref a1), .val (.int s0), .unset, .unset, .unset, .unset, .unset, .unset, .unset, .unset]) rfl (pc' := 92) rfl ?_
          refine Go.iload S5 at_92 rfl (pc' := 94) rfl ?_
          refine Go.iconst S5 (v := 1) at_94 rfl (pc' := 95) rfl ?_
          refine Go.icmp_le S5 at_95 (pt := 102) (by decide) (pc' := 98) rfl ?_ ?_
          · intro c95; exact absurd (by decide) c95
          · intro c95
            refine Go.iloadN S5 at_98 rfl (pc' := 99) rfl ?_
            refine Go.goto S5 at_99 (pc' := 104) (by decide) ?_
            refine Go.istore S5 at_104 (Ls' := #[.val (.int sh), .val (.int s0), .val (.int s1), .val (.int s2), .val (.int xx), .val (.int (3 : Int32)), .val (.int (2 : Int32)), .val (.int nf), .val (.ref a1), .val (.int s0), .val (.int s1), .unset, .unset, .unset, .unset, .unset, .unset, .unset]) rfl (pc' := 106) rfl ?_
            refine Go.iload S5 at_106 rfl (pc' := 108) rfl ?_
            refine Go.iconst S5 (v := 2) at_108 rfl (pc' := 109) rfl ?_
            refine Go.icmp_le S5 at_109 (pt := 116) (by decide) (pc' := 112) rfl ?_ ?_
            · intro c109; exact absurd (by decide) c109
            · intro c109
              refine Go.iloadN S5 at_112 rfl (pc' := 113) rfl ?_
              refine Go.goto S5 at_113 (pc' := 118) (by decide) ?_
              refine Go.istore S5 at_118 (Ls' := #[.val (.int sh), .val (.int s0), .val (.int s1), .val (.int s2), .val (.int xx), .val (.int (3 : Int32)), .val (.int (2 : Int32)), .val (.int nf), .val (.ref a1), .val (.int s0), .val (.int s1), .val (.int s2), .unset, .unset, .unset, .unset, .unset, .unset]) rfl (pc' := 120) rfl ?_
              have eM : (-2147483648 : Int32).toInt = -2147483648 := by decide
              have rn0 := rng32 s0
              have rn1 := rng32 s1
              have rn2 := rng32 s2
              have hb : f2_0 = own_lg (2 : Int32) s0 s1 s2 := by
                rw [← Int64.toInt_inj, own_lg2]
                omega
              have hmn : own_min (3 : Int32) (2 : Int32) = (2 : Int32) := by decide
              exact j120 hw sh s0 s1 s2 xx (3 : Int32) (2 : Int32) nf a1 sa s0 s1 s2 f2_0 (S5.more (by decide) (by decide)) (by decide) X1 Fl5 Fs5 (by rw [hmn]; exact Fn5) (fun _ _ => ⟨bd2_0, kS, _, _, VS5, by decide, by decide⟩) (fun _ _ => hb)
set_option maxRecDepth 65536 in
set_option maxHeartbeats 4000000 in
theorem own_A30 {p : Program} {l : Launch} {e : Env} {s : State} {m : MethodId} {args : Array Value} {below : List Frame} {meth : Method} {co : Code} {Z : State} {a0 : Array Value} (hw : HW Z a0) (sh s0 s1 s2 xx nf : Int32) {h0 h : Heap} {T : State} {locs : List Loc} (S : St p l e room_1 s m args below meth co Z x.cls code maxLocals ret x.name h0 [] T h locs 0 0) :
    Go p e below (PostOf Z s h0 [] room_1.cells room_1.slots (fun v h => v = some (.int 1))) T (mkF m 27 #[.val (.int sh), .val (.int s0), .val (.int s1), .val (.int s2), .val (.int xx), .val (.int (0 : Int32)), .val (.int (3 : Int32)), .val (.int nf), .unset, .unset, .unset, .unset, .unset, .unset, .unset, .unset, .unset, .unset] []) := by
  refine Go.new S (wd0 hw) (wd1 hw) (wd2 hw) at_27 (by decide) (by decide) (pc' := 30) rfl ?_
  intro T1 h1 a1 S1 E1 hg1 hz1 hk1 X1 D1
  have F1_excluded : Fld Z h1 a1 "com/example/opas/opas/Ranking" "excluded" "[I" .null := D1 (Or.inl (wd11 hw)) (ty := (.array .int)) (by decide)
  have F1_limit : Fld Z h1 a1 "com/example/opas/opas/Ranking" "limit" "I" (.int (0 : Int32)) := D1 (Or.inr (wd13 hw)) (ty := .int) (by decide)
  have F1_ids : Fld Z h1 a1 "com/example/opas/opas/Ranking" "ids" "[I" .null := D1 (Or.inl (wd19 hw)) (ty := (.array .int)) (by decide)
  have F1_scores : Fld Z h1 a1 "com/example/opas/opas/Ranking" "scores" "[D" .null := D1 (Or.inl (wd22 hw)) (ty := (.array .double)) (by decide)
  have F1_size : Fld Z h1 a1 "com/example/opas/opas/Ranking" "size" "I" (.int (0 : Int32)) := D1 (Or.inl (wd38 hw)) (ty := .int) (by decide)
  refine Go.dup S1 at_30 rfl (pc' := 31) rfl ?_
  refine Go.iload S1 at_31 rfl (pc' := 33) rfl ?_
  have hzo := S1.ext.1
  have hko := S1.keep.1
  refine Go.invokespecial S1 (y := ⟨"com/example/opas/opas/Ranking", "<init>", "(I)V"⟩) (rm_init3 hw a1 S1.ext hz1 X1 F1_excluded F1_limit F1_ids F1_scores F1_size) rfl rfl (wd3 hw) (wd4 hw) (wd2 hw) (wd5 hw) (by decide) at_33 rfl pd4 (argsL := [(.int (3 : Int32))]) rfl rfl rfl (by decide) (W := 1) rfl (by decide) (by decide) (by decide) (allS (Or.inr hk1) all0) (pc' := 36) rfl ?_
  intro v2 T2 h2 L2 S2 K2 q2
  obtain ⟨rfl, xa, ia, sa, kX, kI, kS, Fx, Fl, Fi, Fs, Fn, VX, VI, VS, hki, hks, nri, nrs, nis, nxr, nxi, nxs⟩ := q2
  replace X1 := X1.keep K2
  show Go _ _ _ _ T2 (mkF m 36 #[.val (.int sh), .val (.int s0), .val (.int s1), .val (.int s2), .val (.int xx), .val (.int (0 : Int32)), .val (.int (3 : Int32)), .val (.int nf), .unset, .unset, .unset, .unset, .unset, .unset, .unset, .unset, .unset, .unset] [(.ref a1)])
  have hzi := Nat.le_trans hzo hki
  have hzs := Nat.le_trans hzo hks
  replace hki := Nat.le_trans hko hki
  replace hks := Nat.le_trans hko hks
  refine Go.astore S2 at_36 rfl (Ls' := #[.val (.int sh), .val (.int s0), .val (.int s1), .val (.int s2), .val (.int xx), .val (.int (0 : Int32)), .val (.int (3 : Int32)), .val (.int nf), .val (.ref a1), .unset, .unset, .unset, .unset, .unset, .unset, .unset, .unset, .unset]) rfl (pc' := 38) rfl ?_
  refine Go.iload S2 at_38 rfl (pc' := 40) rfl ?_
  refine Go.if_le S2 at_40 (pt := 51) (by decide) (pc' := 43) rfl ?_ ?_
  · intro c40
    refine Go.iload S2 at_51 rfl (pc' := 53) rfl ?_
    refine Go.iconst S2 (v := 1) at_53 rfl (pc' := 54) rfl ?_
    refine Go.icmp_le S2 at_54 (pt := 65) (by decide) (pc' := 57) rfl ?_ ?_
    · intro c54
      refine Go.iload S2 at_65 rfl (pc' := 67) rfl ?_
      refine Go.iconst S2 (v := 2) at_67 rfl (pc' := 68) rfl ?_
      refine Go.icmp_le S2 at_68 (pt := 79) (by decide) (pc' := 71) rfl ?_ ?_
      · intro c68
        refine Go.iload S2 at_79 rfl (pc' := 81) rfl ?_
        refine Go.if_le S2 at_81 (pt := 88) (by decide) (pc' := 84) rfl ?_ ?_
        · intro c81
          refine Go.ldc S2 (wd23 hw) at_88 (pc' := 90) rfl ?_
          refine Go.istore S2 at_90 (Ls' := #[.val (.int sh), .val (.int s0), .val (.int s1), .val (.int s2), .val (.int xx), .val (.int (0 : Int32)), .val (.int (3 : Int32)), .val (.int nf), .val (.ref a1), .val (.int (-2147483648 : Int32)), .unset, .unset, .unset, .unset, .unset, .unset, .unset, .unset]) rfl (pc' := 92) rfl ?_
          refine Go.iload S2 at_92 rfl (pc' := 94) rfl ?_
          refine Go.iconst S2 (v := 1) at_94 rfl (pc' := 95) rfl ?_
          refine Go.icmp_le S2 at_95 (pt := 102) (by decide) (pc' := 98) rfl ?_ ?_
          · intro c95
            refine Go.ldc S2 (wd23 hw) at_102 (pc' := 104) rfl ?_
            refine Go.istore S2 at_104 (Ls' := #[.val (.int sh), .val (.int s0), .val (.int s1), .val (.int s2), .val (.int xx), .val (.int (0 : Int32)), .val (.int (3 : Int32)), .val (.int nf), .val (.ref a1), .val (.int (-2147483648 : Int32)), .val (.int (-2147483648 : Int32)), .unset, .unset, .unset, .unset, .unset, .unset, .unset]) rfl (pc' := 106) rfl ?_
            refine Go.iload S2 at_106 rfl (pc' := 108) rfl ?_
            refine Go.iconst S2 (v := 2) at_108 rfl (pc' := 109) rfl ?_
            refine Go.icmp_le S2 at_109 (pt := 116) (by decide) (pc' := 112) rfl ?_ ?_
            · intro c109
              refine Go.ldc S2 (wd23 hw) at_116 (pc' := 118) rfl ?_
              refine Go.istore S2 at_118 (Ls' := #[.val (.int sh), .val (.int s0), .val (.int s1), .val (.int s2), .val (.int xx), .val (.int (0 : Int32)), .val (.int (3 : Int32)), .val (.int nf), .val (.ref a1), .val (.int (-2147483648 : Int32)), .val (.int (-2147483648 : Int32)), .val (.int (-2147483648 : Int32)), .unset, .unset, .unset, .unset, .unset, .unset]) rfl (pc' := 120) rfl ?_
              have hmn : own_min (0 : Int32) (3 : Int32) = (0 : Int32) := by decide
              exact j120 hw sh s0 s1 s2 xx (0 : Int32) (3 : Int32) nf a1 sa (-2147483648 : Int32) (-2147483648 : Int32) (-2147483648 : Int32) 0 (S2.more (by decide) (by decide)) (by decide) X1 Fl Fs (by rw [hmn]; exact Fn) (fun z _ => absurd (by decide) z) (fun z _ => absurd (by decide) z)
            · intro c109; exact absurd c109 (by decide)
          · intro c95; exact absurd c95 (by decide)
        · intro c81; exact absurd c81 (by decide)
      · intro c68; exact absurd c68 (by decide)
    · intro c54; exact absurd c54 (by decide)
  · intro c40; exact absurd c40 (by decide)
set_option maxRecDepth 65536 in
set_option maxHeartbeats 4000000 in
theorem own_A31 {p : Program} {l : Launch} {e : Env} {s : State} {m : MethodId} {args : Array Value} {below : List Frame} {meth : Method} {co : Code} {Z : State} {a0 : Array Value} (hw : HW Z a0) (sh s0 s1 s2 xx nf : Int32) {h0 h : Heap} {T : State} {locs : List Loc} (S : St p l e room_1 s m args below meth co Z x.cls code maxLocals ret x.name h0 [] T h locs 0 0) :
    Go p e below (PostOf Z s h0 [] room_1.cells room_1.slots (fun v h => v = some (.int 1))) T (mkF m 27 #[.val (.int sh), .val (.int s0), .val (.int s1), .val (.int s2), .val (.int xx), .val (.int (1 : Int32)), .val (.int (3 : Int32)), .val (.int nf), .unset, .unset, .unset, .unset, .unset, .unset, .unset, .unset, .unset, .unset] []) := by
  refine Go.new S (wd0 hw) (wd1 hw) (wd2 hw) at_27 (by decide) (by decide) (pc' := 30) rfl ?_
  intro T1 h1 a1 S1 E1 hg1 hz1 hk1 X1 D1
  have F1_excluded : Fld Z h1 a1 "com/example/opas/opas/Ranking" "excluded" "[I" .null := D1 (Or.inl (wd11 hw)) (ty := (.array .int)) (by decide)
  have F1_limit : Fld Z h1 a1 "com/example/opas/opas/Ranking" "limit" "I" (.int (0 : Int32)) := D1 (Or.inr (wd13 hw)) (ty := .int) (by decide)
  have F1_ids : Fld Z h1 a1 "com/example/opas/opas/Ranking" "ids" "[I" .null := D1 (Or.inl (wd19 hw)) (ty := (.array .int)) (by decide)
  have F1_scores : Fld Z h1 a1 "com/example/opas/opas/Ranking" "scores" "[D" .null := D1 (Or.inl (wd22 hw)) (ty := (.array .double)) (by decide)
  have F1_size : Fld Z h1 a1 "com/example/opas/opas/Ranking" "size" "I" (.int (0 : Int32)) := D1 (Or.inl (wd38 hw)) (ty := .int) (by decide)
  refine Go.dup S1 at_30 rfl (pc' := 31) rfl ?_
  refine Go.iload S1 at_31 rfl (pc' := 33) rfl ?_
  have hzo := S1.ext.1
  have hko := S1.keep.1
  refine Go.invokespecial S1 (y := ⟨"com/example/opas/opas/Ranking", "<init>", "(I)V"⟩) (rm_init3 hw a1 S1.ext hz1 X1 F1_excluded F1_limit F1_ids F1_scores F1_size) rfl rfl (wd3 hw) (wd4 hw) (wd2 hw) (wd5 hw) (by decide) at_33 rfl pd4 (argsL := [(.int (3 : Int32))]) rfl rfl rfl (by decide) (W := 1) rfl (by decide) (by decide) (by decide) (allS (Or.inr hk1) all0) (pc' := 36) rfl ?_
  intro v2 T2 h2 L2 S2 K2 q2
  obtain ⟨rfl, xa, ia, sa, kX, kI, kS, Fx, Fl, Fi, Fs, Fn, VX, VI, VS, hki, hks, nri, nrs, nis, nxr, nxi, nxs⟩ := q2
  replace X1 := X1.keep K2
  show Go _ _ _ _ T2 (mkF m 36 #[.val (.int sh), .val (.int s0), .val (.int s1), .val (.int s2), .val (.int xx), .val (.int (1 : Int32)), .val (.int (3 : Int32)), .val (.int nf), .unset, .unset, .unset, .unset, .unset, .unset, .unset, .unset, .unset, .unset] [(.ref a1)])
  have hzi := Nat.le_trans hzo hki
  have hzs := Nat.le_trans hzo hks
  replace hki := Nat.le_trans hko hki
  replace hks := Nat.le_trans hko hks
  refine Go.astore S2 at_36 rfl (Ls' := #[.val (.int sh), .val (.int s0), .val (.int s1), .val (.int s2), .val (.int xx), .val (.int (1 : Int32)), .val (.int (3 : Int32)), .val (.int nf), .val (.ref a1), .unset, .unset, .unset, .unset, .unset, .unset, .unset, .unset, .unset]) rfl (pc' := 38) rfl ?_
  refine Go.iload S2 at_38 rfl (pc' := 40) rfl ?_
  refine Go.if_le S2 at_40 (pt := 51) (by decide) (pc' := 43) rfl ?_ ?_
  · intro c40; exact absurd (by decide) c40
  · intro c40
    refine Go.aload S2 at_43 rfl rfl (pc' := 45) rfl ?_
    refine Go.iconst S2 (v := 0) at_45 rfl (pc' := 46) rfl ?_
    refine Go.iloadN S2 at_46 rfl (pc' := 47) rfl ?_
    refine Go.i2d S2 at_47 (pc' := 48) rfl ?_
    have bq0 := own_bd s0
    have ti0 := own_ti s0
    refine Go.invokevirtual S2 (y := ⟨"com/example/opas/opas/Ranking", "offer", "(ID)V"⟩) (rm_off30 hw a1 (0 : Int32) (s0.toInt64) xa kX ia sa kI kS 0 0 0 0 0 0 S2.ext X1 Fx Fl Fn VX Fi Fs VI VS hzi hzs nri nrs nis hz1 nxr nxi nxs (own_bd s0) ) (wd39 hw) (wd40 hw) (S2.nf (wd42 hw)) (wd42 hw) (wd41 hw) (wd2 hw) (wd43 hw) (by decide) X1 at_48 rfl pd7 (argsL := [(.int (0 : Int32)), (.double (FP.l2d (s0.toInt64)))]) rfl rfl rfl (by decide) (W := 0) rfl (by decide) (by decide) (by decide) (allS (Or.inr hk1) (allS (Or.inr hki) (allS (Or.inr hks) all0))) (pc' := 51) rfl ?_
    intro v3 T3 h3 L3 S3 K3 q3
    obtain ⟨rfl, Fx3, Fl3, Fi3, Fs3, Fn3, e0_0, e0_1, e0_2, f0_0, f0_1, f0_2, VI3, VS3, hP0⟩ := q3
    replace X1 := X1.keep K3
    replace VX := VX.keep K3 (ninS nxr (ninS nxi (ninS nxs nin0)))
    show Go _ _ _ _ T3 (mkF m 51 #[.val (.int sh), .val (.int s0), .val (.int s1), .val (.int s2), .val (.int xx), .val (.int (1 : Int32)), .val (.int (3 : Int32)), .val (.int nf), .val (.ref a1), .unset, .unset, .unset, .unset, .unset, .unset, .unset, .unset, .unset] [])
    have bd0_0 : (-2147483648 ≤ f0_0.toInt ∧ f0_0.toInt ≤ 2147483647) := by omega
    refine Go.iload S3 at_51 rfl (pc' := 53) rfl ?_
    refine Go.iconst S3 (v := 1) at_53 rfl (pc' := 54) rfl ?_
    refine Go.icmp_le S3 at_54 (pt := 65) (by decide) (pc' := 57) rfl ?_ ?_
    · intro c54
      refine Go.iload S3 at_65 rfl (pc' := 67) rfl ?_
      refine Go.iconst S3 (v := 2) at_67 rfl (pc' := 68) rfl ?_
      refine Go.icmp_le S3 at_68 (pt := 79) (by decide) (pc' := 71) rfl ?_ ?_
      · intro c68
        refine Go.iload S3 at_79 rfl (pc' := 81) rfl ?_
        refine Go.if_le S3 at_81 (pt := 88) (by decide) (pc' := 84) rfl ?_ ?_
        · intro c81; exact absurd (by decide) c81
        · intro c81
          refine Go.iloadN S3 at_84 rfl (pc' := 85) rfl ?_
          refine Go.goto S3 at_85 (pc' := 90) (by decide) ?_
          refine Go.istore S3 at_90 (Ls' := #[.val (.int sh), .val (.int s0), .val (.int s1), .val (.int s2), .val (.int xx), .val (.int (1 : Int32)), .val (.int (3 : Int32)), .val (.int nf), .val (.ref a1), .val (.int s0), .unset, .unset, .unset, .unset, .unset, .unset, .unset, .unset]) rfl (pc' := 92) rfl ?_
          refine Go.iload S3 at_92 rfl (pc' := 94) rfl ?_
          refine Go.iconst S3 (v := 1) at_94 rfl (pc' := 95) rfl ?_
          refine Go.icmp_le S3 at_95 (pt := 102) (by decide) (pc' := 98) rfl ?_ ?_
          · intro c95
            refine Go.ldc S3 (wd23 hw) at_102 (pc' := 104) rfl ?_
            refine Go.istore S3 at_104 (Ls' := #[.val (.int sh), .val (.int s0), .val (.int s1), .val (.int s2), .val (.int xx), .val (.int (1 : Int32)), .val (.int (3 : Int32)), .val (.int nf), .val (.ref a1), .val (.int s0), .val (.int (-2147483648 : Int32)), .unset, .unset, .unset, .unset, .unset, .unset, .unset]) rfl (pc' := 106) rfl ?_
            refine Go.iload S3 at_106 rfl (pc' := 108) rfl ?_
            refine Go.iconst S3 (v := 2) at_108 rfl (pc' := 109) rfl ?_
            refine Go.icmp_le S3 at_109 (pt := 116) (by decide) (pc' := 112) rfl ?_ ?_
            · intro c109
              refine Go.ldc S3 (wd23 hw) at_116 (pc' := 118) rfl ?_
              refine Go.istore S3 at_118 (Ls' := #[.val (.int sh), .val (.int s0), .val (.int s1), .val (.int s2), .val (.int xx), .val (.int (1 : Int32)), .val (.int (3 : Int32)), .val (.int nf), .val (.ref a1), .val (.int s0), .val (.int (-2147483648 : Int32)), .val (.int (-2147483648 : Int32)), .unset, .unset, .unset, .unset, .unset, .unset]) rfl (pc' := 120) rfl ?_
              have hmn : own_min (1 : Int32) (3 : Int32) = (1 : Int32) := by decide
              exact j120 hw sh s0 s1 s2 xx (1 : Int32) (3 : Int32) nf a1 sa s0 (-2147483648 : Int32) (-2147483648 : Int32) 0 (S3.more (by decide) (by decide)) (by decide) X1 Fl3 Fs3 (by rw [hmn]; exact Fn3) (fun z _ => absurd (by decide) z) (fun z _ => absurd (by decide) z)
            · intro c109; exact absurd c109 (by decide)
          · intro c95; exact absurd c95 (by decide)
      · intro c68; exact absurd c68 (by decide)
    · intro c54; exact absurd c54 (by decide)
set_option maxRecDepth 65536 in
set_option maxHeartbeats 4000000 in
theorem own_A32 {p : Program} {l : Launch} {e : Env} {s : State} {m : MethodId} {args : Array Value} {below : List Frame} {meth : Method} {co : Code} {Z : State} {a0 : Array Value} (hw : HW Z a0) (sh s0 s1 s2 xx nf : Int32) {h0 h : Heap} {T : State} {locs : List Loc} (S : St p l e room_1 s m args below meth co Z x.cls code maxLocals ret x.name h0 [] T h locs 0 0) :
    Go p e below (PostOf Z s h0 [] room_1.cells room_1.slots (fun v h => v = some (.int 1))) T (mkF m 27 #[.val (.int sh), .val (.int s0), .val (.int s1), .val (.int s2), .val (.int xx), .val (.int (2 : Int32)), .val (.int (3 : Int32)), .val (.int nf), .unset, .unset, .unset, .unset, .unset, .unset, .unset, .unset, .unset, .unset] []) := by
  refine Go.new S (wd0 hw) (wd1 hw) (wd2 hw) at_27 (by decide) (by decide) (pc' := 30) rfl ?_
  intro T1 h1 a1 S1 E1 hg1 hz1 hk1 X1 D1
  have F1_excluded : Fld Z h1 a1 "com/example/opas/opas/Ranking" "excluded" "[I" .null := D1 (Or.inl (wd11 hw)) (ty := (.array .int)) (by decide)
  have F1_limit : Fld Z h1 a1 "com/example/opas/opas/Ranking" "limit" "I" (.int (0 : Int32)) := D1 (Or.inr (wd13 hw)) (ty := .int) (by decide)
  have F1_ids : Fld Z h1 a1 "com/example/opas/opas/Ranking" "ids" "[I" .null := D1 (Or.inl (wd19 hw)) (ty := (.array .int)) (by decide)
  have F1_scores : Fld Z h1 a1 "com/example/opas/opas/Ranking" "scores" "[D" .null := D1 (Or.inl (wd22 hw)) (ty := (.array .double)) (by decide)
  have F1_size : Fld Z h1 a1 "com/example/opas/opas/Ranking" "size" "I" (.int (0 : Int32)) := D1 (Or.inl (wd38 hw)) (ty := .int) (by decide)
  refine Go.dup S1 at_30 rfl (pc' := 31) rfl ?_
  refine Go.iload S1 at_31 rfl (pc' := 33) rfl ?_
  have hzo := S1.ext.1
  have hko := S1.keep.1
  refine Go.invokespecial S1 (y := ⟨"com/example/opas/opas/Ranking", "<init>", "(I)V"⟩) (rm_init3 hw a1 S1.ext hz1 X1 F1_excluded F1_limit F1_ids F1_scores F1_size) rfl rfl (wd3 hw) (wd4 hw) (wd2 hw) (wd5 hw) (by decide) at_33 rfl pd4 (argsL := [(.int (3 : Int32))]) rfl rfl rfl (by decide) (W := 1) rfl (by decide) (by decide) (by decide) (allS (Or.inr hk1) all0) (pc' := 36) rfl ?_
  intro v2 T2 h2 L2 S2 K2 q2
  obtain ⟨rfl, xa, ia, sa, kX, kI, kS, Fx, Fl, Fi, Fs, Fn, VX, VI, VS, hki, hks, nri, nrs, nis, nxr, nxi, nxs⟩ := q2
  replace X1 := X1.keep K2
  show Go _ _ _ _ T2 (mkF m 36 #[.val (.int sh), .val (.int s0), .val (.int s1), .val (.int s2), .val (.int xx), .val (.int (2 : Int32)), .val (.int (3 : Int32)), .val (.int nf), .unset, .unset, .unset, .unset, .unset, .unset, .unset, .unset, .unset, .unset] [(.ref a1)])
  have hzi := Nat.le_trans hzo hki
  have hzs := Nat.le_trans hzo hks
  replace hki := Nat.le_trans hko hki
  replace hks := Nat.le_trans hko hks
  refine Go.astore S2 at_36 rfl (Ls' := #[.val (.int sh), .val (.int s0), .val (.int s1), .val (.int s2), .val (.int xx), .val (.int (2 : Int32)), .val (.int (3 : Int32)), .val (.int nf), .val (.ref a1), .unset, .unset, .unset, .unset, .unset, .unset, .unset, .unset, .unset]) rfl (pc' := 38) rfl ?_
  refine Go.iload S2 at_38 rfl (pc' := 40) rfl ?_
  refine Go.if_le S2 at_40 (pt := 51) (by decide) (pc' := 43) rfl ?_ ?_
  · intro c40; exact absurd (by decide) c40
  · intro c40
    refine Go.aload S2 at_43 rfl rfl (pc' := 45) rfl ?_
    refine Go.iconst S2 (v := 0) at_45 rfl (pc' := 46) rfl ?_
    refine Go.iloadN S2 at_46 rfl (pc' := 47) rfl ?_
    refine Go.i2d S2 at_47 (pc' := 48) rfl ?_
    have bq0 := own_bd s0
    have ti0 := own_ti s0
    refine Go.invokevirtual S2 (y := ⟨"com/example/opas/opas/Ranking", "offer", "(ID)V"⟩) (rm_off30 hw a1 (0 : Int32) (s0.toInt64) xa kX ia sa kI kS 0 0 0 0 0 0 S2.ext X1 Fx Fl Fn VX Fi Fs VI VS hzi hzs nri nrs nis hz1 nxr nxi nxs (own_bd s0) ) (wd39 hw) (wd40 hw) (S2.nf (wd42 hw)) (wd42 hw) (wd41 hw) (wd2 hw) (wd43 hw) (by decide) X1 at_48 rfl pd7 (argsL := [(.int (0 : Int32)), (.double (FP.l2d (s0.toInt64)))]) rfl rfl rfl (by decide) (W := 0) rfl (by decide) (by decide) (by decide) (allS (Or.inr hk1) (allS (Or.inr hki) (allS (Or.inr hks) all0))) (pc' := 51) rfl ?_
    intro v3 T3 h3 L3 S3 K3 q3
    obtain ⟨rfl, Fx3, Fl3, Fi3, Fs3, Fn3, e0_0, e0_1, e0_2, f0_0, f0_1, f0_2, VI3, VS3, hP0⟩ := q3
    replace X1 := X1.keep K3
    replace VX := VX.keep K3 (ninS nxr (ninS nxi (ninS nxs nin0)))
    show Go _ _ _ _ T3 (mkF m 51 #[.val (.int sh), .val (.int s0), .val (.int s1), .val (.int s2), .val (.int xx), .val (.int (2 : Int32)), .val (.int (3 : Int32)), .val (.int nf), .val (.ref a1), .unset, .unset, .unset, .unset, .unset, .unset, .unset, .unset, .unset] [])
    have bd0_0 : (-2147483648 ≤ f0_0.toInt ∧ f0_0.toInt ≤ 2147483647) := by omega
    refine Go.iload S3 at_51 rfl (pc' := 53) rfl ?_
    refine Go.iconst S3 (v := 1) at_53 rfl (pc' := 54) rfl ?_
    refine Go.icmp_le S3 at_54 (pt := 65) (by decide) (pc' := 57) rfl ?_ ?_
    · intro c54; exact absurd (by decide) c54
    · intro c54
      refine Go.aload S3 at_57 rfl rfl (pc' := 59) rfl ?_
      refine Go.iconst S3 (v := 1) at_59 rfl (pc' := 60) rfl ?_
      refine Go.iloadN S3 at_60 rfl (pc' := 61) rfl ?_
      refine Go.i2d S3 at_61 (pc' := 62) rfl ?_
      have bq1 := own_bd s1
      have ti1 := own_ti s1
      refine Go.invokevirtual S3 (y := ⟨"com/example/opas/opas/Ranking", "offer", "(ID)V"⟩) (rm_off31 hw a1 (1 : Int32) (s1.toInt64) xa kX ia sa kI kS e0_0 e0_1 e0_2 f0_0 f0_1 f0_2 S3.ext X1 Fx3 Fl3 Fn3 VX Fi3 Fs3 VI3 VS3 hzi hzs nri nrs nis hz1 nxr nxi nxs (own_bd s1) bd0_0) (wd39 hw) (wd40 hw) (S3.nf (wd42 hw)) (wd42 hw) (wd41 hw) (wd2 hw) (wd43 hw) (by decide) X1 at_62 rfl pd7 (argsL := [(.int (1 : Int32)), (.double (FP.l2d (s1.toInt64)))]) rfl rfl rfl (by decide) (W := 0) rfl (by decide) (by decide) (by decide) (allS (Or.inr hk1) (allS (Or.inr hki) (allS (Or.inr hks) all0))) (pc' := 65) rfl ?_
      intro v4 T4 h4 L4 S4 K4 q4
      obtain ⟨rfl, Fx4, Fl4, Fi4, Fs4, Fn4, e1_0, e1_1, e1_2, f1_0, f1_1, f1_2, VI4, VS4, hP1⟩ := q4
      replace X1 := X1.keep K4
      replace VX := VX.keep K4 (ninS nxr (ninS nxi (ninS nxs nin0)))
      show Go _ _ _ _ T4 (mkF m 65 #[.val (.int sh), .val (.int s0), .val (.int s1), .val (.int s2), .val (.int xx), .val (.int (2 : Int32)), .val (.int (3 : Int32)), .val (.int nf), .val (.ref a1), .unset, .unset, .unset, .unset, .unset, .unset, .unset, .unset, .unset] [])
      have bd1_0 : (-2147483648 ≤ f1_0.toInt ∧ f1_0.toInt ≤ 2147483647) := by omega
      have bd1_1 : (-2147483648 ≤ f1_1.toInt ∧ f1_1.toInt ≤ 2147483647) := by omega
      refine Go.iload S4 at_65 rfl (pc' := 67) rfl ?_
      refine Go.iconst S4 (v := 2) at_67 rfl (pc' := 68) rfl ?_
      refine Go.icmp_le S4 at_68 (pt := 79) (by decide) (pc' := 71) rfl ?_ ?_
      · intro c68
        refine Go.iload S4 at_79 rfl (pc' := 81) rfl ?_
        refine Go.if_le S4 at_81 (pt := 88) (by decide) (pc' := 84) rfl ?_ ?_
        · intro c81; exact absurd (by decide) c81
        · intro c81
          refine Go.iloadN S4 at_84 rfl (pc' := 85) rfl ?_
          refine Go.goto S4 at_85 (pc' := 90) (by decide) ?_
          refine Go.istore S4 at_90 (Ls' := #[.val (.int sh), .val (.int s0), .val (.int s1), .val (.int s2), .val (.int xx), .val (.int (2 : Int32)), .val (.int (3 : Int32)), .val (.int nf), .val (.ref a1), .val (.int s0), .unset, .unset, .unset, .unset, .unset, .unset, .unset, .unset]) rfl (pc' := 92) rfl ?_
          refine Go.iload S4 at_92 rfl (pc' := 94) rfl ?_
          refine Go.iconst S4 (v := 1) at_94 rfl (pc' := 95) rfl ?_
          refine Go.icmp_le S4 at_95 (pt := 102) (by decide) (pc' := 98) rfl ?_ ?_
          · intro c95; exact absurd (by decide) c95
          · intro c95
            refine Go.iloadN S4 at_98 rfl (pc' := 99) rfl ?_
            refine Go.goto S4 at_99 (pc' := 104) (by decide) ?_
            refine Go.istore S4 at_104 (Ls' := #[.val (.int sh), .val (.int s0), .val (.int s1), .val (.int s2), .val (.int xx), .val (.int (2 : Int32)), .val (.int (3 : Int32)), .val (.int nf), .val (.ref a1), .val (.int s0), .val (.int s1), .unset, .unset, .unset, .unset, .unset, .unset, .unset]) rfl (pc' := 106) rfl ?_
            refine Go.iload S4 at_106 rfl (pc' := 108) rfl ?_
            refine Go.iconst S4 (v := 2) at_108 rfl (pc' := 109) rfl ?_
            refine Go.icmp_le S4 at_109 (pt := 116) (by decide) (pc' := 112) rfl ?_ ?_
            · intro c109
              refine Go.ldc S4 (wd23 hw) at_116 (pc' := 118) rfl ?_
              refine Go.istore S4 at_118 (Ls' := #[.val (.int sh), .val (.int s0), .val (.int s1), .val (.int s2), .val (.int xx), .val (.int (2 : Int32)), .val (.int (3 : Int32)), .val (.int nf), .val (.ref a1), .val (.int s0), .val (.int s1), .val (.int (-2147483648 : Int32)), .unset, .unset, .unset, .unset, .unset, .unset]) rfl (pc' := 120) rfl ?_
              have hmn : own_min (2 : Int32) (3 : Int32) = (2 : Int32) := by decide
              exact j120 hw sh s0 s1 s2 xx (2 : Int32) (3 : Int32) nf a1 sa s0 s1 (-2147483648 : Int32) 0 (S4.more (by decide) (by decide)) (by decide) X1 Fl4 Fs4 (by rw [hmn]; exact Fn4) (fun z _ => absurd (by decide) z) (fun z _ => absurd (by decide) z)
            · intro c109; exact absurd c109 (by decide)
      · intro c68; exact absurd c68 (by decide)
set_option maxRecDepth 65536 in
set_option maxHeartbeats 4000000 in
theorem own_A33 {p : Program} {l : Launch} {e : Env} {s : State} {m : MethodId} {args : Array Value} {below : List Frame} {meth : Method} {co : Code} {Z : State} {a0 : Array Value} (hw : HW Z a0) (sh s0 s1 s2 xx nf : Int32) {h0 h : Heap} {T : State} {locs : List Loc} (S : St p l e room_1 s m args below meth co Z x.cls code maxLocals ret x.name h0 [] T h locs 0 0) :
    Go p e below (PostOf Z s h0 [] room_1.cells room_1.slots (fun v h => v = some (.int 1))) T (mkF m 27 #[.val (.int sh), .val (.int s0), .val (.int s1), .val (.int s2), .val (.int xx), .val (.int (3 : Int32)), .val (.int (3 : Int32)), .val (.int nf), .unset, .unset, .unset, .unset, .unset, .unset, .unset, .unset, .unset, .unset] []) := by
  refine Go.new S (wd0 hw) (wd1 hw) (wd2 hw) at_27 (by decide) (by decide) (pc' := 30) rfl ?_
  intro T1 h1 a1 S1 E1 hg1 hz1 hk1 X1 D1
  have F1_excluded : Fld Z h1 a1 "com/example/opas/opas/Ranking" "excluded" "[I" .null := D1 (Or.inl (wd11 hw)) (ty := (.array .int)) (by decide)
  have F1_limit : Fld Z h1 a1 "com/example/opas/opas/Ranking" "limit" "I" (.int (0 : Int32)) := D1 (Or.inr (wd13 hw)) (ty := .int) (by decide)
  have F1_ids : Fld Z h1 a1 "com/example/opas/opas/Ranking" "ids" "[I" .null := D1 (Or.inl (wd19 hw)) (ty := (.array .int)) (by decide)
  have F1_scores : Fld Z h1 a1 "com/example/opas/opas/Ranking" "scores" "[D" .null := D1 (Or.inl (wd22 hw)) (ty := (.array .double)) (by decide)
  have F1_size : Fld Z h1 a1 "com/example/opas/opas/Ranking" "size" "I" (.int (0 : Int32)) := D1 (Or.inl (wd38 hw)) (ty := .int) (by decide)
  refine Go.dup S1 at_30 rfl (pc' := 31) rfl ?_
  refine Go.iload S1 at_31 rfl (pc' := 33) rfl ?_
  have hzo := S1.ext.1
  have hko := S1.keep.1
  refine Go.invokespecial S1 (y := ⟨"com/example/opas/opas/Ranking", "<init>", "(I)V"⟩) (rm_init3 hw a1 S1.ext hz1 X1 F1_excluded F1_limit F1_ids F1_scores F1_size) rfl rfl (wd3 hw) (wd4 hw) (wd2 hw) (wd5 hw) (by decide) at_33 rfl pd4 (argsL := [(.int (3 : Int32))]) rfl rfl rfl (by decide) (W := 1) rfl (by decide) (by decide) (by decide) (allS (Or.inr hk1) all0) (pc' := 36) rfl ?_
  intro v2 T2 h2 L2 S2 K2 q2
  obtain ⟨rfl, xa, ia, sa, kX, kI, kS, Fx, Fl, Fi, Fs, Fn, VX, VI, VS, hki, hks, nri, nrs, nis, nxr, nxi, nxs⟩ := q2
  replace X1 := X1.keep K2
  show Go _ _ _ _ T2 (mkF m 36 #[.val (.int sh), .val (.int s0), .val (.int s1), .val (.int s2), .val (.int xx), .val (.int (3 : Int32)), .val (.int (3 : Int32)), .val (.int nf), .unset, .unset, .unset, .unset, .unset, .unset, .unset, .unset, .unset, .unset] [(.ref a1)])
  have hzi := Nat.le_trans hzo hki
  have hzs := Nat.le_trans hzo hks
  replace hki := Nat.le_trans hko hki
  replace hks := Nat.le_trans hko hks
  refine Go.astore S2 at_36 rfl (Ls' := #[.val (.int sh), .val (.int s0), .val (.int s1), .val (.int s2), .val (.int xx), .val (.int (3 : Int32)), .val (.int (3 : Int32)), .val (.int nf), .val (.ref a1), .unset, .unset, .unset, .unset, .unset, .unset, .unset, .unset, .unset]) rfl (pc' := 38) rfl ?_
  refine Go.iload S2 at_38 rfl (pc' := 40) rfl ?_
  refine Go.if_le S2 at_40 (pt := 51) (by decide) (pc' := 43) rfl ?_ ?_
  · intro c40; exact absurd (by decide) c40
  · intro c40
    refine Go.aload S2 at_43 rfl rfl (pc' := 45) rfl ?_
    refine Go.iconst S2 (v := 0) at_45 rfl (pc' := 46) rfl ?_
    refine Go.iloadN S2 at_46 rfl (pc' := 47) rfl ?_
    refine Go.i2d S2 at_47 (pc' := 48) rfl ?_
    have bq0 := own_bd s0
    have ti0 := own_ti s0
    refine Go.invokevirtual S2 (y := ⟨"com/example/opas/opas/Ranking", "offer", "(ID)V"⟩) (rm_off30 hw a1 (0 : Int32) (s0.toInt64) xa kX ia sa kI kS 0 0 0 0 0 0 S2.ext X1 Fx Fl Fn VX Fi Fs VI VS hzi hzs nri nrs nis hz1 nxr nxi nxs (own_bd s0) ) (wd39 hw) (wd40 hw) (S2.nf (wd42 hw)) (wd42 hw) (wd41 hw) (wd2 hw) (wd43 hw) (by decide) X1 at_48 rfl pd7 (argsL := [(.int (0 : Int32)), (.double (FP.l2d (s0.toInt64)))]) rfl rfl rfl (by decide) (W := 0) rfl (by decide) (by decide) (by decide) (allS (Or.inr hk1) (allS (Or.inr hki) (allS (Or.inr hks) all0))) (pc' := 51) rfl ?_
    intro v3 T3 h3 L3 S3 K3 q3
    obtain ⟨rfl, Fx3, Fl3, Fi3, Fs3, Fn3, e0_0, e0_1, e0_2, f0_0, f0_1, f0_2, VI3, VS3, hP0⟩ := q3
    replace X1 := X1.keep K3
    replace VX := VX.keep K3 (ninS nxr (ninS nxi (ninS nxs nin0)))
    show Go _ _ _ _ T3 (mkF m 51 #[.val (.int sh), .val (.int s0), .val (.int s1), .val (.int s2), .val (.int xx), .val (.int (3 : Int32)), .val (.int (3 : Int32)), .val (.int nf), .val (.ref a1), .unset, .unset, .unset, .unset, .unset, .unset, .unset, .unset, .unset] [])
    have bd0_0 : (-2147483648 ≤ f0_0.toInt ∧ f0_0.toInt ≤ 2147483647) := by omega
    refine Go.iload S3 at_51 rfl (pc' := 53) rfl ?_
    refine Go.iconst S3 (v := 1) at_53 rfl (pc' := 54) rfl ?_
    refine Go.icmp_le S3 at_54 (pt := 65) (by decide) (pc' := 57) rfl ?_ ?_
    · intro c54; exact absurd (by decide) c54
    · intro c54
      refine Go.aload S3 at_57 rfl rfl (pc' := 59) rfl ?_
      refine Go.iconst S3 (v := 1) at_59 rfl (pc' := 60) rfl ?_
      refine Go.iloadN S3 at_60 rfl (pc' := 61) rfl ?_
      refine Go.i2d S3 at_61 (pc' := 62) rfl ?_
      have bq1 := own_bd s1
      have ti1 := own_ti s1
      refine Go.invokevirtual S3 (y := ⟨"com/example/opas/opas/Ranking", "offer", "(ID)V"⟩) (rm_off31 hw a1 (1 : Int32) (s1.toInt64) xa kX ia sa kI kS e0_0 e0_1 e0_2 f0_0 f0_1 f0_2 S3.ext X1 Fx3 Fl3 Fn3 VX Fi3 Fs3 VI3 VS3 hzi hzs nri nrs nis hz1 nxr nxi nxs (own_bd s1) bd0_0) (wd39 hw) (wd40 hw) (S3.nf (wd42 hw)) (wd42 hw) (wd41 hw) (wd2 hw) (wd43 hw) (by decide) X1 at_62 rfl pd7 (argsL := [(.int (1 : Int32)), (.double (FP.l2d (s1.toInt64)))]) rfl rfl rfl (by decide) (W := 0) rfl (by decide) (by decide) (by decide) (allS (Or.inr hk1) (allS (Or.inr hki) (allS (Or.inr hks) all0))) (pc' := 65) rfl ?_
      intro v4 T4 h4 L4 S4 K4 q4
      obtain ⟨rfl, Fx4, Fl4, Fi4, Fs4, Fn4, e1_0, e1_1, e1_2, f1_0, f1_1, f1_2, VI4, VS4, hP1⟩ := q4
      replace X1 := X1.keep K4
      replace VX := VX.keep K4 (ninS nxr (ninS nxi (ninS nxs nin0)))
      show Go _ _ _ _ T4 (mkF m 65 #[.val (.int sh), .val (.int s0), .val (.int s1), .val (.int s2), .val (.int xx), .val (.int (3 : Int32)), .val (.int (3 : Int32)), .val (.int nf), .val (.ref a1), .unset, .unset, .unset, .unset, .unset, .unset, .unset, .unset, .unset] [])
      have bd1_0 : (-2147483648 ≤ f1_0.toInt ∧ f1_0.toInt ≤ 2147483647) := by omega
      have bd1_1 : (-2147483648 ≤ f1_1.toInt ∧ f1_1.toInt ≤ 2147483647) := by omega
      refine Go.iload S4 at_65 rfl (pc' := 67) rfl ?_
      refine Go.iconst S4 (v := 2) at_67 rfl (pc' := 68) rfl ?_
      refine Go.icmp_le S4 at_68 (pt := 79) (by decide) (pc' := 71) rfl ?_ ?_
      · intro c68; exact absurd (by decide) c68
      · intro c68
        refine Go.aload S4 at_71 rfl rfl (pc' := 73) rfl ?_
        refine Go.iconst S4 (v := 2) at_73 rfl (pc' := 74) rfl ?_
        refine Go.iloadN S4 at_74 rfl (pc' := 75) rfl ?_
        refine Go.i2d S4 at_75 (pc' := 76) rfl ?_
        have bq2 := own_bd s2
        have ti2 := own_ti s2
        refine Go.invokevirtual S4 (y := ⟨"com/example/opas/opas/Ranking", "offer", "(ID)V"⟩) (rm_off32 hw a1 (2 : Int32) (s2.toInt64) xa kX ia sa kI kS e1_0 e1_1 e1_2 f1_0 f1_1 f1_2 S4.ext X1 Fx4 Fl4 Fn4 VX Fi4 Fs4 VI4 VS4 hzi hzs nri nrs nis hz1 nxr nxi nxs (own_bd s2) bd1_0 bd1_1) (wd39 hw) (wd40 hw) (S4.nf (wd42 hw)) (wd42 hw) (wd41 hw) (wd2 hw) (wd43 hw) (by decide) X1 at_76 rfl pd7 (argsL := [(.int (2 : Int32)), (.double (FP.l2d (s2.toInt64)))]) rfl rfl rfl (by decide) (W := 0) rfl (by decide) (by decide) (by decide) (allS (Or.inr hk1) (allS (Or.inr hki) (allS (Or.inr hks) all0))) (pc' := 79) rfl ?_
        intro v5 T5 h5 L5 S5 K5 q5
        obtain ⟨rfl, Fx5, Fl5, Fi5, Fs5, Fn5, e2_0, e2_1, e2_2, f2_0, f2_1, f2_2, VI5, VS5, hP2⟩ := q5
        replace X1 := X1.keep K5
        replace VX := VX.keep K5 (ninS nxr (ninS nxi (ninS nxs nin0)))
        show Go _ _ _ _ T5 (mkF m 79 #[.val (.int sh), .val (.int s0), .val (.int s1), .val (.int s2), .val (.int xx), .val (.int (3 : Int32)), .val (.int (3 : Int32)), .val (.int nf), .val (.ref a1), .unset, .unset, .unset, .unset, .unset, .unset, .unset, .unset, .unset] [])
        have bd2_0 : (-2147483648 ≤ f2_0.toInt ∧ f2_0.toInt ≤ 2147483647) := by omega
        have bd2_1 : (-2147483648 ≤ f2_1.toInt ∧ f2_1.toInt ≤ 2147483647) := by omega
        have bd2_2 : (-2147483648 ≤ f2_2.toInt ∧ f2_2.toInt ≤ 2147483647) := by omega
        refine Go.iload S5 at_79 rfl (pc' := 81) rfl ?_
        refine Go.if_le S5 at_81 (pt := 88) (by decide) (pc' := 84) rfl ?_ ?_
        · intro c81; exact absurd (by decide) c81
        · intro c81
          refine Go.iloadN S5 at_84 rfl (pc' := 85) rfl ?_
          refine Go.goto S5 at_85 (pc' := 90) (by decide) ?_
          refine Go.istore S5 at_90 (Ls' := #[.val (.int sh), .val (.int s0), .val (.int s1), .val (.int s2), .val (.int xx), .val (.int (3 : Int32)), .val (.int (3 : Int32)), .val (.int nf), .val (.ref a1), .val (.int s0), .unset, .unset, .unset, .unset, .unset, .unset, .unset, .unset]) rfl (pc' := 92) rfl ?_
          refine Go.iload S5 at_92 rfl (pc' := 94) rfl ?_
          refine Go.iconst S5 (v := 1) at_94 rfl (pc' := 95) rfl ?_
          refine Go.icmp_le S5 at_95 (pt := 102) (by decide) (pc' := 98) rfl ?_ ?_
          · intro c95; exact absurd (by decide) c95
          · intro c95
            refine Go.iloadN S5 at_98 rfl (pc' := 99) rfl ?_
            refine Go.goto S5 at_99 (pc' := 104) (by decide) ?_
            refine Go.istore S5 at_104 (Ls' := #[.val (.int sh), .val (.int s0), .val (.int s1), .val (.int s2), .val (.int xx), .val (.int (3 : Int32)), .val (.int (3 : Int32)), .val (.int nf), .val (.ref a1), .val (.int s0), .val (.int s1), .unset, .unset, .unset, .unset, .unset, .unset, .unset]) rfl (pc' := 106) rfl ?_
            refine Go.iload S5 at_106 rfl (pc' := 108) rfl ?_
            refine Go.iconst S5 (v := 2) at_108 rfl (pc' := 109) rfl ?_
            refine Go.icmp_le S5 at_109 (pt := 116) (by decide) (pc' := 112) rfl ?_ ?_
            · intro c109; exact absurd (by decide) c109
            · intro c109
              refine Go.iloadN S5 at_112 rfl (pc' := 113) rfl ?_
              refine Go.goto S5 at_113 (pc' := 118) (by decide) ?_
              refine Go.istore S5 at_118 (Ls' := #[.val (.int sh), .val (.int s0), .val (.int s1), .val (.int s2), .val (.int xx), .val (.int (3 : Int32)), .val (.int (3 : Int32)), .val (.int nf), .val (.ref a1), .val (.int s0), .val (.int s1), .val (.int s2), .unset, .unset, .unset, .unset, .unset, .unset]) rfl (pc' := 120) rfl ?_
              have eM : (-2147483648 : Int32).toInt = -2147483648 := by decide
              have rn0 := rng32 s0
              have rn1 := rng32 s1
              have rn2 := rng32 s2
              have hb : f2_0 = own_lg (3 : Int32) s0 s1 s2 := by
                rw [← Int64.toInt_inj, own_lg3]
                omega
              have hmn : own_min (3 : Int32) (3 : Int32) = (3 : Int32) := by decide
              exact j120 hw sh s0 s1 s2 xx (3 : Int32) (3 : Int32) nf a1 sa s0 s1 s2 f2_0 (S5.more (by decide) (by decide)) (by decide) X1 Fl5 Fs5 (by rw [hmn]; exact Fn5) (fun _ _ => ⟨bd2_0, kS, _, _, VS5, by decide, by decide⟩) (fun _ _ => hb)
set_option maxRecDepth 65536 in
set_option maxHeartbeats 4000000 in
theorem own_mid {p : Program} {l : Launch} {e : Env} {s : State} {m : MethodId} {args : Array Value} {below : List Frame} {meth : Method} {co : Code} {Z : State} {a0 : Array Value} (hw : HW Z a0) (sh s0 s1 s2 xx nv lm nf : Int32) {h0 h : Heap} {T : State} {locs : List Loc} (S : St p l e room_1 s m args below meth co Z x.cls code maxLocals ret x.name h0 [] T h locs 0 0) (h1 : nv = 0 ∨ nv = 1 ∨ nv = 2 ∨ nv = 3) (h2 : lm = 0 ∨ lm = 1 ∨ lm = 2 ∨ lm = 3) :
    Go p e below (PostOf Z s h0 [] room_1.cells room_1.slots (fun v h => v = some (.int 1))) T (mkF m 27 #[.val (.int sh), .val (.int s0), .val (.int s1), .val (.int s2), .val (.int xx), .val (.int nv), .val (.int lm), .val (.int nf), .unset, .unset, .unset, .unset, .unset, .unset, .unset, .unset, .unset, .unset] []) := by
  rcases h1 with rfl | rfl | rfl | rfl <;> rcases h2 with rfl | rfl | rfl | rfl
  · exact own_A00 hw sh s0 s1 s2 xx nf S
  · exact own_A10 hw sh s0 s1 s2 xx nf S
  · exact own_A20 hw sh s0 s1 s2 xx nf S
  · exact own_A30 hw sh s0 s1 s2 xx nf S
  · exact own_A01 hw sh s0 s1 s2 xx nf S
  · exact own_A11 hw sh s0 s1 s2 xx nf S
  · exact own_A21 hw sh s0 s1 s2 xx nf S
  · exact own_A31 hw sh s0 s1 s2 xx nf S
  · exact own_A02 hw sh s0 s1 s2 xx nf S
  · exact own_A12 hw sh s0 s1 s2 xx nf S
  · exact own_A22 hw sh s0 s1 s2 xx nf S
  · exact own_A32 hw sh s0 s1 s2 xx nf S
  · exact own_A03 hw sh s0 s1 s2 xx nf S
  · exact own_A13 hw sh s0 s1 s2 xx nf S
  · exact own_A23 hw sh s0 s1 s2 xx nf S
  · exact own_A33 hw sh s0 s1 s2 xx nf S
set_option maxRecDepth 65536 in
set_option maxHeartbeats 4000000 in
theorem rm_code {l : Launch} {Z : State} {a0 : Array Value} (hw : HW Z a0) (sh : Int32) (s0 : Int32) (s1 : Int32) (s2 : Int32) (xx : Int32)  {h0 : Heap} (hE : Ext Z.heap h0) :
    OMeets l Z x code maxLocals ret room_1 #[(.int sh), (.int s0), (.int s1), (.int s2), (.int xx)] h0 [] (fun v h => v = some (.int 1)) := by
  refine OMeets.body (plainFor_of_name pn0) hE #[.val (.int sh), .val (.int s0), .val (.int s1), .val (.int s2), .val (.int xx), .unset, .unset, .unset, .unset, .unset, .unset, .unset, .unset, .unset, .unset, .unset, .unset, .unset] (fun m => by first | (simp [entryFrame, mkF, argsToLocals, Value.category, maxLocals]; done) | rfl) ?_
  intro p e s m below meth co T S
  refine Go.iloadN S at_0 rfl (pc' := 1) rfl ?_
  refine Go.iconst S (v := 3) at_1 rfl (pc' := 2) rfl ?_
  refine Go.iand S at_2 (pc' := 3) rfl ?_
  refine Go.istore S at_3 (Ls' := #[.val (.int sh), .val (.int s0), .val (.int s1), .val (.int s2), .val (.int xx), .val (.int (sh &&& (3 : Int32))), .unset, .unset, .unset, .unset, .unset, .unset, .unset, .unset, .unset, .unset, .unset, .unset]) rfl (pc' := 5) rfl ?_
  generalize h_nv : (sh &&& (3 : Int32)) = nv
  refine Go.iloadN S at_5 rfl (pc' := 6) rfl ?_
  refine Go.iconst S (v := 2) at_6 rfl (pc' := 7) rfl ?_
  refine Go.iushr S at_7 (pc' := 8) rfl ?_
  refine Go.iconst S (v := 3) at_8 rfl (pc' := 9) rfl ?_
  refine Go.iand S at_9 (pc' := 10) rfl ?_
  refine Go.istore S at_10 (Ls' := #[.val (.int sh), .val (.int s0), .val (.int s1), .val (.int s2), .val (.int xx), .val (.int nv), .val (.int (((sh.toUInt32 >>> ((2 : Int32) &&& 31).toUInt32).toInt32) &&& (3 : Int32))), .unset, .unset, .unset, .unset, .unset, .unset, .unset, .unset, .unset, .unset, .unset]) rfl (pc' := 12) rfl ?_
  generalize h_lm : (((sh.toUInt32 >>> ((2 : Int32) &&& 31).toUInt32).toInt32) &&& (3 : Int32)) = lm
  refine Go.iloadN S at_12 rfl (pc' := 13) rfl ?_
  refine Go.iconst S (v := 4) at_13 rfl (pc' := 14) rfl ?_
  refine Go.iushr S at_14 (pc' := 15) rfl ?_
  refine Go.iconst S (v := 1) at_15 rfl (pc' := 16) rfl ?_
  refine Go.iand S at_16 (pc' := 17) rfl ?_
  refine Go.if_eq S at_17 (pt := 24) (by decide) (pc' := 20) rfl ?_ ?_
  · intro c17
    refine Go.iconst S (v := 0) at_24 rfl (pc' := 25) rfl ?_
    refine Go.istore S at_25 (Ls' := #[.val (.int sh), .val (.int s0), .val (.int s1), .val (.int s2), .val (.int xx), .val (.int nv), .val (.int lm), .val (.int (0 : Int32)), .unset, .unset, .unset, .unset, .unset, .unset, .unset, .unset, .unset, .unset]) rfl (pc' := 27) rfl ?_
    exact own_mid hw sh s0 s1 s2 xx nv lm (0 : Int32) S (by rw [← h_nv]; exact own_m4 _) (by rw [← h_lm]; exact own_m4 _)
  · intro c17
    refine Go.iconst S (v := 1) at_20 rfl (pc' := 21) rfl ?_
    refine Go.goto S at_21 (pc' := 25) (by decide) ?_
    refine Go.istore S at_25 (Ls' := #[.val (.int sh), .val (.int s0), .val (.int s1), .val (.int s2), .val (.int xx), .val (.int nv), .val (.int lm), .val (.int (1 : Int32)), .unset, .unset, .unset, .unset, .unset, .unset, .unset, .unset, .unset, .unset]) rfl (pc' := 27) rfl ?_
    exact own_mid hw sh s0 s1 s2 xx nv lm (1 : Int32) S (by rw [← h_nv]; exact own_m4 _) (by rw [← h_lm]; exact own_m4 _)
set_option maxRecDepth 65536 in
set_option maxHeartbeats 4000000 in
theorem comes_1 {Post : Tables → Env → Array Value → State → Outcome → State → Prop} (hpost : ∀ tb e args s v u, (limb_1_1.after args s (.returned v) u = true ∧ limb_1_2.after args s (.returned v) u = true ∧ True) → FrameEnd s (.returned v) u (Jvm.fieldLocs frame_1_writes args s ++ Jvm.arrayLocs frame_1_arrays args s ++ Jvm.staticLocs frame_1_statics s) 16 128 → Post tb e args s (.returned v) u) :
    ArmFor flags0 classFile x code maxLocals ret World_1 tables_1 room_1 Calls_1 rest_1 Pre_1 Post := by
  intro l hfl _ _ p e ha hc hk s m args below hf hA hF happ hP
  obtain ⟨hcalls, hrest, hpre⟩ := hP
  obtain ⟨-, -, -, hnamed, -, -, -, hat⟩ := (Spec.applies_iff hf).mp happ
  obtain ⟨hg, hn⟩ := and_e (Cond.before_iff.mp (show (Jvm.Cond.and given_1 narrow_1).before args s = true from hpre))
  obtain ⟨g1a, g1b⟩ := and_e hg
  obtain ⟨g2a, g2b⟩ := and_e g1b
  obtain ⟨g3a, g3b⟩ := and_e g2b
  obtain ⟨g4a, g4b⟩ := and_e g3b
  obtain ⟨g5a, g5b⟩ := and_e g4b
  obtain ⟨w0, w1, w2, w3, w4, rfl⟩ : ∃ w0 w1 w2 w3 w4 : Value, args = #[w0, w1, w2, w3, w4] := by
    have hs : args.size = 5 := by simpa [Cond.value, given_1] using g1a
    obtain ⟨L⟩ := args
    match L, hs with
    | [w0, w1, w2, w3, w4], _ => exact ⟨w0, w1, w2, w3, w4, rfl⟩
  have hw : HW s _ := fun d (hd : d ∈ tables_1) => atoms_spec (ws := Jvm.Cond.code x code maxLocals ret :: tables_1) hat d (List.mem_cons_of_mem _ hd)
  have hfit : Fit s := fun {y c} hc i hi => by
    obtain ⟨ha, rfl⟩ := Array.getElem?_eq_some_iff.mp hc
    have q := List.all_eq_true.mp ((Array.all_eq_true_iff_forall_mem.mp hF) _ (Array.getElem_mem ha)) i (List.mem_range.mpr hi)
    simpa [Array.getElem?_eq_getElem hi] using q
  obtain ⟨i0, ei0⟩ := is_v g2a
  obtain rfl : w0 = (.int i0) := Option.some.inj ei0
  obtain ⟨i1, ei1⟩ := is_v g3a
  obtain rfl : w1 = (.int i1) := Option.some.inj ei1
  obtain ⟨i2, ei2⟩ := is_v g4a
  obtain rfl : w2 = (.int i2) := Option.some.inj ei2
  obtain ⟨i3, ei3⟩ := is_v g5a
  obtain rfl : w3 = (.int i3) := Option.some.inj ei3
  obtain ⟨i4, ei4⟩ := is_v g5b
  obtain rfl : w4 = (.int i4) := Option.some.inj ei4
  obtain ⟨n, o, h1, h2, h3, _, L, rfl, ⟨N, -, -, rfl⟩, hq⟩ := rm_code (l := l) hw i0 i1 i2 i3 i4  (h0 := s.heap) ⟨Nat.le_refl _, fun _ _ q => q⟩  tables_1 p e ha hc hk s m _ below hf ((Spec.applies_iff_loose hf).mp happ).1 ⟨rfl, State.Warmed39.refl s, rfl⟩ trivial
  refine ⟨n, _, h1, h2, h3, hpost _ _ _ _ _ _ ⟨Cond.after_iff.mpr rfl, Cond.after_iff.mpr (eq_i res_at (Term.int_eval (1)) rfl), trivial⟩ ⟨hq.1, hq.2.1, (hq.2.2.sift fun y hy => Or.inr (N y hy)).mono (by decide) (by decide)⟩⟩
theorem main_1_1 : Claimed_1_1 := comes_1 fun _ _ _ _ _ _ h hF => ⟨h.1, hF⟩
theorem main_1_2 : Claimed_1_2 := comes_1 fun _ _ _ _ _ _ h hF => ⟨h.2.1, hF⟩
end Jvm.Pilot.@@N@@
namespace Jvm.Pilot.@@N@@
open Jvm Jvm.ClassFile Sem Op Lib Jvm.Free Jvm.Stand Jvm.Pilot.@@N@@.Jvm.D
/-! MADE BY PROGRAM (witnessworld.py) out of the Statement's table words and the real class files: 10 classes; the members and pool entries that the words name. The judged class is class 1, her method 1. -/
namespace start1
open Jvm.ClassFile
def u (s : String) : CpInfo := .utf8 (stringToUtf16 s)
/-- a pool by its gaps: so many unusable entries, then the entry; so many at the end -/
def gap : Nat → List CpInfo → List CpInfo
  | 0, r => r
  | n + 1, r => .unusable :: gap n r
def poolList (es : List (Nat × CpInfo)) (last : Nat) : List CpInfo := es.foldr (fun e r => gap e.1 (e.2 :: r)) (gap last [])
def pool (es : List (Nat × CpInfo)) (last : Nat) : Array CpInfo := ⟨poolList es last⟩
def fileOf (pool : Array CpInfo) (this : Nat) (attrs : Array Attribute := #[]) (ms : Array MethodInfo := #[]) (fl : Nat := 33) (sup : Nat := 0) (ifs : Array Nat := #[]) (fds : Array FieldInfo := #[]) : ClassFile where
  minorVersion := 0
  majorVersion := 65
  constantPool := pool
  accessFlags := fl
  thisClass := this
  superClass := sup
  interfaces := ifs
  fields := fds
  methods := ms
  attributes := attrs
def plain (name : String) (sup : Option ClassId) : Class where
  name := name
  kind := .ordinary
  loader := none
  accessFlags := 33
  super := sup
  interfaces := #[]
  cf := none
  fields := #[]
  methods := #[]
  instanceTypes := #[]
  staticTypes := #[]
  resolved := #[]
  callSites := []
  init := .initialized
  statics := none
  mirror := none

def pool0 : Array CpInfo := pool [(5, u "<init>"), (0, u "()V"), (1, .class_ 10), (1, u "java/lang/Object")] 113

def k0c0 : Code := { maxStack := 0, maxLocals := 1, code := object_method_1_code, exceptionTable := #[], attributes := #[] }
def k0m0 : Method := { name := "<init>", desc := "()V", sig := { parameters := [], returnType := none }, accessFlags := 1, code := some k0c0 }
/-- java/lang/Object -/
def k0 : Class := { plain "java/lang/Object" none with
  accessFlags := 33
  interfaces := #[]
  cf := some (fileOf pool0 8 #[] #[{ accessFlags := 1, nameIndex := 5, descriptorIndex := 6, attributes := #[] }] 33 0 #[] #[])
  fields := #[]
  methods := #[k0m0]
  instanceTypes := #[]
  staticTypes := #[]
  resolved := Array.replicate 124 none
  statics := none }

def pool1 : Array CpInfo := pool [(2, .class_ 4), (1, u "java/lang/Object"), (0, u "<init>"), (0, u "()V"), (0, .class_ 8), (0, u "com/example/opas/opas/Ranking"), (0, .methodref 7 10), (0, .nameAndType 5 11), (0, u "(I)V"), (0, .methodref 7 13), (0, .nameAndType 14 15), (0, u "offer"), (0, u "(ID)V"), (2, .integer 2147483648), (0, .methodref 20 21), (0, .class_ 22), (0, .nameAndType 23 24), (0, u "com/example/opas/opas/RankingCouldKeepPinLaw"), (0, u "largest"), (0, u "(IIII)J"), (0, .methodref 26 27), (0, .class_ 28), (0, .nameAndType 29 30), (0, u "java/lang/Math"), (0, u "min"), (0, u "(II)I"), (0, .methodref 7 32), (0, .nameAndType 33 34), (0, u "couldKeep"), (0, u "(D)Z"), (0, .methodref 26 36), (0, .nameAndType 37 30), (0, u "max"), (2, u "law"), (0, u "(IIIII)Z")] 3

def k1m0 : Method := { name := "<init>", desc := "()V", sig := { parameters := [], returnType := none }, accessFlags := 1, code := none }
def k1c1 : Code := { maxStack := 4, maxLocals := 18, code := code, exceptionTable := #[], attributes := #[] }
def k1m1 : Method := { name := "law", desc := "(IIIII)Z", sig := { parameters := [.int, .int, .int, .int, .int], returnType := some .boolean }, accessFlags := 9, code := some k1c1 }
def k1c2 : Code := { maxStack := 3, maxLocals := 7, code := method_3_code, exceptionTable := #[], attributes := #[] }
def k1m2 : Method := { name := "largest", desc := "(IIII)J", sig := { parameters := [.int, .int, .int, .int], returnType := some .long }, accessFlags := 10, code := some k1c2 }
/-- com/example/opas/opas/RankingCouldKeepPinLaw -/
def k1 : Class := { plain "com/example/opas/opas/RankingCouldKeepPinLaw" (some 0) with
  accessFlags := 49
  interfaces := #[]
  cf := some (fileOf pool1 20 #[] #[{ accessFlags := 1, nameIndex := 5, descriptorIndex := 6, attributes := #[] }, { accessFlags := 9, nameIndex := 40, descriptorIndex := 41, attributes := #[] }, { accessFlags := 10, nameIndex := 23, descriptorIndex := 24, attributes := #[] }] 49 2 #[] #[])
  fields := #[]
  methods := #[k1m0, k1m1, k1m2]
  instanceTypes := #[]
  staticTypes := #[]
  resolved := Array.replicate 45 none
  statics := none }

def pool2 : Array CpInfo := pool [(1, .methodref 2 3), (0, .class_ 4), (0, .nameAndType 5 6), (0, u "java/lang/Object"), (0, u "<init>"), (0, u "()V"), (0, .fieldref 8 9), (0, .class_ 10), (0, .nameAndType 11 12), (0, u "com/example/opas/opas/Ranking"), (0, u "excluded"), (0, u "[I"), (0, .fieldref 8 14), (0, .nameAndType 15 16), (0, u "limit"), (0, u "I"), (0, .methodref 18 19), (0, .class_ 20), (0, .nameAndType 21 22), (0, u "java/lang/Math"), (0, u "min"), (0, u "(II)I"), (0, .fieldref 8 24), (0, .nameAndType 25 12), (0, u "ids"), (0, .fieldref 8 27), (0, .nameAndType 28 29), (0, u "scores"), (0, u "[D"), (2, u "(I)V"), (55, u "offer"), (0, u "(ID)V"), (4, .fieldref 8 95), (0, .nameAndType 96 16), (0, u "size"), (12, .methodref 8 110), (0, .nameAndType 111 112), (0, u "isBetter"), (0, u "(IDI)Z"), (0, .methodref 8 114), (0, .nameAndType 115 116), (0, u "isExcluded"), (0, u "(I)Z"), (0, .methodref 8 118), (0, .nameAndType 119 32), (0, u "siftDown"), (0, .long 2), (10, .methodref 8 132), (0, .nameAndType 133 32), (0, u "siftUp"), (56, .methodref 8 191), (0, .nameAndType 192 193), (0, u "swap"), (0, u "(II)V"), (15, u "INITIAL_CAPACITY"), (12, u "couldKeep"), (0, u "(D)Z")] 42

def k2c0 : Code := { maxStack := 3, maxLocals := 2, code := prog_22_method_1_code, exceptionTable := #[], attributes := #[] }
def k2m0 : Method := { name := "<init>", desc := "(I)V", sig := { parameters := [.int], returnType := none }, accessFlags := 0, code := some k2c0 }
def k2c1 : Code := { maxStack := 4, maxLocals := 3, code := prog_22_method_5_code, exceptionTable := #[], attributes := #[] }
def k2m1 : Method := { name := "couldKeep", desc := "(D)Z", sig := { parameters := [.double], returnType := some .boolean }, accessFlags := 0, code := some k2c1 }
def k2c2 : Code := { maxStack := 6, maxLocals := 5, code := prog_22_method_7_code, exceptionTable := #[], attributes := #[] }
def k2m2 : Method := { name := "offer", desc := "(ID)V", sig := { parameters := [.int, .double], returnType := none }, accessFlags := 0, code := some k2c2 }
def k2c3 : Code := { maxStack := 2, maxLocals := 2, code := prog_22_method_9_code, exceptionTable := #[], attributes := #[] }
def k2m3 : Method := { name := "isExcluded", desc := "(I)Z", sig := { parameters := [.int], returnType := some .boolean }, accessFlags := 2, code := some k2c3 }
def k2c4 : Code := { maxStack := 4, maxLocals := 5, code := prog_22_method_10_code, exceptionTable := #[], attributes := #[] }
def k2m4 : Method := { name := "isBetter", desc := "(IDI)Z", sig := { parameters := [.int, .double, .int], returnType := some .boolean }, accessFlags := 2, code := some k2c4 }
def k2c5 : Code := { maxStack := 5, maxLocals := 4, code := prog_22_method_11_code, exceptionTable := #[], attributes := #[] }
def k2m5 : Method := { name := "siftUp", desc := "(I)V", sig := { parameters := [.int], returnType := none }, accessFlags := 2, code := some k2c5 }
def k2c6 : Code := { maxStack := 6, maxLocals := 4, code := prog_22_method_12_code, exceptionTable := #[], attributes := #[] }
def k2m6 : Method := { name := "siftDown", desc := "(I)V", sig := { parameters := [.int], returnType := none }, accessFlags := 2, code := some k2c6 }
def k2c7 : Code := { maxStack := 4, maxLocals := 6, code := prog_22_method_13_code, exceptionTable := #[], attributes := #[] }
def k2m7 : Method := { name := "swap", desc := "(II)V", sig := { parameters := [.int, .int], returnType := none }, accessFlags := 2, code := some k2c7 }
/-- com/example/opas/opas/Ranking -/
def k2 : Class := { plain "com/example/opas/opas/Ranking" (some 0) with
  accessFlags := 48
  interfaces := #[]
  cf := some (fileOf pool2 8 #[] #[{ accessFlags := 0, nameIndex := 5, descriptorIndex := 32, attributes := #[] }, { accessFlags := 0, nameIndex := 222, descriptorIndex := 223, attributes := #[] }, { accessFlags := 0, nameIndex := 88, descriptorIndex := 89, attributes := #[] }, { accessFlags := 2, nameIndex := 115, descriptorIndex := 116, attributes := #[] }, { accessFlags := 2, nameIndex := 111, descriptorIndex := 112, attributes := #[] }, { accessFlags := 2, nameIndex := 133, descriptorIndex := 32, attributes := #[] }, { accessFlags := 2, nameIndex := 119, descriptorIndex := 32, attributes := #[] }, { accessFlags := 2, nameIndex := 192, descriptorIndex := 193, attributes := #[] }] 48 2 #[] #[{ accessFlags := 26, nameIndex := 209, descriptorIndex := 16, attributes := #[] }, { accessFlags := 18, nameIndex := 15, descriptorIndex := 16, attributes := #[] }, { accessFlags := 2, nameIndex := 25, descriptorIndex := 12, attributes := #[] }, { accessFlags := 2, nameIndex := 28, descriptorIndex := 29, attributes := #[] }, { accessFlags := 2, nameIndex := 96, descriptorIndex := 16, attributes := #[] }, { accessFlags := 2, nameIndex := 11, descriptorIndex := 12, attributes := #[] }])
  fields := #[{ name := "INITIAL_CAPACITY", type := .int, accessFlags := 26, slot := 0, constantValue := 0 }, { name := "limit", type := .int, accessFlags := 18, slot := 0, constantValue := 0 }, { name := "ids", type := (.array .int), accessFlags := 2, slot := 1, constantValue := 0 }, { name := "scores", type := (.array .double), accessFlags := 2, slot := 2, constantValue := 0 }, { name := "size", type := .int, accessFlags := 2, slot := 3, constantValue := 0 }, { name := "excluded", type := (.array .int), accessFlags := 2, slot := 4, constantValue := 0 }]
  methods := #[k2m0, k2m1, k2m2, k2m3, k2m4, k2m5, k2m6, k2m7]
  instanceTypes := #[.int, (.array .int), (.array .double), .int, (.array .int)]
  staticTypes := #[.int]
  resolved := Array.replicate 266 none
  statics := none }

def pool3 : Array CpInfo := pool [(1, .class_ 2), (0, u "java/lang/Math"), (1, .class_ 6), (1, u "java/lang/Object"), (0, u "<init>"), (0, u "()V"), (89, .class_ 100), (1, u "java/lang/Math$RandomNumberGeneratorHolder"), (71, u "negativeZeroFloatBits"), (0, u "J"), (2, u "negativeZeroDoubleBits"), (21, u "max"), (2, u "min"), (43, u "$assertionsDisabled"), (0, u "Z"), (88, u "(II)I"), (2, u "twoToTheDoubleScaleDown"), (0, u "D"), (4, u "twoToTheDoubleScaleUp"), (9, u "E"), (3, u "PI"), (2, u "TAU"), (2, u "DEGREES_TO_RADIANS"), (0, u "RADIANS_TO_DEGREES")] 94

def k3m0 : Method := { name := "<init>", desc := "()V", sig := { parameters := [], returnType := none }, accessFlags := 2, code := none }
def k3c1 : Code := { maxStack := 2, maxLocals := 2, code := jdk_29_method_65_code, exceptionTable := #[], attributes := #[] }
def k3m1 : Method := { name := "max", desc := "(II)I", sig := { parameters := [.int, .int], returnType := some .int }, accessFlags := 9, code := some k3c1 }
def k3c2 : Code := { maxStack := 2, maxLocals := 2, code := jdk_29_method_69_code, exceptionTable := #[], attributes := #[] }
def k3m2 : Method := { name := "min", desc := "(II)I", sig := { parameters := [.int, .int], returnType := some .int }, accessFlags := 9, code := some k3c2 }
/-- java/lang/Math -/
def k3 : Class := { plain "java/lang/Math" (some 0) with
  accessFlags := 49
  interfaces := #[]
  cf := some (fileOf pool3 1 #[.nestMembers #[98]] #[{ accessFlags := 2, nameIndex := 7, descriptorIndex := 8, attributes := #[] }, { accessFlags := 9, nameIndex := 198, descriptorIndex := 335, attributes := #[] }, { accessFlags := 9, nameIndex := 201, descriptorIndex := 335, attributes := #[] }] 49 4 #[] #[{ accessFlags := 25, nameIndex := 354, descriptorIndex := 339, attributes := #[] }, { accessFlags := 25, nameIndex := 358, descriptorIndex := 339, attributes := #[] }, { accessFlags := 25, nameIndex := 361, descriptorIndex := 339, attributes := #[] }, { accessFlags := 26, nameIndex := 364, descriptorIndex := 339, attributes := #[] }, { accessFlags := 26, nameIndex := 365, descriptorIndex := 339, attributes := #[] }, { accessFlags := 26, nameIndex := 172, descriptorIndex := 173, attributes := #[] }, { accessFlags := 26, nameIndex := 176, descriptorIndex := 173, attributes := #[] }, { accessFlags := 8, nameIndex := 344, descriptorIndex := 339, attributes := #[] }, { accessFlags := 8, nameIndex := 338, descriptorIndex := 339, attributes := #[] }, { accessFlags := 4120, nameIndex := 245, descriptorIndex := 246, attributes := #[] }])
  fields := #[{ name := "E", type := .double, accessFlags := 25, slot := 0, constantValue := 0 }, { name := "PI", type := .double, accessFlags := 25, slot := 1, constantValue := 0 }, { name := "TAU", type := .double, accessFlags := 25, slot := 2, constantValue := 0 }, { name := "DEGREES_TO_RADIANS", type := .double, accessFlags := 26, slot := 3, constantValue := 0 }, { name := "RADIANS_TO_DEGREES", type := .double, accessFlags := 26, slot := 4, constantValue := 0 }, { name := "negativeZeroFloatBits", type := .long, accessFlags := 26, slot := 5, constantValue := 0 }, { name := "negativeZeroDoubleBits", type := .long, accessFlags := 26, slot := 6, constantValue := 0 }, { name := "twoToTheDoubleScaleUp", type := .double, accessFlags := 8, slot := 7, constantValue := 0 }, { name := "twoToTheDoubleScaleDown", type := .double, accessFlags := 8, slot := 8, constantValue := 0 }, { name := "$assertionsDisabled", type := .boolean, accessFlags := 4120, slot := 9, constantValue := 0 }]
  methods := #[k3m0, k3m1, k3m2]
  instanceTypes := #[]
  staticTypes := #[.double, .double, .double, .double, .double, .long, .long, .double, .double, .boolean]
  resolved := Array.replicate 460 none
  statics := none }

def pool4 : Array CpInfo := pool [(1, u "java/lang/Cloneable"), (0, .class_ 1), (0, u "java/lang/Object"), (0, .class_ 3)] 3

/-- java/lang/Cloneable -/
def k4 : Class := { plain "java/lang/Cloneable" (some 0) with
  accessFlags := 1537
  interfaces := #[]
  cf := some (fileOf pool4 2 #[] #[] 1537 4 #[] #[])
  fields := #[]
  methods := #[]
  instanceTypes := #[]
  staticTypes := #[]
  resolved := Array.replicate 8 none
  statics := none }

def pool5 : Array CpInfo := pool [(1, u "java/io/Serializable"), (0, .class_ 1), (0, u "java/lang/Object"), (0, .class_ 3)] 3

/-- java/io/Serializable -/
def k5 : Class := { plain "java/io/Serializable" (some 0) with
  accessFlags := 1537
  interfaces := #[]
  cf := some (fileOf pool5 2 #[] #[] 1537 4 #[] #[])
  fields := #[]
  methods := #[]
  instanceTypes := #[]
  staticTypes := #[]
  resolved := Array.replicate 8 none
  statics := none }

/-- the primitive byte -/
def k6 : Class := { plain "byte" none with kind := .primitive 'B', accessFlags := 0x411 }
/-- [B -/
def k7 : Class := { plain "[B" (some 0) with kind := .array 6 .byte, interfaces := #[4, 5], accessFlags := 1041 }

/-- the primitive int -/
def k8 : Class := { plain "int" none with kind := .primitive 'I', accessFlags := 0x411 }
/-- [I -/
def k9 : Class := { plain "[I" (some 0) with kind := .array 8 .int, interfaces := #[4, 5], accessFlags := 1041 }
/-- the primitive double -/
def k10 : Class := { plain "double" none with kind := .primitive 'D', accessFlags := 0x411 }
/-- [D -/
def k11 : Class := { plain "[D" (some 0) with kind := .array 10 .double, interfaces := #[4, 5], accessFlags := 1041 }

def heap : Heap := #[]
def classes : Array Class := #[k0, k1, k2, k3, k4, k5, k6, k7, k8, k9, k10, k11]
def interned : List (Array UInt16 × Addr) := []
def slotsUsed : Nat := 0
def theMethod : MethodId := ⟨1, 1⟩
def args0 : Array Value := #[.int 5, .int 1, .int 7, .int 9, .int 2]
def aboutOver (below : List Frame) : State where
  vm := { classes := classes, interned := interned.toArray }
  heap := heap
  slotsUsed := slotsUsed
  threads := #[{ frames := .invoking theMethod args0 :: below }]
def below0 : List Frame := [.native { method := ⟨0, 0⟩, args := #[] }]
def about1 : State := aboutOver below0
def p0 : Program := .bare "" "" ""
def e0 : Env := launch0.env 0 0 0
theorem w_frames : about1.frames = Frame.invoking theMethod args0 :: below0 := rfl
set_option maxRecDepth 65536 in
theorem w_args : argsFit about1.vm theMethod args0 = true := by decide +kernel
set_option maxRecDepth 65536 in
theorem w_heap : heapFits about1 = true := by decide +kernel
set_option maxRecDepth 65536 in
theorem w_runnable : about1.curStatus? = some .runnable := by decide +kernel
set_option maxRecDepth 65536 in
theorem w_alone : about1.alone = true := by decide +kernel
set_option maxRecDepth 65536 in
theorem w_named : about1.methodNamed? x = some theMethod := by decide +kernel
set_option maxRecDepth 65536 in
theorem w_hears : about1.hears theMethod below0 = true := by decide +kernel
set_option maxRecDepth 65536 in
theorem w_ripe : about1.ripe theMethod args0 below0 = true := by decide +kernel
theorem w_running : about1.status = .running := rfl
set_option maxRecDepth 65536 in
theorem w_room : about1.hasRoom e0.platform room_1 = true :=
  launch0.hasRoom_least _ room_1 (by decide +kernel) (by decide +kernel) (by decide +kernel) (by decide +kernel) (by decide +kernel) (by decide +kernel)
theorem allAtoms_all (ts : List Jvm.Cond) (a : Array Jvm.Value) (st : Jvm.State) : (allAtoms ts).before a st = ts.all (fun c => c.before a st) := by
  induction ts with
  | nil => rfl
  | cons c t ih =>
    show (Jvm.Cond.and c (allAtoms t)).before a st = _
    rw [Jvm.Cond.before_and, ih, List.all_cons]
def words1 : List Jvm.Cond := Jvm.Cond.code x code maxLocals ret :: tables_1
/-- a 'code' word, met by the world's own term for the bytes: nothing is compared byte by byte -/
theorem code_word {y : MethodName} {bytes : ByteArray} {mx : Nat} {rt : Option FieldType} {a : Array Value} {s : State} {m : MethodId} {meth : Method} {c : Code} (h1 : s.methodNamed? y = some m) (h2 : s.vm.method? m = some meth) (h3 : meth.code = some c) (h4 : c.code = bytes)
    (h5 : (c.maxLocals == mx && c.exceptionTable.isEmpty && decide (c.maxStack ≤ mostOperands) && decide (meth.sig.returnType = rt) && !meth.locks && decide (parseMethodDescriptor y.desc = some meth.sig)) = true) : (Jvm.Cond.code y bytes mx rt).before a s = true := by
  simp only [Bool.and_eq_true, beq_iff_eq, Bool.not_eq_true', decide_eq_true_eq] at h5
  obtain ⟨⟨⟨⟨⟨g1, g2⟩, g3⟩, g4⟩, g5⟩, g6⟩ := h5
  simp [Cond.before, Cond.holds, Cond.value, h1, h2, h3, h4, g1, g2, g3, g4, g5, g6]
def isCode : Jvm.Cond → Bool
  | .code _ _ _ _ => true
  | _ => false
theorem all_split {L : List Jvm.Cond} {P : Jvm.Cond → Bool} (h1 : L.all (fun c => isCode c || P c) = true) (h2 : ∀ c ∈ L.filter isCode, P c = true) : L.all P = true := by
  refine List.all_eq_true.mpr fun c hc => ?_
  have h := List.all_eq_true.mp h1 c hc
  rcases Bool.eq_false_or_eq_true (isCode c) with hi | hi
  · exact h2 c (List.mem_filter.mpr ⟨hc, hi⟩)
  · simpa [hi] using h
set_option maxRecDepth 65536 in
theorem w_c0 : (Jvm.Cond.code x code maxLocals ret).before args0 about1 = true := code_word (m := ⟨1, 1⟩) (meth := k1m1) (c := k1c1) (by decide +kernel) rfl rfl rfl (by decide +kernel)
set_option maxRecDepth 65536 in
theorem w_c1 : (Jvm.Cond.code ({ cls := "com/example/opas/opas/Ranking", name := "<init>", desc := "(I)V" } : Jvm.MethodName) prog_22_method_1_code (2 : Nat) (Option.none : Option Jvm.ClassFile.FieldType)).before args0 about1 = true := code_word (m := ⟨2, 0⟩) (meth := k2m0) (c := k2c0) (by decide +kernel) rfl rfl rfl (by decide +kernel)
set_option maxRecDepth 65536 in
theorem w_c2 : (Jvm.Cond.code ({ cls := "java/lang/Object", name := "<init>", desc := "()V" } : Jvm.MethodName) object_method_1_code (1 : Nat) (Option.none : Option Jvm.ClassFile.FieldType)).before args0 about1 = true := code_word (m := ⟨0, 0⟩) (meth := k0m0) (c := k0c0) (by decide +kernel) rfl rfl rfl (by decide +kernel)
set_option maxRecDepth 65536 in
theorem w_c3 : (Jvm.Cond.code ({ cls := "java/lang/Math", name := "min", desc := "(II)I" } : Jvm.MethodName) jdk_29_method_69_code (2 : Nat) (Option.some Jvm.ClassFile.FieldType.int)).before args0 about1 = true := code_word (m := ⟨3, 2⟩) (meth := k3m2) (c := k3c2) (by decide +kernel) rfl rfl rfl (by decide +kernel)
set_option maxRecDepth 65536 in
theorem w_c4 : (Jvm.Cond.code ({ cls := "com/example/opas/opas/RankingCouldKeepPinLaw", name := "largest", desc := "(IIII)J" } : Jvm.MethodName) method_3_code (7 : Nat) (Option.some Jvm.ClassFile.FieldType.long)).before args0 about1 = true := code_word (m := ⟨1, 2⟩) (meth := k1m2) (c := k1c2) (by decide +kernel) rfl rfl rfl (by decide +kernel)
set_option maxRecDepth 65536 in
theorem w_c5 : (Jvm.Cond.code ({ cls := "java/lang/Math", name := "max", desc := "(II)I" } : Jvm.MethodName) jdk_29_method_65_code (2 : Nat) (Option.some Jvm.ClassFile.FieldType.int)).before args0 about1 = true := code_word (m := ⟨3, 1⟩) (meth := k3m1) (c := k3c1) (by decide +kernel) rfl rfl rfl (by decide +kernel)
set_option maxRecDepth 65536 in
theorem w_c6 : (Jvm.Cond.code ({ cls := "com/example/opas/opas/Ranking", name := "couldKeep", desc := "(D)Z" } : Jvm.MethodName) prog_22_method_5_code (3 : Nat) (Option.some Jvm.ClassFile.FieldType.boolean)).before args0 about1 = true := code_word (m := ⟨2, 1⟩) (meth := k2m1) (c := k2c1) (by decide +kernel) rfl rfl rfl (by decide +kernel)
set_option maxRecDepth 65536 in
theorem w_c7 : (Jvm.Cond.code ({ cls := "com/example/opas/opas/Ranking", name := "offer", desc := "(ID)V" } : Jvm.MethodName) prog_22_method_7_code (5 : Nat) (Option.none : Option Jvm.ClassFile.FieldType)).before args0 about1 = true := code_word (m := ⟨2, 2⟩) (meth := k2m2) (c := k2c2) (by decide +kernel) rfl rfl rfl (by decide +kernel)
set_option maxRecDepth 65536 in
theorem w_c8 : (Jvm.Cond.code ({ cls := "com/example/opas/opas/Ranking", name := "isExcluded", desc := "(I)Z" } : Jvm.MethodName) prog_22_method_9_code (2 : Nat) (Option.some Jvm.ClassFile.FieldType.boolean)).before args0 about1 = true := code_word (m := ⟨2, 3⟩) (meth := k2m3) (c := k2c3) (by decide +kernel) rfl rfl rfl (by decide +kernel)
set_option maxRecDepth 65536 in
theorem w_c9 : (Jvm.Cond.code ({ cls := "com/example/opas/opas/Ranking", name := "siftUp", desc := "(I)V" } : Jvm.MethodName) prog_22_method_11_code (4 : Nat) (Option.none : Option Jvm.ClassFile.FieldType)).before args0 about1 = true := code_word (m := ⟨2, 5⟩) (meth := k2m5) (c := k2c5) (by decide +kernel) rfl rfl rfl (by decide +kernel)
set_option maxRecDepth 65536 in
theorem w_c10 : (Jvm.Cond.code ({ cls := "com/example/opas/opas/Ranking", name := "isBetter", desc := "(IDI)Z" } : Jvm.MethodName) prog_22_method_10_code (5 : Nat) (Option.some Jvm.ClassFile.FieldType.boolean)).before args0 about1 = true := code_word (m := ⟨2, 4⟩) (meth := k2m4) (c := k2c4) (by decide +kernel) rfl rfl rfl (by decide +kernel)
set_option maxRecDepth 65536 in
theorem w_c11 : (Jvm.Cond.code ({ cls := "com/example/opas/opas/Ranking", name := "swap", desc := "(II)V" } : Jvm.MethodName) prog_22_method_13_code (6 : Nat) (Option.none : Option Jvm.ClassFile.FieldType)).before args0 about1 = true := code_word (m := ⟨2, 7⟩) (meth := k2m7) (c := k2c7) (by decide +kernel) rfl rfl rfl (by decide +kernel)
set_option maxRecDepth 65536 in
theorem w_c12 : (Jvm.Cond.code ({ cls := "com/example/opas/opas/Ranking", name := "siftDown", desc := "(I)V" } : Jvm.MethodName) prog_22_method_12_code (4 : Nat) (Option.none : Option Jvm.ClassFile.FieldType)).before args0 about1 = true := code_word (m := ⟨2, 6⟩) (meth := k2m6) (c := k2c6) (by decide +kernel) rfl rfl rfl (by decide +kernel)
def codes1 : List Jvm.Cond := [Jvm.Cond.code x code maxLocals ret, Jvm.Cond.code ({ cls := "com/example/opas/opas/Ranking", name := "<init>", desc := "(I)V" } : Jvm.MethodName) prog_22_method_1_code (2 : Nat) (Option.none : Option Jvm.ClassFile.FieldType), Jvm.Cond.code ({ cls := "java/lang/Object", name := "<init>", desc := "()V" } : Jvm.MethodName) object_method_1_code (1 : Nat) (Option.none : Option Jvm.ClassFile.FieldType), Jvm.Cond.code ({ cls := "java/lang/Math", name := "min", desc := "(II)I" } : Jvm.MethodName) jdk_29_method_69_code (2 : Nat) (Option.some Jvm.ClassFile.FieldType.int), Jvm.Cond.code ({ cls := "com/example/opas/opas/RankingCouldKeepPinLaw", name := "largest", desc := "(IIII)J" } : Jvm.MethodName) method_3_code (7 : Nat) (Option.some Jvm.ClassFile.FieldType.long), Jvm.Cond.code ({ cls := "java/lang/Math", name := "max", desc := "(II)I" } : Jvm.MethodName) jdk_29_method_65_code (2 : Nat) (Option.some Jvm.ClassFile.FieldType.int), Jvm.Cond.code ({ cls := "com/example/opas/opas/Ranking", name := "couldKeep", desc := "(D)Z" } : Jvm.MethodName) prog_22_method_5_code (3 : Nat) (Option.some Jvm.ClassFile.FieldType.boolean), Jvm.Cond.code ({ cls := "com/example/opas/opas/Ranking", name := "offer", desc := "(ID)V" } : Jvm.MethodName) prog_22_method_7_code (5 : Nat) (Option.none : Option Jvm.ClassFile.FieldType), Jvm.Cond.code ({ cls := "com/example/opas/opas/Ranking", name := "isExcluded", desc := "(I)Z" } : Jvm.MethodName) prog_22_method_9_code (2 : Nat) (Option.some Jvm.ClassFile.FieldType.boolean), Jvm.Cond.code ({ cls := "com/example/opas/opas/Ranking", name := "siftUp", desc := "(I)V" } : Jvm.MethodName) prog_22_method_11_code (4 : Nat) (Option.none : Option Jvm.ClassFile.FieldType), Jvm.Cond.code ({ cls := "com/example/opas/opas/Ranking", name := "isBetter", desc := "(IDI)Z" } : Jvm.MethodName) prog_22_method_10_code (5 : Nat) (Option.some Jvm.ClassFile.FieldType.boolean), Jvm.Cond.code ({ cls := "com/example/opas/opas/Ranking", name := "swap", desc := "(II)V" } : Jvm.MethodName) prog_22_method_13_code (6 : Nat) (Option.none : Option Jvm.ClassFile.FieldType), Jvm.Cond.code ({ cls := "com/example/opas/opas/Ranking", name := "siftDown", desc := "(I)V" } : Jvm.MethodName) prog_22_method_12_code (4 : Nat) (Option.none : Option Jvm.ClassFile.FieldType)]
set_option maxRecDepth 65536 in
theorem codes_eq : words1.filter isCode = codes1 := rfl
theorem w_codes : ∀ c ∈ words1.filter isCode, c.before args0 about1 = true := by
  rw [codes_eq]
  intro c hc
  simp only [codes1, List.mem_cons, List.not_mem_nil, or_false] at hc
  rcases hc with rfl | rfl | rfl | rfl | rfl | rfl | rfl | rfl | rfl | rfl | rfl | rfl | rfl
  · exact w_c0
  · exact w_c1
  · exact w_c2
  · exact w_c3
  · exact w_c4
  · exact w_c5
  · exact w_c6
  · exact w_c7
  · exact w_c8
  · exact w_c9
  · exact w_c10
  · exact w_c11
  · exact w_c12
set_option maxRecDepth 65536 in
theorem w_t1 : (words1.take 24).all (fun c => isCode c || c.before args0 about1) = true := by decide +kernel
set_option maxRecDepth 65536 in
theorem w_t2 : ((words1.drop 24).take 24).all (fun c => isCode c || c.before args0 about1) = true := by decide +kernel
set_option maxRecDepth 65536 in
theorem w_t3 : ((words1.drop 24).drop 24).all (fun c => isCode c || c.before args0 about1) = true := by decide +kernel
theorem w_tables : (allAtoms (Jvm.Cond.code x code maxLocals ret :: tables_1)).before args0 about1 = true := by
  rw [allAtoms_all]
  show words1.all (fun c => c.before args0 about1) = true
  refine all_split ?_ w_codes
  rw [← List.take_append_drop 24 words1, List.all_append, w_t1, ← List.take_append_drop 24 (words1.drop 24), List.all_append, w_t2, w_t3]
  rfl
set_option maxRecDepth 65536 in
theorem w_case : (Jvm.Cond.and given_1 narrow_1).before args0 about1 = true := by decide +kernel
theorem w_applies : (headSpec (Jvm.Cond.code x code maxLocals ret :: tables_1) room_1).applies x e0.platform about1 = true :=
  (Spec.applies_iff w_frames).mpr ⟨w_running, w_runnable, w_alone, w_named, w_hears, w_ripe, w_room, w_tables⟩
theorem atStart : AtStart classFile x code maxLocals ret World_1 tables_1 room_1 Calls_1 rest_1 Pre_1 launch0 p0 e0 about1 theMethod args0 below0 :=
  ⟨lists_1, trivial, launch0.admits_env _ _ _, launch0.least_env, fairChoices_fair.cas, fairChoices_fair.clock, w_frames, w_args, w_heap, w_applies, trivial, trivial, w_case⟩
end start1
theorem witness_1 : WitnessClaimed_1 := ⟨start1.p0, start1.e0, start1.about1, start1.theMethod, start1.args0, start1.below0, start1.atStart⟩
end Jvm.Pilot.@@N@@
