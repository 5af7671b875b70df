import JvmDerived
import JvmDerived.Pilot.@@N@@Statement
import JvmDerived.Pilot.@@N@@Code
set_option linter.unusedVariables false
set_option linter.unusedSimpArgs false
namespace Jvm.Own
open Sem ClassFile Op Lib Jvm.Stand Jvm.Free Jvm.LawKit Jvm.RoadKit
/-- the run goes on from the frame g over T and comes to an end of which P holds -/
def Go (p : Program) (e : Env) (below : List Frame) (P : Outcome → State → Prop) (T : State) (g : JFrame) : Prop :=
  ∃ U o, Steps p.tables e below (T.setTop g) U ∧ U.status = .running ∧ Ended U below o ∧ P o U
/-- what a body's end says: it returned v; it wrote in new cells alone, kept the heap h0 but for ws and the start's heap whole; Q of what it returned and of the heap -/
def PostOf (Z s : State) (h0 : Heap) (ws : List Addr) (kc ks : Nat) (Q : Option Value → Heap → Prop) (o : Outcome) (U : State) : Prop :=
  ∃ v L, o = .returned v ∧ (Fr Z.heap.size L ∧ Keep h0 U.heap ws ∧ Ext Z.heap U.heap ∧ Q v U.heap) ∧ FrameEnd s o U L kc ks
/-- a body's contract for the arguments as at the heap h0 -/
def OMeets (l : Launch) (Z : State) (y : MethodName) (bytes : ByteArray) (nl : Nat) (ret : Option FieldType) (R : Room) (as : Array Value) (h0 : Heap) (ws : List Addr) (Q : Option Value → Heap → Prop) : Prop :=
  ∀ wd : List Jvm.Cond, MetFree l y (head1 (Jvm.Cond.code y bytes nl ret :: wd) R) (fun a U => a = as ∧ Z.Warmed39 U.vm ∧ U.heap = h0) (fun _ _ _ _ _ => True)
    (fun _ U o U' => PostOf Z U h0 ws R.cells R.slots Q o U')
/-- where the run of one body stands: what is fixed, the library's Stand, the heap, what was written, what is kept -/
def St (p : Program) (l : Launch) (e : Env) (R : Room) (s : State) (m : MethodId) (args : Array Value) (below : List Frame) (meth : Method) (c : Code) (Z : State) (own : String) (bytes : ByteArray) (nl : Nat) (ret : Option FieldType) (nm : String)
    (h0 : Heap) (ws : List Addr) (T : State) (h : Heap) (locs : List Loc) (cells slots : Nat) : Prop :=
  (p.tables.exec = Jvm.exec ∧ c.code = bytes ∧ c.maxLocals = nl ∧ Z.Warmed39 s.vm ∧ s.vm.findClass own = some m.cls ∧ meth.sig.returnType = ret ∧ meth.locks = false ∧ meth.name = nm) ∧
  Stand p l e R s m args below meth c T locs cells slots ∧ T.heap = h ∧ Fr Z.heap.size locs ∧ Keep h0 h ws ∧ Ext Z.heap h
section Steps
variable {p : Program} {l : Launch} {e : Env} {R : Room} {s : State} {m : MethodId} {args : Array Value} {below : List Frame} {meth : Method} {c : Code} {Z : State} {own : String} {bytes : ByteArray} {nl : Nat} {ret : Option FieldType} {nm : String}
  {h0 : Heap} {ws : List Addr} {T : State} {h : Heap} {locs : List Loc} {cells slots : Nat} {P : Outcome → State → Prop} {pc pc' : Nat} {Ls Ls' : Array Slot} {st : List Value} {a0 : Array Value}
theorem off0 {a b : Nat} {o : Int} (h : (a : Int) + o = (b : Int)) : 0 ≤ (a : Int) + o := by omega
theorem off1 {a b : Nat} {o : Int} (h : (a : Int) + o = (b : Int)) : ((a : Int) + o).toNat = b := by omega
theorem Go.of {T' : State} {g g' : JFrame} (k : Go p e below P T' g') (f : ∀ t, Steps p.tables e below (T'.setTop g') t → Steps p.tables e below (T.setTop g) t) : Go p e below P T g := by
  obtain ⟨U, o, h1, h2⟩ := k
  exact ⟨U, o, f _ h1, h2⟩
theorem Go.imp {g : JFrame} {P' : Outcome → State → Prop} (k : Go p e below P T g) (f : ∀ o U, P o U → P' o U) : Go p e below P' T g := by
  obtain ⟨U, o, h1, h2, h3, h4⟩ := k
  exact ⟨U, o, h1, h2, h3, f _ _ h4⟩
theorem St.ex (S : St p l e R s m args below meth c Z own bytes nl ret nm h0 ws T h locs cells slots) : p.tables.exec = Jvm.exec := S.1.1
theorem St.hd (S : St p l e R s m args below meth c Z own bytes nl ret nm h0 ws T h locs cells slots) {r : Except DecodeError (Instr × Nat)} (h2 : decode bytes pc = r) : decode c.code pc = r := S.1.2.1 ▸ h2
theorem St.hnl (S : St p l e R s m args below meth c Z own bytes nl ret nm h0 ws T h locs cells slots) : c.maxLocals = nl := S.1.2.2.1
theorem St.hZ (S : St p l e R s m args below meth c Z own bytes nl ret nm h0 ws T h locs cells slots) : Z.Warmed39 s.vm := S.1.2.2.2.1
theorem St.hown (S : St p l e R s m args below meth c Z own bytes nl ret nm h0 ws T h locs cells slots) : s.vm.findClass own = some m.cls := S.1.2.2.2.2.1
theorem St.hret (S : St p l e R s m args below meth c Z own bytes nl ret nm h0 ws T h locs cells slots) : meth.sig.returnType = ret := S.1.2.2.2.2.2.1
theorem St.locks (S : St p l e R s m args below meth c Z own bytes nl ret nm h0 ws T h locs cells slots) : meth.locks = false := S.1.2.2.2.2.2.2.1
theorem St.hnm (S : St p l e R s m args below meth c Z own bytes nl ret nm h0 ws T h locs cells slots) : meth.name = nm := S.1.2.2.2.2.2.2.2
theorem St.X (S : St p l e R s m args below meth c Z own bytes nl ret nm h0 ws T h locs cells slots) : Stand p l e R s m args below meth c T locs cells slots := S.2.1
theorem St.eT (S : St p l e R s m args below meth c Z own bytes nl ret nm h0 ws T h locs cells slots) : T.heap = h := S.2.2.1
theorem St.fr (S : St p l e R s m args below meth c Z own bytes nl ret nm h0 ws T h locs cells slots) : Fr Z.heap.size locs := S.2.2.2.1
theorem St.keep (S : St p l e R s m args below meth c Z own bytes nl ret nm h0 ws T h locs cells slots) : Keep h0 h ws := S.2.2.2.2.1
theorem St.ext (S : St p l e R s m args below meth c Z own bytes nl ret nm h0 ws T h locs cells slots) : Ext Z.heap h := S.2.2.2.2.2
theorem St.more (S : St p l e R s m args below meth c Z own bytes nl ret nm h0 ws T h locs cells slots) {cells' slots' : Nat} (hc : cells ≤ cells') (hs : slots ≤ slots') : St p l e R s m args below meth c Z own bytes nl ret nm h0 ws T h locs cells' slots' := ⟨S.1, S.X.more hc hs, S.2.2⟩
theorem St.next (S : St p l e R s m args below meth c Z own bytes nl ret nm h0 ws T h locs cells slots) {T' : State} {h' : Heap} {locs' : List Loc} {cells' slots' : Nat} (X : Stand p l e R s m args below meth c T' locs' cells' slots') (e1 : T'.heap = h') (N : Fr Z.heap.size locs') (K : Keep h0 h' ws) (E : Ext Z.heap h') : St p l e R s m args below meth c Z own bytes nl ret nm h0 ws T' h' locs' cells' slots' := ⟨S.1, X, e1, N, K, E⟩
theorem Go.iloadN (S : St p l e R s m args below meth c Z own bytes nl ret nm h0 ws T h locs cells slots) {k : Fin 4} {v : Int32} (hd : decode bytes pc = .ok (.iload_n k, 1)) (hl : Ls[k.val]? = some (.val (.int v))) (hp : pc + 1 = pc') (k : Go p e below P T (mkF m pc' Ls (.int v :: st))) : Go p e below P T (mkF m pc Ls st) := by
  subst hp
  exact k.of fun t q => XS.iloadN S.X.here S.ex rfl (S.hd hd) hl q
theorem Go.iload (S : St p l e R s m args below meth c Z own bytes nl ret nm h0 ws T h locs cells slots) {k : Nat} {v : Int32} (hd : decode bytes pc = .ok (.iload k, 2)) (hl : Ls[k]? = some (.val (.int v))) (hp : pc + 2 = pc') (k : Go p e below P T (mkF m pc' Ls (.int v :: st))) : Go p e below P T (mkF m pc Ls st) := by
  subst hp
  exact k.of fun t q => XS.iload S.X.here S.ex rfl (S.hd hd) hl q
theorem Go.istoreN (S : St p l e R s m args below meth c Z own bytes nl ret nm h0 ws T h locs cells slots) {k : Fin 4} {v : Int32} (hd : decode bytes pc = .ok (.istore_n k, 1)) (hl : storeLocals Ls k.val (.int v) = some Ls') (hp : pc + 1 = pc') (k : Go p e below P T (mkF m pc' Ls' st)) : Go p e below P T (mkF m pc Ls (.int v :: st)) := by
  subst hp
  exact k.of fun t q => XS.istoreN S.X.here S.ex rfl (S.hd hd) rfl hl q
theorem Go.istore (S : St p l e R s m args below meth c Z own bytes nl ret nm h0 ws T h locs cells slots) {k : Nat} {v : Int32} (hd : decode bytes pc = .ok (.istore k, 2)) (hl : storeLocals Ls k (.int v) = some Ls') (hp : pc + 2 = pc') (k : Go p e below P T (mkF m pc' Ls' st)) : Go p e below P T (mkF m pc Ls (.int v :: st)) := by
  subst hp
  exact k.of fun t q => XS.istore S.X.here S.ex rfl (S.hd hd) rfl hl q
theorem Go.lloadN (S : St p l e R s m args below meth c Z own bytes nl ret nm h0 ws T h locs cells slots) {k : Fin 4} {v : Int64} (hd : decode bytes pc = .ok (.lload_n k, 1)) (hl : Ls[k.val]? = some (.val (.long v))) (hp : pc + 1 = pc') (k : Go p e below P T (mkF m pc' Ls (.long v :: st))) : Go p e below P T (mkF m pc Ls st) := by
  subst hp
  exact k.of fun t q => XS.lloadN S.X.here S.ex rfl (S.hd hd) hl q
theorem Go.lload (S : St p l e R s m args below meth c Z own bytes nl ret nm h0 ws T h locs cells slots) {k : Nat} {v : Int64} (hd : decode bytes pc = .ok (.lload k, 2)) (hl : Ls[k]? = some (.val (.long v))) (hp : pc + 2 = pc') (k : Go p e below P T (mkF m pc' Ls (.long v :: st))) : Go p e below P T (mkF m pc Ls st) := by
  subst hp
  exact k.of fun t q => XS.lload S.X.here S.ex rfl (S.hd hd) hl q
theorem Go.lstoreN (S : St p l e R s m args below meth c Z own bytes nl ret nm h0 ws T h locs cells slots) {k : Fin 4} {v : Int64} (hd : decode bytes pc = .ok (.lstore_n k, 1)) (hl : storeLocals Ls k.val (.long v) = some Ls') (hp : pc + 1 = pc') (k : Go p e below P T (mkF m pc' Ls' st)) : Go p e below P T (mkF m pc Ls (.long v :: st)) := by
  subst hp
  exact k.of fun t q => XS.lstoreN S.X.here S.ex rfl (S.hd hd) rfl hl q
theorem Go.lstore (S : St p l e R s m args below meth c Z own bytes nl ret nm h0 ws T h locs cells slots) {k : Nat} {v : Int64} (hd : decode bytes pc = .ok (.lstore k, 2)) (hl : storeLocals Ls k (.long v) = some Ls') (hp : pc + 2 = pc') (k : Go p e below P T (mkF m pc' Ls' st)) : Go p e below P T (mkF m pc Ls (.long v :: st)) := by
  subst hp
  exact k.of fun t q => XS.lstore S.X.here S.ex rfl (S.hd hd) rfl hl q
theorem Go.aloadN (S : St p l e R s m args below meth c Z own bytes nl ret nm h0 ws T h locs cells slots) {k : Fin 4} {v : Value} (hd : decode bytes pc = .ok (.aload_n k, 1)) (hl : Ls[k.val]? = some (.val v)) (hr : v.isRef = true) (hp : pc + 1 = pc') (k : Go p e below P T (mkF m pc' Ls (v :: st))) : Go p e below P T (mkF m pc Ls st) := by
  subst hp
  exact k.of fun t q => XS.aloadN S.X.here S.ex rfl (S.hd hd) hl hr q
theorem Go.aload (S : St p l e R s m args below meth c Z own bytes nl ret nm h0 ws T h locs cells slots) {k : Nat} {v : Value} (hd : decode bytes pc = .ok (.aload k, 2)) (hl : Ls[k]? = some (.val v)) (hr : v.isRef = true) (hp : pc + 2 = pc') (k : Go p e below P T (mkF m pc' Ls (v :: st))) : Go p e below P T (mkF m pc Ls st) := by
  subst hp
  exact k.of fun t q => XS.aload S.X.here S.ex rfl (S.hd hd) hl hr q
theorem Go.astoreN (S : St p l e R s m args below meth c Z own bytes nl ret nm h0 ws T h locs cells slots) {k : Fin 4} {v : Value} (hd : decode bytes pc = .ok (.astore_n k, 1)) (hr : v.isRef = true) (hl : storeLocals Ls k.val v = some Ls') (hp : pc + 1 = pc') (k : Go p e below P T (mkF m pc' Ls' st)) : Go p e below P T (mkF m pc Ls (v :: st)) := by
  subst hp
  exact k.of fun t q => XS.astoreN S.X.here S.ex rfl (S.hd hd) rfl hr hl q
theorem Go.astore (S : St p l e R s m args below meth c Z own bytes nl ret nm h0 ws T h locs cells slots) {k : Nat} {v : Value} (hd : decode bytes pc = .ok (.astore k, 2)) (hr : v.isRef = true) (hl : storeLocals Ls k v = some Ls') (hp : pc + 2 = pc') (k : Go p e below P T (mkF m pc' Ls' st)) : Go p e below P T (mkF m pc Ls (v :: st)) := by
  subst hp
  exact k.of fun t q => XS.astore S.X.here S.ex rfl (S.hd hd) rfl hr hl q
theorem Go.iconst (S : St p l e R s m args below meth c Z own bytes nl ret nm h0 ws T h locs cells slots) {i : Int} {v : Int32} (hd : decode bytes pc = .ok (.iconst i, 1)) (hv : Int32.ofInt i = v) (hp : pc + 1 = pc') (k : Go p e below P T (mkF m pc' Ls (.int v :: st))) : Go p e below P T (mkF m pc Ls st) := by
  subst hp hv
  exact k.of fun t q => XS.iconst S.X.here S.ex rfl (S.hd hd) q
theorem Go.bipush (S : St p l e R s m args below meth c Z own bytes nl ret nm h0 ws T h locs cells slots) {i : Int} {v : Int32} (hd : decode bytes pc = .ok (.bipush i, 2)) (hv : (Int8.ofInt i).toInt32 = v) (hp : pc + 2 = pc') (k : Go p e below P T (mkF m pc' Ls (.int v :: st))) : Go p e below P T (mkF m pc Ls st) := by
  subst hp hv
  exact k.of fun t q => XS.bipush S.X.here S.ex rfl (S.hd hd) q
theorem Go.sipush (S : St p l e R s m args below meth c Z own bytes nl ret nm h0 ws T h locs cells slots) {i : Int} {v : Int32} (hd : decode bytes pc = .ok (.sipush i, 3)) (hv : (Int16.ofInt i).toInt32 = v) (hp : pc + 3 = pc') (k : Go p e below P T (mkF m pc' Ls (.int v :: st))) : Go p e below P T (mkF m pc Ls st) := by
  subst hp hv
  exact k.of fun t q => XS.sipush S.X.here S.ex rfl (S.hd hd) q
theorem Go.lconst (S : St p l e R s m args below meth c Z own bytes nl ret nm h0 ws T h locs cells slots) {i : Fin 2} {v : Int64} (hd : decode bytes pc = .ok (.lconst i, 1)) (hv : Int64.ofNat i = v) (hp : pc + 1 = pc') (k : Go p e below P T (mkF m pc' Ls (.long v :: st))) : Go p e below P T (mkF m pc Ls st) := by
  subst hp hv
  exact k.of fun t q => XS.lconst S.X.here S.ex rfl (S.hd hd) q
theorem Go.aconst_null (S : St p l e R s m args below meth c Z own bytes nl ret nm h0 ws T h locs cells slots)  (hd : decode bytes pc = .ok (.aconst_null, 1)) (hp : pc + 1 = pc') (k : Go p e below P T (mkF m pc' Ls (.null :: st))) : Go p e below P T (mkF m pc Ls st) := by
  subst hp
  exact k.of fun t q => XS.aconstNull S.X.here S.ex rfl (S.hd hd) q
theorem Go.iadd (S : St p l e R s m args below meth c Z own bytes nl ret nm h0 ws T h locs cells slots) {x y : Int32} (hd : decode bytes pc = .ok (.iadd, 1)) (hp : pc + 1 = pc') (k : Go p e below P T (mkF m pc' Ls (.int (x + y) :: st))) : Go p e below P T (mkF m pc Ls (.int y :: .int x :: st)) := by
  subst hp
  exact k.of fun t q => XS.iadd S.X.here S.ex rfl (S.hd hd) rfl q
theorem Go.ladd (S : St p l e R s m args below meth c Z own bytes nl ret nm h0 ws T h locs cells slots) {x y : Int64} (hd : decode bytes pc = .ok (.ladd, 1)) (hp : pc + 1 = pc') (k : Go p e below P T (mkF m pc' Ls (.long (x + y) :: st))) : Go p e below P T (mkF m pc Ls (.long y :: .long x :: st)) := by
  subst hp
  exact k.of fun t q => XS.ladd S.X.here S.ex rfl (S.hd hd) rfl q
theorem Go.isub (S : St p l e R s m args below meth c Z own bytes nl ret nm h0 ws T h locs cells slots) {x y : Int32} (hd : decode bytes pc = .ok (.isub, 1)) (hp : pc + 1 = pc') (k : Go p e below P T (mkF m pc' Ls (.int (x - y) :: st))) : Go p e below P T (mkF m pc Ls (.int y :: .int x :: st)) := by
  subst hp
  exact k.of fun t q => XS.isub S.X.here S.ex rfl (S.hd hd) rfl q
theorem Go.lsub (S : St p l e R s m args below meth c Z own bytes nl ret nm h0 ws T h locs cells slots) {x y : Int64} (hd : decode bytes pc = .ok (.lsub, 1)) (hp : pc + 1 = pc') (k : Go p e below P T (mkF m pc' Ls (.long (x - y) :: st))) : Go p e below P T (mkF m pc Ls (.long y :: .long x :: st)) := by
  subst hp
  exact k.of fun t q => XS.lsub S.X.here S.ex rfl (S.hd hd) rfl q
theorem Go.imul (S : St p l e R s m args below meth c Z own bytes nl ret nm h0 ws T h locs cells slots) {x y : Int32} (hd : decode bytes pc = .ok (.imul, 1)) (hp : pc + 1 = pc') (k : Go p e below P T (mkF m pc' Ls (.int (x * y) :: st))) : Go p e below P T (mkF m pc Ls (.int y :: .int x :: st)) := by
  subst hp
  exact k.of fun t q => XS.imul S.X.here S.ex rfl (S.hd hd) rfl q
theorem Go.lmul (S : St p l e R s m args below meth c Z own bytes nl ret nm h0 ws T h locs cells slots) {x y : Int64} (hd : decode bytes pc = .ok (.lmul, 1)) (hp : pc + 1 = pc') (k : Go p e below P T (mkF m pc' Ls (.long (x * y) :: st))) : Go p e below P T (mkF m pc Ls (.long y :: .long x :: st)) := by
  subst hp
  exact k.of fun t q => XS.lmul S.X.here S.ex rfl (S.hd hd) rfl q
theorem Go.iand (S : St p l e R s m args below meth c Z own bytes nl ret nm h0 ws T h locs cells slots) {x y : Int32} (hd : decode bytes pc = .ok (.iand, 1)) (hp : pc + 1 = pc') (k : Go p e below P T (mkF m pc' Ls (.int (x &&& y) :: st))) : Go p e below P T (mkF m pc Ls (.int y :: .int x :: st)) := by
  subst hp
  exact k.of fun t q => XS.iand S.X.here S.ex rfl (S.hd hd) rfl q
theorem Go.land (S : St p l e R s m args below meth c Z own bytes nl ret nm h0 ws T h locs cells slots) {x y : Int64} (hd : decode bytes pc = .ok (.land, 1)) (hp : pc + 1 = pc') (k : Go p e below P T (mkF m pc' Ls (.long (x &&& y) :: st))) : Go p e below P T (mkF m pc Ls (.long y :: .long x :: st)) := by
  subst hp
  exact k.of fun t q => XS.land S.X.here S.ex rfl (S.hd hd) rfl q
theorem Go.ior (S : St p l e R s m args below meth c Z own bytes nl ret nm h0 ws T h locs cells slots) {x y : Int32} (hd : decode bytes pc = .ok (.ior, 1)) (hp : pc + 1 = pc') (k : Go p e below P T (mkF m pc' Ls (.int (x ||| y) :: st))) : Go p e below P T (mkF m pc Ls (.int y :: .int x :: st)) := by
  subst hp
  exact k.of fun t q => XS.ior S.X.here S.ex rfl (S.hd hd) rfl q
theorem Go.lor (S : St p l e R s m args below meth c Z own bytes nl ret nm h0 ws T h locs cells slots) {x y : Int64} (hd : decode bytes pc = .ok (.lor, 1)) (hp : pc + 1 = pc') (k : Go p e below P T (mkF m pc' Ls (.long (x ||| y) :: st))) : Go p e below P T (mkF m pc Ls (.long y :: .long x :: st)) := by
  subst hp
  exact k.of fun t q => XS.lor S.X.here S.ex rfl (S.hd hd) rfl q
theorem Go.ixor (S : St p l e R s m args below meth c Z own bytes nl ret nm h0 ws T h locs cells slots) {x y : Int32} (hd : decode bytes pc = .ok (.ixor, 1)) (hp : pc + 1 = pc') (k : Go p e below P T (mkF m pc' Ls (.int (x ^^^ y) :: st))) : Go p e below P T (mkF m pc Ls (.int y :: .int x :: st)) := by
  subst hp
  exact k.of fun t q => XS.ixor S.X.here S.ex rfl (S.hd hd) rfl q
theorem Go.lxor (S : St p l e R s m args below meth c Z own bytes nl ret nm h0 ws T h locs cells slots) {x y : Int64} (hd : decode bytes pc = .ok (.lxor, 1)) (hp : pc + 1 = pc') (k : Go p e below P T (mkF m pc' Ls (.long (x ^^^ y) :: st))) : Go p e below P T (mkF m pc Ls (.long y :: .long x :: st)) := by
  subst hp
  exact k.of fun t q => XS.lxor S.X.here S.ex rfl (S.hd hd) rfl q
theorem Go.ishl (S : St p l e R s m args below meth c Z own bytes nl ret nm h0 ws T h locs cells slots) {x : Int32} {y : Int32} (hd : decode bytes pc = .ok (.ishl, 1)) (hp : pc + 1 = pc') (k : Go p e below P T (mkF m pc' Ls (.int (x <<< (y &&& 31)) :: st))) : Go p e below P T (mkF m pc Ls (.int y :: .int x :: st)) := by
  subst hp
  exact k.of fun t q => XS.ishl S.X.here S.ex rfl (S.hd hd) rfl q
theorem Go.ishr (S : St p l e R s m args below meth c Z own bytes nl ret nm h0 ws T h locs cells slots) {x : Int32} {y : Int32} (hd : decode bytes pc = .ok (.ishr, 1)) (hp : pc + 1 = pc') (k : Go p e below P T (mkF m pc' Ls (.int (x >>> (y &&& 31)) :: st))) : Go p e below P T (mkF m pc Ls (.int y :: .int x :: st)) := by
  subst hp
  exact k.of fun t q => XS.ishr S.X.here S.ex rfl (S.hd hd) rfl q
theorem Go.iushr (S : St p l e R s m args below meth c Z own bytes nl ret nm h0 ws T h locs cells slots) {x : Int32} {y : Int32} (hd : decode bytes pc = .ok (.iushr, 1)) (hp : pc + 1 = pc') (k : Go p e below P T (mkF m pc' Ls (.int ((x.toUInt32 >>> (y &&& 31).toUInt32).toInt32) :: st))) : Go p e below P T (mkF m pc Ls (.int y :: .int x :: st)) := by
  subst hp
  exact k.of fun t q => XS.iushr S.X.here S.ex rfl (S.hd hd) rfl q
theorem Go.lshl (S : St p l e R s m args below meth c Z own bytes nl ret nm h0 ws T h locs cells slots) {x : Int64} {y : Int32} (hd : decode bytes pc = .ok (.lshl, 1)) (hp : pc + 1 = pc') (k : Go p e below P T (mkF m pc' Ls (.long (x <<< (y &&& 0x3f).toInt64) :: st))) : Go p e below P T (mkF m pc Ls (.int y :: .long x :: st)) := by
  subst hp
  exact k.of fun t q => XS.lshl S.X.here S.ex rfl (S.hd hd) rfl q
theorem Go.lshr (S : St p l e R s m args below meth c Z own bytes nl ret nm h0 ws T h locs cells slots) {x : Int64} {y : Int32} (hd : decode bytes pc = .ok (.lshr, 1)) (hp : pc + 1 = pc') (k : Go p e below P T (mkF m pc' Ls (.long (x >>> (y &&& 0x3f).toInt64) :: st))) : Go p e below P T (mkF m pc Ls (.int y :: .long x :: st)) := by
  subst hp
  exact k.of fun t q => XS.lshr S.X.here S.ex rfl (S.hd hd) rfl q
theorem Go.lushr (S : St p l e R s m args below meth c Z own bytes nl ret nm h0 ws T h locs cells slots) {x : Int64} {y : Int32} (hd : decode bytes pc = .ok (.lushr, 1)) (hp : pc + 1 = pc') (k : Go p e below P T (mkF m pc' Ls (.long ((x.toUInt64 >>> (y &&& 0x3f).toInt64.toUInt64).toInt64) :: st))) : Go p e below P T (mkF m pc Ls (.int y :: .long x :: st)) := by
  subst hp
  exact k.of fun t q => XS.lushr S.X.here S.ex rfl (S.hd hd) rfl q
theorem Go.i2l (S : St p l e R s m args below meth c Z own bytes nl ret nm h0 ws T h locs cells slots) {x : Int32} (hd : decode bytes pc = .ok (.i2l, 1)) (hp : pc + 1 = pc') (k : Go p e below P T (mkF m pc' Ls (.long (x.toInt64) :: st))) : Go p e below P T (mkF m pc Ls (.int x :: st)) := by
  subst hp
  exact k.of fun t q => XS.i2l S.X.here S.ex rfl (S.hd hd) rfl q
theorem Go.l2i (S : St p l e R s m args below meth c Z own bytes nl ret nm h0 ws T h locs cells slots) {x : Int64} (hd : decode bytes pc = .ok (.l2i, 1)) (hp : pc + 1 = pc') (k : Go p e below P T (mkF m pc' Ls (.int (x.toInt32) :: st))) : Go p e below P T (mkF m pc Ls (.long x :: st)) := by
  subst hp
  exact k.of fun t q => XS.l2i S.X.here S.ex rfl (S.hd hd) rfl q
theorem Go.i2b (S : St p l e R s m args below meth c Z own bytes nl ret nm h0 ws T h locs cells slots) {x : Int32} (hd : decode bytes pc = .ok (.i2b, 1)) (hp : pc + 1 = pc') (k : Go p e below P T (mkF m pc' Ls (.int (x.toInt8.toInt32) :: st))) : Go p e below P T (mkF m pc Ls (.int x :: st)) := by
  subst hp
  exact k.of fun t q => XS.i2b S.X.here S.ex rfl (S.hd hd) rfl q
theorem Go.i2s (S : St p l e R s m args below meth c Z own bytes nl ret nm h0 ws T h locs cells slots) {x : Int32} (hd : decode bytes pc = .ok (.i2s, 1)) (hp : pc + 1 = pc') (k : Go p e below P T (mkF m pc' Ls (.int (x.toInt16.toInt32) :: st))) : Go p e below P T (mkF m pc Ls (.int x :: st)) := by
  subst hp
  exact k.of fun t q => XS.i2s S.X.here S.ex rfl (S.hd hd) rfl q
theorem Go.i2c (S : St p l e R s m args below meth c Z own bytes nl ret nm h0 ws T h locs cells slots) {x : Int32} (hd : decode bytes pc = .ok (.i2c, 1)) (hp : pc + 1 = pc') (k : Go p e below P T (mkF m pc' Ls (.int (x.toUInt32.toUInt16.toUInt32.toInt32) :: st))) : Go p e below P T (mkF m pc Ls (.int x :: st)) := by
  subst hp
  exact k.of fun t q => XS.i2c S.X.here S.ex rfl (S.hd hd) rfl q
theorem Go.ineg (S : St p l e R s m args below meth c Z own bytes nl ret nm h0 ws T h locs cells slots) {x : Int32} (hd : decode bytes pc = .ok (.ineg, 1)) (hp : pc + 1 = pc') (k : Go p e below P T (mkF m pc' Ls (.int (-x) :: st))) : Go p e below P T (mkF m pc Ls (.int x :: st)) := by
  subst hp
  exact k.of fun t q => XS.ineg S.X.here S.ex rfl (S.hd hd) rfl q
theorem Go.lneg (S : St p l e R s m args below meth c Z own bytes nl ret nm h0 ws T h locs cells slots) {x : Int64} (hd : decode bytes pc = .ok (.lneg, 1)) (hp : pc + 1 = pc') (k : Go p e below P T (mkF m pc' Ls (.long (-x) :: st))) : Go p e below P T (mkF m pc Ls (.long x :: st)) := by
  subst hp
  exact k.of fun t q => XS.lneg S.X.here S.ex rfl (S.hd hd) rfl q
theorem Go.idiv (S : St p l e R s m args below meth c Z own bytes nl ret nm h0 ws T h locs cells slots) {x y : Int32} (hd : decode bytes pc = .ok (.idiv, 1)) (hy : y ≠ 0) (hp : pc + 1 = pc') (k : Go p e below P T (mkF m pc' Ls (.int (x / y) :: st))) : Go p e below P T (mkF m pc Ls (.int y :: .int x :: st)) := by
  subst hp
  exact k.of fun t q => XS.idiv S.X.here S.ex rfl (S.hd hd) rfl hy q
theorem Go.ldiv (S : St p l e R s m args below meth c Z own bytes nl ret nm h0 ws T h locs cells slots) {x y : Int64} (hd : decode bytes pc = .ok (.ldiv, 1)) (hy : y ≠ 0) (hp : pc + 1 = pc') (k : Go p e below P T (mkF m pc' Ls (.long (x / y) :: st))) : Go p e below P T (mkF m pc Ls (.long y :: .long x :: st)) := by
  subst hp
  exact k.of fun t q => XS.ldiv S.X.here S.ex rfl (S.hd hd) rfl hy q
theorem Go.irem (S : St p l e R s m args below meth c Z own bytes nl ret nm h0 ws T h locs cells slots) {x y : Int32} (hd : decode bytes pc = .ok (.irem, 1)) (hy : y ≠ 0) (hp : pc + 1 = pc') (k : Go p e below P T (mkF m pc' Ls (.int (x % y) :: st))) : Go p e below P T (mkF m pc Ls (.int y :: .int x :: st)) := by
  subst hp
  exact k.of fun t q => Jvm.RoadKit.iremM S.X S.ex rfl (S.hd hd) rfl hy q
theorem Go.lrem (S : St p l e R s m args below meth c Z own bytes nl ret nm h0 ws T h locs cells slots) {x y : Int64} (hd : decode bytes pc = .ok (.lrem, 1)) (hy : y ≠ 0) (hp : pc + 1 = pc') (k : Go p e below P T (mkF m pc' Ls (.long (x % y) :: st))) : Go p e below P T (mkF m pc Ls (.long y :: .long x :: st)) := by
  subst hp
  rw [← lrem_mod] at k
  exact k.of fun t q => XS.lrem S.X.here S.ex rfl (S.hd hd) rfl hy q
theorem Go.iinc (S : St p l e R s m args below meth c Z own bytes nl ret nm h0 ws T h locs cells slots) {k : Nat} {cst : Int} {x : Int32} (hd : decode bytes pc = .ok (.iinc k cst, 3)) (hl : Ls[k]? = some (.val (.int x))) (hl' : storeLocals Ls k (.int (x + Int32.ofInt cst)) = some Ls') (hp : pc + 3 = pc') (k : Go p e below P T (mkF m pc' Ls' st)) : Go p e below P T (mkF m pc Ls st) := by
  subst hp
  exact k.of fun t q => XS.iinc S.X.here S.ex rfl (S.hd hd) hl hl' q
theorem Go.dup (S : St p l e R s m args below meth c Z own bytes nl ret nm h0 ws T h locs cells slots) {x : Value} (hd : decode bytes pc = .ok (.dup, 1)) (hc : x.category = 1) (hp : pc + 1 = pc') (k : Go p e below P T (mkF m pc' Ls (x :: x :: st))) : Go p e below P T (mkF m pc Ls (x :: st)) := by
  subst hp
  exact k.of fun t q => XS.dup S.X.here S.ex rfl (S.hd hd) rfl hc q
theorem Go.pop (S : St p l e R s m args below meth c Z own bytes nl ret nm h0 ws T h locs cells slots) {x : Value} (hd : decode bytes pc = .ok (.pop, 1)) (hc : x.category = 1) (hp : pc + 1 = pc') (k : Go p e below P T (mkF m pc' Ls st)) : Go p e below P T (mkF m pc Ls (x :: st)) := by
  subst hp
  exact k.of fun t q => XS.pop S.X.here S.ex rfl (S.hd hd) rfl hc q
theorem Go.dup_x1 (S : St p l e R s m args below meth c Z own bytes nl ret nm h0 ws T h locs cells slots) {x y : Value} (hd : decode bytes pc = .ok (.dup_x1, 1)) (hc : x.category = 1) (hc' : y.category = 1) (hp : pc + 1 = pc') (k : Go p e below P T (mkF m pc' Ls (x :: y :: x :: st))) : Go p e below P T (mkF m pc Ls (x :: y :: st)) := by
  subst hp
  exact k.of fun t q => XS.dupX1 S.X.here S.ex rfl (S.hd hd) rfl hc hc' q
theorem Go.goto (S : St p l e R s m args below meth c Z own bytes nl ret nm h0 ws T h locs cells slots) {o : Int} (hd : decode bytes pc = .ok (.goto o, 3)) (hp : (pc : Int) + o = (pc' : Int)) (k : Go p e below P T (mkF m pc' Ls st)) : Go p e below P T (mkF m pc Ls st) :=
  k.of fun t q => XS.goto S.X.here S.ex rfl (pc0 := pc) rfl (S.hd hd) (off0 hp) (off1 hp) q
theorem Go.if_eq (S : St p l e R s m args below meth c Z own bytes nl ret nm h0 ws T h locs cells slots) {x : Int32} {o : Int} {pt : Nat} (hd : decode bytes pc = .ok (.ifCond .eq o, 3)) (ht : (pc : Int) + o = (pt : Int)) (hf : pc + 3 = pc') (ky : x = 0 → Go p e below P T (mkF m pt Ls st)) (kn : ¬ x = 0 → Go p e below P T (mkF m pc' Ls st)) : Go p e below P T (mkF m pc Ls (.int x :: st)) := by
  subst hf
  by_cases q : x = 0
  · exact (ky q).of fun t q' => XS.ifYes S.X.here S.ex rfl (pc0 := pc) rfl (S.hd hd) rfl (Jvm.Free.XT.i0_eq_t q) (off0 ht) (off1 ht) q'
  · exact (kn q).of fun t q' => XS.ifNo S.X.here S.ex rfl (S.hd hd) rfl (Jvm.Free.XT.i0_eq_f q) q'
theorem Go.icmp_eq (S : St p l e R s m args below meth c Z own bytes nl ret nm h0 ws T h locs cells slots) {x y : Int32} {o : Int} {pt : Nat} (hd : decode bytes pc = .ok (.if_icmp .eq o, 3)) (ht : (pc : Int) + o = (pt : Int)) (hf : pc + 3 = pc') (ky : x = y → Go p e below P T (mkF m pt Ls st)) (kn : ¬ x = y → Go p e below P T (mkF m pc' Ls st)) : Go p e below P T (mkF m pc Ls (.int y :: .int x :: st)) := by
  subst hf
  by_cases q : x = y
  · exact (ky q).of fun t q' => XS.icmpYes S.X.here S.ex rfl (pc0 := pc) rfl (S.hd hd) rfl (Jvm.Free.XT.ii_eq_t q) (off0 ht) (off1 ht) q'
  · exact (kn q).of fun t q' => XS.icmpNo S.X.here S.ex rfl (S.hd hd) rfl (Jvm.Free.XT.ii_eq_f q) q'
theorem Go.lcmp_eq (S : St p l e R s m args below meth c Z own bytes nl ret nm h0 ws T h locs cells slots) {x y : Int64} {o : Int} {pt : Nat} {pc1 : Nat} (hd1 : decode bytes pc = .ok (.lcmp, 1)) (h1 : pc + 1 = pc1) (hd : decode bytes pc1 = .ok (.ifCond .eq o, 3)) (ht : (pc1 : Int) + o = (pt : Int)) (hf : pc1 + 3 = pc') (ky : x = y → Go p e below P T (mkF m pt Ls st)) (kn : ¬ x = y → Go p e below P T (mkF m pc' Ls st)) : Go p e below P T (mkF m pc Ls (.long y :: .long x :: st)) := by
  subst hf h1
  by_cases q : x = y
  · exact (ky q).of fun t q' => Jvm.Free.XT.lcmp S.X.here S.ex rfl (S.hd hd1) rfl (XS.ifYes S.X.here S.ex rfl (pc0 := pc + 1) rfl (S.hd hd) rfl (Jvm.Free.XT.ll_eq_t q) (off0 ht) (off1 ht) q')
  · exact (kn q).of fun t q' => Jvm.Free.XT.lcmp S.X.here S.ex rfl (S.hd hd1) rfl (XS.ifNo S.X.here S.ex rfl (S.hd hd) rfl (Jvm.Free.XT.ll_eq_f q) q')
theorem Go.if_ne (S : St p l e R s m args below meth c Z own bytes nl ret nm h0 ws T h locs cells slots) {x : Int32} {o : Int} {pt : Nat} (hd : decode bytes pc = .ok (.ifCond .ne o, 3)) (ht : (pc : Int) + o = (pt : Int)) (hf : pc + 3 = pc') (ky : ¬ x = 0 → Go p e below P T (mkF m pt Ls st)) (kn : x = 0 → Go p e below P T (mkF m pc' Ls st)) : Go p e below P T (mkF m pc Ls (.int x :: st)) := by
  subst hf
  by_cases q : x = 0
  · exact (kn q).of fun t q' => XS.ifNo S.X.here S.ex rfl (S.hd hd) rfl (Jvm.Free.XT.i0_ne_f q) q'
  · exact (ky q).of fun t q' => XS.ifYes S.X.here S.ex rfl (pc0 := pc) rfl (S.hd hd) rfl (Jvm.Free.XT.i0_ne_t q) (off0 ht) (off1 ht) q'
theorem Go.icmp_ne (S : St p l e R s m args below meth c Z own bytes nl ret nm h0 ws T h locs cells slots) {x y : Int32} {o : Int} {pt : Nat} (hd : decode bytes pc = .ok (.if_icmp .ne o, 3)) (ht : (pc : Int) + o = (pt : Int)) (hf : pc + 3 = pc') (ky : ¬ x = y → Go p e below P T (mkF m pt Ls st)) (kn : x = y → Go p e below P T (mkF m pc' Ls st)) : Go p e below P T (mkF m pc Ls (.int y :: .int x :: st)) := by
  subst hf
  by_cases q : x = y
  · exact (kn q).of fun t q' => XS.icmpNo S.X.here S.ex rfl (S.hd hd) rfl (Jvm.Free.XT.ii_ne_f q) q'
  · exact (ky q).of fun t q' => XS.icmpYes S.X.here S.ex rfl (pc0 := pc) rfl (S.hd hd) rfl (Jvm.Free.XT.ii_ne_t q) (off0 ht) (off1 ht) q'
theorem Go.lcmp_ne (S : St p l e R s m args below meth c Z own bytes nl ret nm h0 ws T h locs cells slots) {x y : Int64} {o : Int} {pt : Nat} {pc1 : Nat} (hd1 : decode bytes pc = .ok (.lcmp, 1)) (h1 : pc + 1 = pc1) (hd : decode bytes pc1 = .ok (.ifCond .ne o, 3)) (ht : (pc1 : Int) + o = (pt : Int)) (hf : pc1 + 3 = pc') (ky : ¬ x = y → Go p e below P T (mkF m pt Ls st)) (kn : x = y → Go p e below P T (mkF m pc' Ls st)) : Go p e below P T (mkF m pc Ls (.long y :: .long x :: st)) := by
  subst hf h1
  by_cases q : x = y
  · exact (kn q).of fun t q' => Jvm.Free.XT.lcmp S.X.here S.ex rfl (S.hd hd1) rfl (XS.ifNo S.X.here S.ex rfl (S.hd hd) rfl (Jvm.Free.XT.ll_ne_f q) q')
  · exact (ky q).of fun t q' => Jvm.Free.XT.lcmp S.X.here S.ex rfl (S.hd hd1) rfl (XS.ifYes S.X.here S.ex rfl (pc0 := pc + 1) rfl (S.hd hd) rfl (Jvm.Free.XT.ll_ne_t q) (off0 ht) (off1 ht) q')
theorem Go.if_lt (S : St p l e R s m args below meth c Z own bytes nl ret nm h0 ws T h locs cells slots) {x : Int32} {o : Int} {pt : Nat} (hd : decode bytes pc = .ok (.ifCond .lt o, 3)) (ht : (pc : Int) + o = (pt : Int)) (hf : pc + 3 = pc') (ky : x < 0 → Go p e below P T (mkF m pt Ls st)) (kn : ¬ x < 0 → Go p e below P T (mkF m pc' Ls st)) : Go p e below P T (mkF m pc Ls (.int x :: st)) := by
  subst hf
  by_cases q : x < 0
  · exact (ky q).of fun t q' => XS.ifYes S.X.here S.ex rfl (pc0 := pc) rfl (S.hd hd) rfl (Jvm.Free.XT.i0_lt_t q) (off0 ht) (off1 ht) q'
  · exact (kn q).of fun t q' => XS.ifNo S.X.here S.ex rfl (S.hd hd) rfl (Jvm.Free.XT.i0_lt_f q) q'
theorem Go.icmp_lt (S : St p l e R s m args below meth c Z own bytes nl ret nm h0 ws T h locs cells slots) {x y : Int32} {o : Int} {pt : Nat} (hd : decode bytes pc = .ok (.if_icmp .lt o, 3)) (ht : (pc : Int) + o = (pt : Int)) (hf : pc + 3 = pc') (ky : x < y → Go p e below P T (mkF m pt Ls st)) (kn : ¬ x < y → Go p e below P T (mkF m pc' Ls st)) : Go p e below P T (mkF m pc Ls (.int y :: .int x :: st)) := by
  subst hf
  by_cases q : x < y
  · exact (ky q).of fun t q' => XS.icmpYes S.X.here S.ex rfl (pc0 := pc) rfl (S.hd hd) rfl (Jvm.Free.XT.ii_lt_t q) (off0 ht) (off1 ht) q'
  · exact (kn q).of fun t q' => XS.icmpNo S.X.here S.ex rfl (S.hd hd) rfl (Jvm.Free.XT.ii_lt_f q) q'
theorem Go.lcmp_lt (S : St p l e R s m args below meth c Z own bytes nl ret nm h0 ws T h locs cells slots) {x y : Int64} {o : Int} {pt : Nat} {pc1 : Nat} (hd1 : decode bytes pc = .ok (.lcmp, 1)) (h1 : pc + 1 = pc1) (hd : decode bytes pc1 = .ok (.ifCond .lt o, 3)) (ht : (pc1 : Int) + o = (pt : Int)) (hf : pc1 + 3 = pc') (ky : x < y → Go p e below P T (mkF m pt Ls st)) (kn : ¬ x < y → Go p e below P T (mkF m pc' Ls st)) : Go p e below P T (mkF m pc Ls (.long y :: .long x :: st)) := by
  subst hf h1
  by_cases q : x < y
  · exact (ky q).of fun t q' => Jvm.Free.XT.lcmp S.X.here S.ex rfl (S.hd hd1) rfl (XS.ifYes S.X.here S.ex rfl (pc0 := pc + 1) rfl (S.hd hd) rfl (Jvm.Free.XT.ll_lt_t q) (off0 ht) (off1 ht) q')
  · exact (kn q).of fun t q' => Jvm.Free.XT.lcmp S.X.here S.ex rfl (S.hd hd1) rfl (XS.ifNo S.X.here S.ex rfl (S.hd hd) rfl (Jvm.Free.XT.ll_lt_f q) q')
theorem Go.if_ge (S : St p l e R s m args below meth c Z own bytes nl ret nm h0 ws T h locs cells slots) {x : Int32} {o : Int} {pt : Nat} (hd : decode bytes pc = .ok (.ifCond .ge o, 3)) (ht : (pc : Int) + o = (pt : Int)) (hf : pc + 3 = pc') (ky : ¬ x < 0 → Go p e below P T (mkF m pt Ls st)) (kn : x < 0 → Go p e below P T (mkF m pc' Ls st)) : Go p e below P T (mkF m pc Ls (.int x :: st)) := by
  subst hf
  by_cases q : x < 0
  · exact (kn q).of fun t q' => XS.ifNo S.X.here S.ex rfl (S.hd hd) rfl (Jvm.Free.XT.i0_ge_f q) q'
  · exact (ky q).of fun t q' => XS.ifYes S.X.here S.ex rfl (pc0 := pc) rfl (S.hd hd) rfl (Jvm.Free.XT.i0_ge_t q) (off0 ht) (off1 ht) q'
theorem Go.icmp_ge (S : St p l e R s m args below meth c Z own bytes nl ret nm h0 ws T h locs cells slots) {x y : Int32} {o : Int} {pt : Nat} (hd : decode bytes pc = .ok (.if_icmp .ge o, 3)) (ht : (pc : Int) + o = (pt : Int)) (hf : pc + 3 = pc') (ky : ¬ x < y → Go p e below P T (mkF m pt Ls st)) (kn : x < y → Go p e below P T (mkF m pc' Ls st)) : Go p e below P T (mkF m pc Ls (.int y :: .int x :: st)) := by
  subst hf
  by_cases q : x < y
  · exact (kn q).of fun t q' => XS.icmpNo S.X.here S.ex rfl (S.hd hd) rfl (Jvm.Free.XT.ii_ge_f q) q'
  · exact (ky q).of fun t q' => XS.icmpYes S.X.here S.ex rfl (pc0 := pc) rfl (S.hd hd) rfl (Jvm.Free.XT.ii_ge_t q) (off0 ht) (off1 ht) q'
theorem Go.lcmp_ge (S : St p l e R s m args below meth c Z own bytes nl ret nm h0 ws T h locs cells slots) {x y : Int64} {o : Int} {pt : Nat} {pc1 : Nat} (hd1 : decode bytes pc = .ok (.lcmp, 1)) (h1 : pc + 1 = pc1) (hd : decode bytes pc1 = .ok (.ifCond .ge o, 3)) (ht : (pc1 : Int) + o = (pt : Int)) (hf : pc1 + 3 = pc') (ky : ¬ x < y → Go p e below P T (mkF m pt Ls st)) (kn : x < y → Go p e below P T (mkF m pc' Ls st)) : Go p e below P T (mkF m pc Ls (.long y :: .long x :: st)) := by
  subst hf h1
  by_cases q : x < y
  · exact (kn q).of fun t q' => Jvm.Free.XT.lcmp S.X.here S.ex rfl (S.hd hd1) rfl (XS.ifNo S.X.here S.ex rfl (S.hd hd) rfl (Jvm.Free.XT.ll_ge_f q) q')
  · exact (ky q).of fun t q' => Jvm.Free.XT.lcmp S.X.here S.ex rfl (S.hd hd1) rfl (XS.ifYes S.X.here S.ex rfl (pc0 := pc + 1) rfl (S.hd hd) rfl (Jvm.Free.XT.ll_ge_t q) (off0 ht) (off1 ht) q')
theorem Go.if_gt (S : St p l e R s m args below meth c Z own bytes nl ret nm h0 ws T h locs cells slots) {x : Int32} {o : Int} {pt : Nat} (hd : decode bytes pc = .ok (.ifCond .gt o, 3)) (ht : (pc : Int) + o = (pt : Int)) (hf : pc + 3 = pc') (ky : 0 < x → Go p e below P T (mkF m pt Ls st)) (kn : ¬ 0 < x → Go p e below P T (mkF m pc' Ls st)) : Go p e below P T (mkF m pc Ls (.int x :: st)) := by
  subst hf
  by_cases q : 0 < x
  · exact (ky q).of fun t q' => XS.ifYes S.X.here S.ex rfl (pc0 := pc) rfl (S.hd hd) rfl (Jvm.Free.XT.i0_gt_t q) (off0 ht) (off1 ht) q'
  · exact (kn q).of fun t q' => XS.ifNo S.X.here S.ex rfl (S.hd hd) rfl (Jvm.Free.XT.i0_gt_f q) q'
theorem Go.icmp_gt (S : St p l e R s m args below meth c Z own bytes nl ret nm h0 ws T h locs cells slots) {x y : Int32} {o : Int} {pt : Nat} (hd : decode bytes pc = .ok (.if_icmp .gt o, 3)) (ht : (pc : Int) + o = (pt : Int)) (hf : pc + 3 = pc') (ky : y < x → Go p e below P T (mkF m pt Ls st)) (kn : ¬ y < x → Go p e below P T (mkF m pc' Ls st)) : Go p e below P T (mkF m pc Ls (.int y :: .int x :: st)) := by
  subst hf
  by_cases q : y < x
  · exact (ky q).of fun t q' => XS.icmpYes S.X.here S.ex rfl (pc0 := pc) rfl (S.hd hd) rfl (Jvm.Free.XT.ii_gt_t q) (off0 ht) (off1 ht) q'
  · exact (kn q).of fun t q' => XS.icmpNo S.X.here S.ex rfl (S.hd hd) rfl (Jvm.Free.XT.ii_gt_f q) q'
theorem Go.lcmp_gt (S : St p l e R s m args below meth c Z own bytes nl ret nm h0 ws T h locs cells slots) {x y : Int64} {o : Int} {pt : Nat} {pc1 : Nat} (hd1 : decode bytes pc = .ok (.lcmp, 1)) (h1 : pc + 1 = pc1) (hd : decode bytes pc1 = .ok (.ifCond .gt o, 3)) (ht : (pc1 : Int) + o = (pt : Int)) (hf : pc1 + 3 = pc') (ky : y < x → Go p e below P T (mkF m pt Ls st)) (kn : ¬ y < x → Go p e below P T (mkF m pc' Ls st)) : Go p e below P T (mkF m pc Ls (.long y :: .long x :: st)) := by
  subst hf h1
  by_cases q : y < x
  · exact (ky q).of fun t q' => Jvm.Free.XT.lcmp S.X.here S.ex rfl (S.hd hd1) rfl (XS.ifYes S.X.here S.ex rfl (pc0 := pc + 1) rfl (S.hd hd) rfl (Jvm.Free.XT.ll_gt_t q) (off0 ht) (off1 ht) q')
  · exact (kn q).of fun t q' => Jvm.Free.XT.lcmp S.X.here S.ex rfl (S.hd hd1) rfl (XS.ifNo S.X.here S.ex rfl (S.hd hd) rfl (Jvm.Free.XT.ll_gt_f q) q')
theorem Go.if_le (S : St p l e R s m args below meth c Z own bytes nl ret nm h0 ws T h locs cells slots) {x : Int32} {o : Int} {pt : Nat} (hd : decode bytes pc = .ok (.ifCond .le o, 3)) (ht : (pc : Int) + o = (pt : Int)) (hf : pc + 3 = pc') (ky : ¬ 0 < x → Go p e below P T (mkF m pt Ls st)) (kn : 0 < x → Go p e below P T (mkF m pc' Ls st)) : Go p e below P T (mkF m pc Ls (.int x :: st)) := by
  subst hf
  by_cases q : 0 < x
  · exact (kn q).of fun t q' => XS.ifNo S.X.here S.ex rfl (S.hd hd) rfl (Jvm.Free.XT.i0_le_f q) q'
  · exact (ky q).of fun t q' => XS.ifYes S.X.here S.ex rfl (pc0 := pc) rfl (S.hd hd) rfl (Jvm.Free.XT.i0_le_t q) (off0 ht) (off1 ht) q'
theorem Go.icmp_le (S : St p l e R s m args below meth c Z own bytes nl ret nm h0 ws T h locs cells slots) {x y : Int32} {o : Int} {pt : Nat} (hd : decode bytes pc = .ok (.if_icmp .le o, 3)) (ht : (pc : Int) + o = (pt : Int)) (hf : pc + 3 = pc') (ky : ¬ y < x → Go p e below P T (mkF m pt Ls st)) (kn : y < x → Go p e below P T (mkF m pc' Ls st)) : Go p e below P T (mkF m pc Ls (.int y :: .int x :: st)) := by
  subst hf
  by_cases q : y < x
  · exact (kn q).of fun t q' => XS.icmpNo S.X.here S.ex rfl (S.hd hd) rfl (Jvm.Free.XT.ii_le_f q) q'
  · exact (ky q).of fun t q' => XS.icmpYes S.X.here S.ex rfl (pc0 := pc) rfl (S.hd hd) rfl (Jvm.Free.XT.ii_le_t q) (off0 ht) (off1 ht) q'
theorem Go.lcmp_le (S : St p l e R s m args below meth c Z own bytes nl ret nm h0 ws T h locs cells slots) {x y : Int64} {o : Int} {pt : Nat} {pc1 : Nat} (hd1 : decode bytes pc = .ok (.lcmp, 1)) (h1 : pc + 1 = pc1) (hd : decode bytes pc1 = .ok (.ifCond .le o, 3)) (ht : (pc1 : Int) + o = (pt : Int)) (hf : pc1 + 3 = pc') (ky : ¬ y < x → Go p e below P T (mkF m pt Ls st)) (kn : y < x → Go p e below P T (mkF m pc' Ls st)) : Go p e below P T (mkF m pc Ls (.long y :: .long x :: st)) := by
  subst hf h1
  by_cases q : y < x
  · exact (kn q).of fun t q' => Jvm.Free.XT.lcmp S.X.here S.ex rfl (S.hd hd1) rfl (XS.ifNo S.X.here S.ex rfl (S.hd hd) rfl (Jvm.Free.XT.ll_le_f q) q')
  · exact (ky q).of fun t q' => Jvm.Free.XT.lcmp S.X.here S.ex rfl (S.hd hd1) rfl (XS.ifYes S.X.here S.ex rfl (pc0 := pc + 1) rfl (S.hd hd) rfl (Jvm.Free.XT.ll_le_t q) (off0 ht) (off1 ht) q')
theorem Go.acmp_eq (S : St p l e R s m args below meth c Z own bytes nl ret nm h0 ws T h locs cells slots) {x y : Value} {o : Int} {pt : Nat} (hd : decode bytes pc = .ok (.if_acmp .eq o, 3)) (ht : (pc : Int) + o = (pt : Int)) (hf : pc + 3 = pc') (rx : x.isRef = true) (ry : y.isRef = true) (ky : x = y → Go p e below P T (mkF m pt Ls st)) (kn : ¬ x = y → Go p e below P T (mkF m pc' Ls st)) : Go p e below P T (mkF m pc Ls (y :: x :: st)) := by
  subst hf
  by_cases q : x = y
  · exact (ky q).of fun t q' => Jvm.RoadKit.acmp (g := mkF m pc Ls (y :: x :: st)) S.X S.ex rfl rx ry (pc0 := pc) (same := true) rfl (S.hd hd) rfl (decide_eq_true q) (off0 ht) ((off1 ht).symm.trans (if_pos rfl).symm) q'
  · exact (kn q).of fun t q' => Jvm.RoadKit.acmp (g := mkF m pc Ls (y :: x :: st)) S.X S.ex rfl rx ry (pc0 := pc) (same := false) rfl (S.hd hd) rfl (decide_eq_false q) (off0 ht) ((if_neg (fun z => nomatch z)).symm) q'
theorem Go.acmp_ne (S : St p l e R s m args below meth c Z own bytes nl ret nm h0 ws T h locs cells slots) {x y : Value} {o : Int} {pt : Nat} (hd : decode bytes pc = .ok (.if_acmp .ne o, 3)) (ht : (pc : Int) + o = (pt : Int)) (hf : pc + 3 = pc') (rx : x.isRef = true) (ry : y.isRef = true) (ky : ¬ x = y → Go p e below P T (mkF m pt Ls st)) (kn : x = y → Go p e below P T (mkF m pc' Ls st)) : Go p e below P T (mkF m pc Ls (y :: x :: st)) := by
  subst hf
  by_cases q : x = y
  · exact (kn q).of fun t q' => Jvm.RoadKit.acmp (g := mkF m pc Ls (y :: x :: st)) S.X S.ex rfl rx ry (pc0 := pc) (same := true) rfl (S.hd hd) rfl (decide_eq_true q) (off0 ht) ((if_neg (fun z => nomatch z)).symm) q'
  · exact (ky q).of fun t q' => Jvm.RoadKit.acmp (g := mkF m pc Ls (y :: x :: st)) S.X S.ex rfl rx ry (pc0 := pc) (same := false) rfl (S.hd hd) rfl (decide_eq_false q) (off0 ht) ((off1 ht).symm.trans (if_pos rfl).symm) q'
theorem Go.ifnullY (S : St p l e R s m args below meth c Z own bytes nl ret nm h0 ws T h locs cells slots) {o : Int} {pt : Nat} (hd : decode bytes pc = .ok (.ifnull o, 3)) (ht : (pc : Int) + o = (pt : Int)) (k : Go p e below P T (mkF m pt Ls st)) : Go p e below P T (mkF m pc Ls (.null :: st)) :=
  k.of fun t q => XS.ifnullYes S.X.here S.ex rfl (pc0 := pc) rfl (S.hd hd) rfl (off0 ht) (off1 ht) q
theorem Go.ifnullN (S : St p l e R s m args below meth c Z own bytes nl ret nm h0 ws T h locs cells slots) {o : Int} {b : Addr} (hd : decode bytes pc = .ok (.ifnull o, 3)) (hf : pc + 3 = pc') (k : Go p e below P T (mkF m pc' Ls st)) : Go p e below P T (mkF m pc Ls (.ref b :: st)) := by
  subst hf
  exact k.of fun t q => XS.ifnullNo S.X.here S.ex rfl (S.hd hd) rfl q
theorem Go.ifnonnullY (S : St p l e R s m args below meth c Z own bytes nl ret nm h0 ws T h locs cells slots) {o : Int} {pt : Nat} {b : Addr} (hd : decode bytes pc = .ok (.ifnonnull o, 3)) (ht : (pc : Int) + o = (pt : Int)) (k : Go p e below P T (mkF m pt Ls st)) : Go p e below P T (mkF m pc Ls (.ref b :: st)) :=
  k.of fun t q => XS.ifnonnullYes S.X.here S.ex rfl (pc0 := pc) rfl (S.hd hd) rfl (off0 ht) (off1 ht) q
theorem Go.ifnonnullN (S : St p l e R s m args below meth c Z own bytes nl ret nm h0 ws T h locs cells slots) {o : Int} (hd : decode bytes pc = .ok (.ifnonnull o, 3)) (hf : pc + 3 = pc') (k : Go p e below P T (mkF m pc' Ls st)) : Go p e below P T (mkF m pc Ls (.null :: st)) := by
  subst hf
  exact k.of fun t q => XS.ifnonnullNo S.X.here S.ex rfl (S.hd hd) rfl q
theorem Go.ldc (S : St p l e R s m args below meth c Z own bytes nl ret nm h0 ws T h locs cells slots) {index : Nat} {v : Int32} (w : (Jvm.Cond.constant own index v).before a0 Z = true) (hd : decode bytes pc = .ok (.ldc index, 2)) (hp : pc + 2 = pc') (k : Go p e below P T (mkF m pc' Ls (.int v :: st))) : Go p e below P T (mkF m pc Ls st) := by
  subst hp
  exact k.of fun t q => S.X.ldcInt S.ex S.hown (mvT S.hZ w) (g := mkF m pc Ls st) rfl (S.hd hd) _ q
theorem Go.ldc2 (S : St p l e R s m args below meth c Z own bytes nl ret nm h0 ws T h locs cells slots) {index : Nat} {v : Int64} (w : (Jvm.Cond.constantLong own index v).before a0 Z = true) (hd : decode bytes pc = .ok (.ldc2_w index, 3)) (hp : pc + 3 = pc') (k : Go p e below P T (mkF m pc' Ls (.long v :: st))) : Go p e below P T (mkF m pc Ls st) := by
  subst hp
  exact k.of fun t q => S.X.ldc2Long S.ex S.hown (mvT S.hZ w) (g := mkF m pc Ls st) rfl (S.hd hd) _ q
theorem Go.leaves (S : St p l e R s m args below meth c Z own bytes nl ret nm h0 ws T h locs cells slots) {kc ks : Nat} {Q : Option Value → Heap → Prop} {g : JFrame} {v : Option Value} (hv : ret = none → v = none) (hc : cells ≤ kc) (hs : slots ≤ ks)
    (step : ∀ fs : List Frame, (∀ (f : JFrame) (acts : List Action), f.method = m → f.locked = none → f.entered = [] → (doReturn e (T.setTop f) acts v).1 = T.setFrames fs) → Steps p.tables e below (T.setTop g) (T.setFrames fs)) (q : Q v h) : Go p e below (PostOf Z s h0 ws kc ks Q) T g := by
  obtain ⟨fs, hr, hrun, hended, hW, hsame⟩ := S.X.leave (v := v) (fun q => hv (S.hret ▸ q)) S.locks
  refine ⟨_, _, step fs hr, hrun, hended, v, locs, rfl, ⟨S.fr, ?_, ?_, ?_⟩, ⟨_, rfl⟩, hW, hsame.mono hc hs⟩
  · show Keep h0 T.heap ws
    rw [S.eT]; exact S.keep
  · show Ext Z.heap T.heap
    rw [S.eT]; exact S.ext
  · show Q v T.heap
    rw [S.eT]; exact q
theorem St.leaves0 (S : St p l e R s m args below meth c Z own bytes nl ret nm h0 ws T h locs cells slots) {kc ks : Nat} {Q : Option Value → Heap → Prop} {g : JFrame} {w : Value} {t : FieldType} (hret : ret = some t) (hc : cells ≤ kc) (hs : slots ≤ ks) (q : Q (some w) h)
    (step : ∀ fs : List Frame, (∀ (f : JFrame) (acts : List Action), f.method = m → f.locked = none → f.entered = [] → (doReturn e (T.setTop f) acts (some w)).1 = T.setFrames fs) → Steps p.tables e below (T.setTop g) (T.setFrames fs)) : Go p e below (PostOf Z s h0 ws kc ks Q) T g :=
  Go.leaves S (fun q => by rw [hret] at q; cases q) hc hs step q
theorem narrow_ref {t : FieldType} {w : Value} (ht : t.isReference = true) (hw : w.isRef = true) : narrow t w = w := by
  rcases ref_cases hw with rfl | ⟨a, rfl⟩ <;> cases t <;> rfl
theorem Go.ireturn (S : St p l e R s m args below meth c Z own bytes nl ret nm h0 ws T h locs cells slots) {kc ks : Nat} {Q : Option Value → Heap → Prop} {z : Int32} (hret : ret = some .int) (hd : decode bytes pc = .ok (.ireturn, 1)) (hc : cells ≤ kc) (hs : slots ≤ ks) (q : Q (some (.int z)) h) : Go p e below (PostOf Z s h0 ws kc ks Q) T (mkF m pc Ls (.int z :: st)) :=
  S.leaves0 hret hc hs q fun fs hr => retOut S.X S.ex (t := .int) (i := .ireturn) (S.hret.trans hret) rfl (Or.inl ⟨rfl, Or.inl rfl, z, rfl⟩) (S.hd hd) hr
theorem Go.lreturn (S : St p l e R s m args below meth c Z own bytes nl ret nm h0 ws T h locs cells slots) {kc ks : Nat} {Q : Option Value → Heap → Prop} {z : Int64} (hret : ret = some .long) (hd : decode bytes pc = .ok (.lreturn, 1)) (hc : cells ≤ kc) (hs : slots ≤ ks) (q : Q (some (.long z)) h) : Go p e below (PostOf Z s h0 ws kc ks Q) T (mkF m pc Ls (.long z :: st)) :=
  S.leaves0 hret hc hs q fun fs hr => retOut S.X S.ex (t := .long) (i := .lreturn) (S.hret.trans hret) rfl (Or.inr (Or.inl ⟨rfl, rfl, z, rfl⟩)) (S.hd hd) hr
theorem Go.areturn (S : St p l e R s m args below meth c Z own bytes nl ret nm h0 ws T h locs cells slots) {kc ks : Nat} {Q : Option Value → Heap → Prop} {w : Value} {t : FieldType} (hret : ret = some t) (ht : t.isReference = true) (hw : w.isRef = true) (hd : decode bytes pc = .ok (.areturn, 1)) (hc : cells ≤ kc) (hs : slots ≤ ks) (q : Q (some w) h) : Go p e below (PostOf Z s h0 ws kc ks Q) T (mkF m pc Ls (w :: st)) :=
  S.leaves0 hret hc hs q fun fs hr => retOut S.X S.ex (i := .areturn) (S.hret.trans hret) (narrow_ref ht hw) (Or.inr (Or.inr (Or.inr (Or.inr ⟨rfl, ht, hw⟩)))) (S.hd hd) hr
theorem Go.zreturn (S : St p l e R s m args below meth c Z own bytes nl ret nm h0 ws T h locs cells slots) {kc ks : Nat} {Q : Option Value → Heap → Prop} {z z' : Int32} {t : FieldType} (hret : ret = some t) (ht : t = .boolean ∨ t = .byte ∨ t = .char ∨ t = .short) (hd : decode bytes pc = .ok (.ireturn, 1)) (hz : nar t z = z') (hc : cells ≤ kc) (hs : slots ≤ ks) (q : Q (some (.int z')) h) : Go p e below (PostOf Z s h0 ws kc ks Q) T (mkF m pc Ls (.int z :: st)) := by
  subst hz
  exact S.leaves0 hret hc hs q fun fs hr => retN S.X S.ex (S.hret.trans hret) ht (S.hd hd) hr
theorem Go.vreturn (S : St p l e R s m args below meth c Z own bytes nl ret nm h0 ws T h locs cells slots) {kc ks : Nat} {Q : Option Value → Heap → Prop} (hret : ret = none) (hd : decode bytes pc = .ok (.return_, 1)) (hc : cells ≤ kc) (hs : slots ≤ ks) (q : Q none h) : Go p e below (PostOf Z s h0 ws kc ks Q) T (mkF m pc Ls []) :=
  Go.leaves S (fun _ => rfl) hc hs (fun fs hr => S.X.returnOut S.ex (S.hret.trans hret) (S.hd hd) hr) q
theorem Go.getfield (S : St p l e R s m args below meth c Z own bytes nl ret nm h0 ws T h locs cells slots) {R0 O n d host : String} {index : Nat} {a : Addr} {v : Value} (w : ((Jvm.Cond.fieldLink own index R0 n d).before a0 Z = true ∨ (Jvm.Cond.fieldLinkNest own index R0 n d host).before a0 Z = true)) (via : Via Z R0 O n d) (F : Fld Z h a O n d v) (hd : decode bytes pc = .ok (.getfield index, 3)) (hp : pc + 3 = pc')
    (k : ∀ T', St p l e R s m args below meth c Z own bytes nl ret nm h0 ws T' h locs cells slots → Go p e below P T' (mkF m pc' Ls (v :: st))) : Go p e below P T (mkF m pc Ls (.ref a :: st)) := by
  subst hp
  obtain ⟨T', X', e', f⟩ := getF S.X S.ex S.hZ S.hown w via S.eT F (g := mkF m pc Ls (.ref a :: st)) rfl rfl (S.hd hd)
  exact (k T' (S.next X' e' S.fr S.keep S.ext)).of f
theorem Go.getstatic (S : St p l e R s m args below meth c Z own bytes nl ret nm h0 ws T h locs cells slots) {R0 O n d host : String} {index : Nat} {v : Value} (w : ((Jvm.Cond.fieldLink own index R0 n d).before a0 Z = true ∨ (Jvm.Cond.fieldLinkNest own index R0 n d host).before a0 Z = true)) (via : Via Z R0 O n d) (F : Sta Z Z.heap O n d v) (hd : decode bytes pc = .ok (.getstatic index, 3)) (hp : pc + 3 = pc')
    (k : ∀ T', St p l e R s m args below meth c Z own bytes nl ret nm h0 ws T' h locs cells slots → Go p e below P T' (mkF m pc' Ls (v :: st))) : Go p e below P T (mkF m pc Ls st) := by
  subst hp
  obtain ⟨T', X', e', f⟩ := getS2 S.X S.ex S.hZ S.hown w via S.eT (F.ext S.ext) (g := mkF m pc Ls st) rfl (S.hd hd)
  exact (k T' (S.next X' e' S.fr S.keep S.ext)).of f
theorem St.wrote (S : St p l e R s m args below meth c Z own bytes nl ret nm h0 ws T h locs cells slots) {T' : State} {h' : Heap} {a : Addr} {sl : Nat} {v : Value} (X : Stand p l e R s m args below meth c T' (locs ++ [⟨a, sl⟩]) cells slots) (e1 : T'.heap = h') (W : Wr h h' a sl v) (hz : Z.heap.size ≤ a) (hws : a ∈ ws ∨ h0.size ≤ a) : St p l e R s m args below meth c Z own bytes nl ret nm h0 ws T' h' (locs ++ [⟨a, sl⟩]) cells slots :=
  S.next X e1 (Fr.snoc X S.fr hz) (S.keep.wr W hws) (Old.wr (n0 := Z.heap.size) ⟨rfl, S.ext⟩ W hz).2
theorem Go.putfield (S : St p l e R s m args below meth c Z own bytes nl ret nm h0 ws T h locs cells slots) {R0 O n d host C : String} {index kk : Nat} {ty : FieldType} {a : Addr} {v old : Value} (w : ((Jvm.Cond.fieldLink own index R0 n d).before a0 Z = true ∨ (Jvm.Cond.fieldLinkNest own index R0 n d host).before a0 Z = true)) (via : Via Z R0 O n d) (F : Fld Z h a O n d old) (E : Exa Z h a C)
    (L : (Jvm.Cond.lays C O n d).before a0 Z = true ∨ ((Jvm.Cond.laysFinal C O n d).before a0 Z = true ∧ own = O ∧ nm = "<init>")) (wi : (Jvm.Cond.instantiable C kk).before a0 Z = true) (hty : parseFieldDescriptor d = some ty) (hn : narrow ty v = v) (hf : fits ty v = true)
    (hz : Z.heap.size ≤ a) (hws : a ∈ ws ∨ h0.size ≤ a) (hd : decode bytes pc = .ok (.putfield index, 3)) (hp : pc + 3 = pc')
    (k : ∀ T' h' locs', St p l e R s m args below meth c Z own bytes nl ret nm h0 ws T' h' locs' cells slots → Wr h h' a (Jvm.RoadKit.slotOf Z O n d) v → Go p e below P T' (mkF m pc' Ls st)) : Go p e below P T (mkF m pc Ls (v :: .ref a :: st)) := by
  subst hp
  obtain ⟨T', h', X', e', W, f⟩ := putF S.X S.ex S.hZ S.hown w via S.eT F E (L.imp id fun q => ⟨q.1, q.2.1, S.hnm.trans q.2.2⟩) wi hty hn hf (g := mkF m pc Ls (v :: .ref a :: st)) rfl rfl (S.hd hd)
  exact (k T' h' _ (S.wrote X' e' W hz hws) W).of f
theorem Go.putfieldN (S : St p l e R s m args below meth c Z own bytes nl ret nm h0 ws T h locs cells slots) {R0 O n d C : String} {index kk : Nat} {ty : FieldType} {a : Addr} {v v' old : Value} (w : (Jvm.Cond.fieldLink own index R0 n d).before a0 Z = true) (via : Via Z R0 O n d) (F : Fld Z h a O n d old) (E : Exa Z h a C)
    (L : (Jvm.Cond.lays C O n d).before a0 Z = true ∨ ((Jvm.Cond.laysFinal C O n d).before a0 Z = true ∧ own = O ∧ nm = "<init>")) (wi : (Jvm.Cond.instantiable C kk).before a0 Z = true) (hty : parseFieldDescriptor d = some ty) (hn : narrow ty v = v') (hf : fits ty v' = true)
    (hz : Z.heap.size ≤ a) (hws : a ∈ ws ∨ h0.size ≤ a) (hd : decode bytes pc = .ok (.putfield index, 3)) (hp : pc + 3 = pc')
    (k : ∀ T' h' locs', St p l e R s m args below meth c Z own bytes nl ret nm h0 ws T' h' locs' cells slots → Wr h h' a (Jvm.RoadKit.slotOf Z O n d) v' → Go p e below P T' (mkF m pc' Ls st)) : Go p e below P T (mkF m pc Ls (v :: .ref a :: st)) := by
  subst hp
  obtain ⟨T', h', X', e', W, f⟩ := putFN S.X S.ex S.hZ S.hown w via S.eT F E (L.imp id fun q => ⟨q.1, q.2.1, S.hnm.trans q.2.2⟩) wi hty hn hf (g := mkF m pc Ls (v :: .ref a :: st)) rfl rfl (S.hd hd)
  exact (k T' h' _ (S.wrote X' e' W hz hws) W).of f
theorem St.made (S : St p l e R s m args below meth c Z own bytes nl ret nm h0 ws T h locs cells slots) {T' : State} {h' : Heap} {cells' slots' : Nat} (X : Stand p l e R s m args below meth c T' locs cells' slots') (e1 : T'.heap = h') (E : Ext h h') : St p l e R s m args below meth c Z own bytes nl ret nm h0 ws T' h' locs cells' slots' :=
  S.next X e1 S.fr (S.keep.ext E) (Old.ext (n0 := Z.heap.size) ⟨rfl, S.ext⟩ E).2
theorem Go.new (S : St p l e R s m args below meth c Z own bytes nl ret nm h0 ws T h locs cells slots) {C : String} {index n : Nat} (w : (Jvm.Cond.classLink own index C).before a0 Z = true) (wi : (Jvm.Cond.instantiable C n).before a0 Z = true) (wz : (Jvm.Cond.initialized C).before a0 Z = true) (hd : decode bytes pc = .ok (.new index, 3)) (hc : cells + 1 ≤ R.cells) (hl : slots + n ≤ R.slots) (hp : pc + 3 = pc')
    (k : ∀ T' h' a, St p l e R s m args below meth c Z own bytes nl ret nm h0 ws T' h' locs (cells + 1) (slots + n) → Ext h h' → h.size = a → Z.heap.size ≤ a → h0.size ≤ a → Exa Z h' a C → (∀ {O nm d : String} {ty : FieldType}, Laid Z a0 C O nm d → parseFieldDescriptor d = some ty → Fld Z h' a O nm d (defaultValue ty)) → Go p e below P T' (mkF m pc' Ls (.ref a :: st))) : Go p e below P T (mkF m pc Ls st) := by
  subst hp
  obtain ⟨T', h', X', e', E, A, D, -, f⟩ := newO S.X S.ex S.hZ S.hown w wi wz S.eT (g := mkF m pc Ls st) rfl (S.hd hd) hc hl
  exact (k T' h' h.size (S.made X' e' E) E rfl S.ext.1 S.keep.1 A D).of f
theorem Go.newarray (S : St p l e R s m args below meth c Z own bytes nl ret nm h0 ws T h locs cells slots) {aty : ArrayType} {n : Int32} {cap : Nat} {ty : FieldType} {dv : Value} (hty : newarray.typeOf aty = ty) (hdv : defaultValue ty = dv) (w : (Jvm.Cond.arrayClass ty).before a0 Z = true) (hd : decode bytes pc = .ok (.newarray aty, 2)) (hn : ¬ n < 0) (hcap : n.toNatClampNeg ≤ cap) (hb : cap * 8 ≤ 536870912) (hc : cells + 1 ≤ R.cells) (hl : slots + cap ≤ R.slots) (hp : pc + 2 = pc')
    (k : ∀ T' h' a cA, St p l e R s m args below meth c Z own bytes nl ret nm h0 ws T' h' locs (cells + 1) (slots + cap) → Ext h h' → h.size = a → Z.heap.size ≤ a → h0.size ≤ a → Arv Z h' a cA ty n (List.replicate cap dv) dv → Go p e below P T' (mkF m pc' Ls (.ref a :: st))) : Go p e below P T (mkF m pc Ls (.int n :: st)) := by
  subst hp hty hdv
  obtain ⟨T', h', cA, X', e', E, A, f⟩ := newP S.X S.ex S.hZ w S.eT (g := mkF m pc Ls (.int n :: st)) rfl (S.hd hd) rfl hn hcap hb hc hl
  exact (k T' h' h.size cA (S.made X' e' E) E rfl S.ext.1 S.keep.1 ((Arv.new A hn).pad (pad_rep [] _ cap))).of f
theorem Go.anewarray (S : St p l e R s m args below meth c Z own bytes nl ret nm h0 ws T h locs cells slots) {C : String} {index : Nat} {n : Int32} {cap : Nat} (w1 : (Jvm.Cond.classLink own index C).before a0 Z = true) (w2 : (Jvm.Cond.arrayOver (.object C)).before a0 Z = true) (hd : decode bytes pc = .ok (.anewarray index, 3)) (hn : ¬ n < 0) (hcap : n.toNatClampNeg ≤ cap) (hb : cap * 8 ≤ 536870912) (hc : cells + 1 ≤ R.cells) (hl : slots + cap ≤ R.slots) (hp : pc + 3 = pc')
    (k : ∀ T' h' a cA, St p l e R s m args below meth c Z own bytes nl ret nm h0 ws T' h' locs (cells + 1) (slots + cap) → Ext h h' → h.size = a → Z.heap.size ≤ a → h0.size ≤ a → Arv Z h' a cA (.object C) n (List.replicate cap .null) .null → Ovr Z cA C → Go p e below P T' (mkF m pc' Ls (.ref a :: st))) : Go p e below P T (mkF m pc Ls (.int n :: st)) := by
  subst hp
  obtain ⟨T', h', cA, X', e', E, A, O, f⟩ := newR S.X S.ex S.hZ S.hown w1 w2 S.eT (g := mkF m pc Ls (.int n :: st)) rfl (S.hd hd) rfl hn hcap hb hc hl
  exact (k T' h' h.size cA (S.made X' e' E) E rfl S.ext.1 S.keep.1 ((Arv.new A hn).pad (pad_rep [] _ cap)) O).of f
theorem Go.iastore (S : St p l e R s m args below meth c Z own bytes nl ret nm h0 ws T h locs cells slots) {a : Addr} {kA : ClassId} {n j : Int32} {x : Int32} {vs : List Value} {dv : Value} {i : Nat} (V : Arv Z h a kA .int n vs dv) (hj : ¬ j < 0 ∧ j < n) (hi : j.toNatClampNeg = i) (hl : i < vs.length) (hz : Z.heap.size ≤ a) (hws : a ∈ ws ∨ h0.size ≤ a) (hd : decode bytes pc = .ok (.iastore, 1)) (hp : pc + 1 = pc')
    (k : ∀ T' h' locs', St p l e R s m args below meth c Z own bytes nl ret nm h0 ws T' h' locs' cells slots → Wr h h' a j.toNatClampNeg (.int x) → Arv Z h' a kA .int n (vs.set i (.int x)) dv → Go p e below P T' (mkF m pc' Ls st)) : Go p e below P T (mkF m pc Ls (.int x :: .int j :: .ref a :: st)) := by
  subst hp
  obtain ⟨cl, A, q1, q2, q3, H, F⟩ := V
  obtain ⟨T', h', X', e', W, f⟩ := stI S.X S.ex S.hZ S.eT A (j := j) (x := x) (inb_of q2 hj) (g := mkF m pc Ls (.int x :: .int j :: .ref a :: st)) rfl rfl (S.hd hd)
  exact (k T' h' _ (S.wrote X' e' W hz hws) W (Arv.set A q1 q2 q3 H F rfl W i hi hl)).of f
theorem Go.castore (S : St p l e R s m args below meth c Z own bytes nl ret nm h0 ws T h locs cells slots) {a : Addr} {kA : ClassId} {n j : Int32} {x : Int32} {vs : List Value} {dv : Value} {i : Nat} (V : Arv Z h a kA .char n vs dv) (hj : ¬ j < 0 ∧ j < n) (hi : j.toNatClampNeg = i) (hl : i < vs.length) (hz : Z.heap.size ≤ a) (hws : a ∈ ws ∨ h0.size ≤ a) (hd : decode bytes pc = .ok (.castore, 1)) (hp : pc + 1 = pc')
    (k : ∀ T' h' locs', St p l e R s m args below meth c Z own bytes nl ret nm h0 ws T' h' locs' cells slots → Wr h h' a j.toNatClampNeg (.int (nar .char x)) → Arv Z h' a kA .char n (vs.set i (.int (nar .char x))) dv → Go p e below P T' (mkF m pc' Ls st)) : Go p e below P T (mkF m pc Ls (.int x :: .int j :: .ref a :: st)) := by
  subst hp
  obtain ⟨cl, A, q1, q2, q3, H, F⟩ := V
  obtain ⟨T', h', X', e', W, f⟩ := stC S.X S.ex S.hZ S.eT A (j := j) (x := x) (inb_of q2 hj) (g := mkF m pc Ls (.int x :: .int j :: .ref a :: st)) rfl rfl (S.hd hd)
  exact (k T' h' _ (S.wrote X' e' W hz hws) W (Arv.set A q1 q2 q3 H F (fits_nar_char _) W i hi hl)).of f
theorem Go.bastore (S : St p l e R s m args below meth c Z own bytes nl ret nm h0 ws T h locs cells slots) {a : Addr} {kA : ClassId} {n j : Int32} {x : Int32} {vs : List Value} {dv : Value} {i : Nat} (V : Arv Z h a kA .byte n vs dv) (hj : ¬ j < 0 ∧ j < n) (hi : j.toNatClampNeg = i) (hl : i < vs.length) (hz : Z.heap.size ≤ a) (hws : a ∈ ws ∨ h0.size ≤ a) (hd : decode bytes pc = .ok (.bastore, 1)) (hp : pc + 1 = pc')
    (k : ∀ T' h' locs', St p l e R s m args below meth c Z own bytes nl ret nm h0 ws T' h' locs' cells slots → Wr h h' a j.toNatClampNeg (.int (nar .byte x)) → Arv Z h' a kA .byte n (vs.set i (.int (nar .byte x))) dv → Go p e below P T' (mkF m pc' Ls st)) : Go p e below P T (mkF m pc Ls (.int x :: .int j :: .ref a :: st)) := by
  subst hp
  obtain ⟨cl, A, q1, q2, q3, H, F⟩ := V
  obtain ⟨T', h', X', e', W, f⟩ := stB S.X S.ex S.hZ S.eT A (j := j) (x := x) (inb_of q2 hj) (g := mkF m pc Ls (.int x :: .int j :: .ref a :: st)) rfl rfl (S.hd hd)
  exact (k T' h' _ (S.wrote X' e' W hz hws) W (Arv.set A q1 q2 q3 H F (fits_nar_byte _) W i hi hl)).of f
theorem Go.lastore (S : St p l e R s m args below meth c Z own bytes nl ret nm h0 ws T h locs cells slots) {a : Addr} {kA : ClassId} {n j : Int32} {x : Int64} {vs : List Value} {dv : Value} {i : Nat} (V : Arv Z h a kA .long n vs dv) (hj : ¬ j < 0 ∧ j < n) (hi : j.toNatClampNeg = i) (hl : i < vs.length) (hz : Z.heap.size ≤ a) (hws : a ∈ ws ∨ h0.size ≤ a) (hd : decode bytes pc = .ok (.lastore, 1)) (hp : pc + 1 = pc')
    (k : ∀ T' h' locs', St p l e R s m args below meth c Z own bytes nl ret nm h0 ws T' h' locs' cells slots → Wr h h' a j.toNatClampNeg (.long x) → Arv Z h' a kA .long n (vs.set i (.long x)) dv → Go p e below P T' (mkF m pc' Ls st)) : Go p e below P T (mkF m pc Ls (.long x :: .int j :: .ref a :: st)) := by
  subst hp
  obtain ⟨cl, A, q1, q2, q3, H, F⟩ := V
  obtain ⟨T', h', X', e', W, f⟩ := stJ S.X S.ex S.hZ S.eT A (j := j) (x := x) (inb_of q2 hj) (g := mkF m pc Ls (.long x :: .int j :: .ref a :: st)) rfl rfl (S.hd hd)
  exact (k T' h' _ (S.wrote X' e' W hz hws) W (Arv.set A q1 q2 q3 H F rfl W i hi hl)).of f
theorem Go.aastore (S : St p l e R s m args below meth c Z own bytes nl ret nm h0 ws T h locs cells slots) {a : Addr} {kA : ClassId} {ty : FieldType} {n j : Int32} {v : Value} {vs : List Value} {dv : Value} {i : Nat} (V : Arv Z h a kA ty n vs dv) (hty : ty.isReference = true) (hj : ¬ j < 0 ∧ j < n) (hi : j.toNatClampNeg = i) (hl : i < vs.length) (hfit : fits ty v = true) (F : Sto Z h a v) (hz : Z.heap.size ≤ a) (hws : a ∈ ws ∨ h0.size ≤ a) (hd : decode bytes pc = .ok (.aastore, 1)) (hp : pc + 1 = pc')
    (k : ∀ T' h' locs', St p l e R s m args below meth c Z own bytes nl ret nm h0 ws T' h' locs' cells slots → Wr h h' a j.toNatClampNeg v → Arv Z h' a kA ty n (vs.set i v) dv → Go p e below P T' (mkF m pc' Ls st)) : Go p e below P T (mkF m pc Ls (v :: .int j :: .ref a :: st)) := by
  subst hp
  obtain ⟨cl, A, q1, q2, q3, H, F'⟩ := V
  obtain ⟨T', h', X', e', W, f⟩ := stR S.X S.ex S.hZ S.eT A (j := j) (v := v) (inb_of q2 hj) hty F (g := mkF m pc Ls (v :: .int j :: .ref a :: st)) rfl rfl (S.hd hd)
  exact (k T' h' _ (S.wrote X' e' W hz hws) W (Arv.set A q1 q2 q3 H F' hfit W i hi hl)).of f
theorem Go.iaload (S : St p l e R s m args below meth c Z own bytes nl ret nm h0 ws T h locs cells slots) {a : Addr} {kA : ClassId} {n j : Int32} {v : Value} {vs : List Value} {dv : Value} (V : Arv Z h a kA .int n vs dv) (hj : ¬ j < 0 ∧ j < n) (hv : vs.getD j.toNatClampNeg dv = v) (hd : decode bytes pc = .ok (.iaload, 1)) (hp : pc + 1 = pc') (k : Go p e below P T (mkF m pc' Ls (v :: st))) : Go p e below P T (mkF m pc Ls (.int j :: .ref a :: st)) := by
  subst hp
  obtain ⟨cl, A, q1, q2, q3, H, F⟩ := V
  exact k.of fun t q => S.X.iaload S.ex (j := j) (v := v) (by rw [S.eT]; exact A.1) (State.isArrayOf_alike S.hZ.alike A.2.1) A.2.2 (inb_of q2 hj) (H.at (inb_of q2 hj) hv) (g := mkF m pc Ls (.int j :: .ref a :: st)) rfl rfl (S.hd hd) _ q
theorem Go.laload (S : St p l e R s m args below meth c Z own bytes nl ret nm h0 ws T h locs cells slots) {a : Addr} {kA : ClassId} {n j : Int32} {v : Value} {vs : List Value} {dv : Value} (V : Arv Z h a kA .long n vs dv) (hj : ¬ j < 0 ∧ j < n) (hv : vs.getD j.toNatClampNeg dv = v) (hd : decode bytes pc = .ok (.laload, 1)) (hp : pc + 1 = pc') (k : Go p e below P T (mkF m pc' Ls (v :: st))) : Go p e below P T (mkF m pc Ls (.int j :: .ref a :: st)) := by
  subst hp
  obtain ⟨cl, A, q1, q2, q3, H, F⟩ := V
  exact k.of fun t q => S.X.laload S.ex (j := j) (v := v) (by rw [S.eT]; exact A.1) (State.isArrayOf_alike S.hZ.alike A.2.1) A.2.2 (inb_of q2 hj) (H.at (inb_of q2 hj) hv) (g := mkF m pc Ls (.int j :: .ref a :: st)) rfl rfl (S.hd hd) _ q
theorem Go.caload (S : St p l e R s m args below meth c Z own bytes nl ret nm h0 ws T h locs cells slots) {a : Addr} {kA : ClassId} {n j : Int32} {v : Value} {vs : List Value} {dv : Value} (V : Arv Z h a kA .char n vs dv) (hj : ¬ j < 0 ∧ j < n) (hv : vs.getD j.toNatClampNeg dv = v) (hd : decode bytes pc = .ok (.caload, 1)) (hp : pc + 1 = pc') (k : Go p e below P T (mkF m pc' Ls (v :: st))) : Go p e below P T (mkF m pc Ls (.int j :: .ref a :: st)) := by
  subst hp
  obtain ⟨cl, A, q1, q2, q3, H, F⟩ := V
  exact k.of fun t q => S.X.caload S.ex (j := j) (v := v) (by rw [S.eT]; exact A.1) (State.isArrayOf_alike S.hZ.alike A.2.1) A.2.2 (inb_of q2 hj) (H.at (inb_of q2 hj) hv) (g := mkF m pc Ls (.int j :: .ref a :: st)) rfl rfl (S.hd hd) _ q
theorem Go.baload (S : St p l e R s m args below meth c Z own bytes nl ret nm h0 ws T h locs cells slots) {a : Addr} {kA : ClassId} {n j : Int32} {v : Value} {vs : List Value} {dv : Value} (V : Arv Z h a kA .byte n vs dv) (hj : ¬ j < 0 ∧ j < n) (hv : vs.getD j.toNatClampNeg dv = v) (hd : decode bytes pc = .ok (.baload, 1)) (hp : pc + 1 = pc') (k : Go p e below P T (mkF m pc' Ls (v :: st))) : Go p e below P T (mkF m pc Ls (.int j :: .ref a :: st)) := by
  subst hp
  obtain ⟨cl, A, q1, q2, q3, H, F⟩ := V
  exact k.of fun t q => S.X.baloadBytes S.ex (j := j) (v := v) (by rw [S.eT]; exact A.1) (State.isArrayOf_alike S.hZ.alike A.2.1) A.2.2 (inb_of q2 hj) (H.at (inb_of q2 hj) hv) (g := mkF m pc Ls (.int j :: .ref a :: st)) rfl rfl (S.hd hd) _ q
theorem Go.aaload (S : St p l e R s m args below meth c Z own bytes nl ret nm h0 ws T h locs cells slots) {a : Addr} {kA : ClassId} {ty : FieldType} {n j : Int32} {v : Value} {vs : List Value} {dv : Value} (V : Arv Z h a kA ty n vs dv) (hty : ty.isReference = true) (hj : ¬ j < 0 ∧ j < n) (hv : vs.getD j.toNatClampNeg dv = v) (hd : decode bytes pc = .ok (.aaload, 1)) (hp : pc + 1 = pc') (k : Go p e below P T (mkF m pc' Ls (v :: st))) : Go p e below P T (mkF m pc Ls (.int j :: .ref a :: st)) := by
  subst hp
  obtain ⟨cl, A, q1, q2, q3, H, F⟩ := V
  exact k.of fun t q => S.X.aaload S.ex (j := j) (v := v) (by rw [S.eT]; exact A.1) (State.isArrayOf_alike S.hZ.alike A.2.1) hty A.2.2 (inb_of q2 hj) (H.at (inb_of q2 hj) hv) (g := mkF m pc Ls (.int j :: .ref a :: st)) rfl rfl (S.hd hd) _ q
theorem Go.arraylength (S : St p l e R s m args below meth c Z own bytes nl ret nm h0 ws T h locs cells slots) {a : Addr} {kA : ClassId} {ty : FieldType} {n : Int32} {vs : List Value} {dv : Value} (V : Arv Z h a kA ty n vs dv) (hd : decode bytes pc = .ok (.arraylength, 1)) (hp : pc + 1 = pc') (k : Go p e below P T (mkF m pc' Ls (.int n :: st))) : Go p e below P T (mkF m pc Ls (.ref a :: st)) := by
  subst hp
  obtain ⟨cl, A, q1, q2, q3, H, F⟩ := V
  exact k.of fun t q => S.X.arraylength S.ex (by rw [S.eT]; exact A.1) (State.isArrayOf_alike S.hZ.alike A.2.1) (g := mkF m pc Ls (.ref a :: st)) rfl rfl (S.hd hd) _ (by rw [len_of q2 q3]; exact q)
theorem Go.initObject (S : St p l e R s m args below meth c Z own bytes nl ret nm h0 ws T h locs cells slots) {idx : Nat} {a : Addr} {W : Nat} (w1 : (Jvm.Cond.methodLink own idx Lib.objectInit).before a0 Z = true) (w2 : (Jvm.Cond.instanceMethod Lib.objectInit).before a0 Z = true) (w3 : (Jvm.Cond.code Lib.objectInit ⟨#[0xb1]⟩ 1 none).before a0 Z = true) (hd : decode bytes pc = .ok (.invokespecial idx, 3)) (hsz : Ls.size = nl) (hf : 1 ≤ R.frames) (hW : (st.map fun v => v.category).sum = W) (hl : W + 12 ≤ R.locals) (hp : pc + 3 = pc')
    (k : ∀ T', St p l e R s m args below meth c Z own bytes nl ret nm h0 ws T' h locs cells slots → Go p e below P T' (mkF m pc' Ls st)) : Go p e below P T (mkF m pc Ls (.ref a :: st)) := by
  subst hp
  obtain ⟨T', X', e', f⟩ := initO S.X S.ex S.hZ S.hown w1 w2 w3 S.eT (g := mkF m pc Ls (.ref a :: st)) rfl (hsz.trans S.hnl.symm) rfl (S.hd hd) hf (W := W) (by show 2 * 0 + _ ≤ _; rw [hW]; omega) hl
  exact (k T' (S.next X' e' S.fr S.keep S.ext)).of f
theorem Go.checkcast (S : St p l e R s m args below meth c Z own bytes nl ret nm h0 ws T h locs cells slots) {C : String} {index : Nat} {a : Addr} (w : (Jvm.Cond.classLink own index C).before a0 Z = true) (F : Ins Z h a C true) (hd : decode bytes pc = .ok (.checkcast index, 3)) (hp : pc + 3 = pc')
    (k : ∀ T', St p l e R s m args below meth c Z own bytes nl ret nm h0 ws T' h locs cells slots → Go p e below P T' (mkF m pc' Ls (.ref a :: st))) : Go p e below P T (mkF m pc Ls (.ref a :: st)) := by
  subst hp
  obtain ⟨T', X', e', f⟩ := castY S.X S.ex S.hZ S.hown w S.eT F (g := mkF m pc Ls (.ref a :: st)) rfl rfl (S.hd hd)
  exact (k T' (S.next X' e' S.fr S.keep S.ext)).of f
theorem Go.instanceofY (S : St p l e R s m args below meth c Z own bytes nl ret nm h0 ws T h locs cells slots) {C : String} {index : Nat} {a : Addr} (w : (Jvm.Cond.classLink own index C).before a0 Z = true) (F : Ins Z h a C true) (hd : decode bytes pc = .ok (.instanceof index, 3)) (hp : pc + 3 = pc')
    (k : ∀ T', St p l e R s m args below meth c Z own bytes nl ret nm h0 ws T' h locs cells slots → Go p e below P T' (mkF m pc' Ls (.int 1 :: st))) : Go p e below P T (mkF m pc Ls (.ref a :: st)) := by
  subst hp
  obtain ⟨T', X', e', f⟩ := instY S.X S.ex S.hZ S.hown w S.eT F (g := mkF m pc Ls (.ref a :: st)) rfl rfl (S.hd hd)
  exact (k T' (S.next X' e' S.fr S.keep S.ext)).of f
theorem Go.invokestatic (S : St p l e R s m args below meth c Z own bytes nl ret nm h0 ws T h locs cells slots) {y : MethodName} {bytes' : ByteArray} {nl' : Nat} {ret' : Option FieldType} {rm : Room} {as' : Array Value} {ws' : List Addr} {Q' : Option Value → Heap → Prop} {index W : Nat} {ps : List FieldType} {r : Option FieldType} {argsL : List Value} (M : OMeets l Z y bytes' nl' ret' rm as' h ws' Q') (w1 : (Jvm.Cond.methodLink own index y).before a0 Z = true) (w2 : (Jvm.Cond.static y).before a0 Z = true) (w3 : (Jvm.Cond.initialized y.cls).before a0 Z = true) (w4 : (Jvm.Cond.code y bytes' nl' ret').before a0 Z = true) (hy : y.cls ≠ "java/lang/invoke/MethodHandle" ∧ y.cls ≠ "java/lang/invoke/VarHandle") (hd : decode bytes pc = .ok (.invokestatic index, 3)) (hsz : Ls.size = nl) (hlen : parseMethodDescriptor y.desc = some ⟨ps, r⟩) (hn : argsL.length = ps.length) (has : argsL.toArray = as') {stk : List Value} (hstk : stk = argsL.reverse ++ st) (hf : rm.frames + 1 ≤ R.frames) (hW : (st.map fun v => v.category).sum = W) (hl : W + (nl' + 11) + rm.locals ≤ R.locals) (hc : cells + rm.cells ≤ R.cells) (hs : slots + rm.slots ≤ R.slots) (hws : ∀ x ∈ ws', x ∈ ws ∨ h0.size ≤ x) (hp : pc + 3 = pc')
    (k : ∀ v T' h' locs', St p l e R s m args below meth c Z own bytes nl ret nm h0 ws T' h' locs' (cells + rm.cells) (slots + rm.slots) → Keep h h' ws' → Q' v h' → Go p e below P T' (mkF m pc' Ls (v.toList ++ st))) : Go p e below P T (mkF m pc Ls stk) := by
  subst hp hstk
  obtain ⟨v, _, ⟨T', L', k', n'⟩, -, X', ⟨L, hQ, l1, l2, l3⟩, f⟩ := Jvm.LawKit.callS S.X S.ex S.hown (mvT S.hZ w1) (mvT S.hZ w2) (mvT S.hZ w3) (mvT S.hZ w4) hy (backOf (Q := fun v U L => Fr Z.heap.size L ∧ Keep h U ws' ∧ Ext Z.heap U ∧ Q' v U) (W := W) (M []) S.hZ w4 w3 hf hl) (g := mkF m pc Ls (argsL.reverse ++ st)) rfl (hsz.trans S.hnl.symm) (argsL := argsL) (rest := st) (lenOf hlen hn) rfl (by show 2 * 0 + _ ≤ _; rw [hW]; omega) (S.hd hd) (fun _ _ => ⟨has, S.eT, hc, hs⟩)
  dsimp only [Pt.U, Pt.locs, Pt.cells, Pt.slots] at X' l1 l2 l3 hQ f
  subst l1 l2 l3
  obtain ⟨N, K', E', q⟩ := hQ
  exact (k v T' T'.heap _ (S.next X' rfl (S.fr.app N) (S.keep.trans K' hws) E') K' q).of f
theorem Go.invokespecial (S : St p l e R s m args below meth c Z own bytes nl ret nm h0 ws T h locs cells slots) {y : MethodName} {bytes' : ByteArray} {nl' : Nat} {ret' : Option FieldType} {rm : Room} {as' : Array Value} {ws' : List Addr} {Q' : Option Value → Heap → Prop} {index W : Nat} {ps : List FieldType} {r : Option FieldType} {argsL : List Value} {a : Addr} (M : OMeets l Z y bytes' nl' ret' rm as' h ws' Q') (hi : y.name = "<init>") (hr0 : ret' = none) (w1 : (Jvm.Cond.methodLink own index y).before a0 Z = true) (w2 : (Jvm.Cond.instanceMethod y).before a0 Z = true) (w3 : (Jvm.Cond.initialized y.cls).before a0 Z = true) (w4 : (Jvm.Cond.code y bytes' nl' ret').before a0 Z = true) (hy : y.cls ≠ "java/lang/invoke/MethodHandle" ∧ y.cls ≠ "java/lang/invoke/VarHandle") (hd : decode bytes pc = .ok (.invokespecial index, 3)) (hsz : Ls.size = nl) (hlen : parseMethodDescriptor y.desc = some ⟨ps, r⟩) (hn : argsL.length = ps.length) (has : (.ref a :: argsL).toArray = as') {stk : List Value} (hstk : stk = argsL.reverse ++ .ref a :: st) (hf : rm.frames + 1 ≤ R.frames) (hW : (st.map fun v => v.category).sum = W) (hl : W + (nl' + 11) + rm.locals ≤ R.locals) (hc : cells + rm.cells ≤ R.cells) (hs : slots + rm.slots ≤ R.slots) (hws : ∀ x ∈ ws', x ∈ ws ∨ h0.size ≤ x) (hp : pc + 3 = pc')
    (k : ∀ v T' h' locs', St p l e R s m args below meth c Z own bytes nl ret nm h0 ws T' h' locs' (cells + rm.cells) (slots + rm.slots) → Keep h h' ws' → Q' v h' → Go p e below P T' (mkF m pc' Ls (v.toList ++ st))) : Go p e below P T (mkF m pc Ls stk) := by
  subst hp hstk hr0
  obtain ⟨v, _, ⟨T', L', k', n'⟩, -, X', ⟨L, hQ, l1, l2, l3⟩, f⟩ := S.X.specialBack S.ex hi S.hown (mvT S.hZ w1) (mvT S.hZ w2) (mvT S.hZ w4) hy (backOf (Q := fun v U L => Fr Z.heap.size L ∧ Keep h U ws' ∧ Ext Z.heap U ∧ Q' v U) (W := W) (M []) S.hZ w4 w3 hf hl) (g := mkF m pc Ls (argsL.reverse ++ .ref a :: st)) rfl (hsz.trans S.hnl.symm) (Steps.refl _) (a := a) (argsL := argsL) (rest := st) (lenOf hlen hn) rfl (by show 2 * 0 + _ ≤ _; rw [hW]; omega) (S.hd hd) (fun _ _ => ⟨has, S.eT, hc, hs⟩)
  dsimp only [Pt.U, Pt.locs, Pt.cells, Pt.slots] at X' l1 l2 l3 hQ f
  subst l1 l2 l3
  obtain ⟨N, K', E', q⟩ := hQ
  exact (k v T' T'.heap _ (S.next X' rfl (S.fr.app N) (S.keep.trans K' hws) E') K' q).of fun t q => f.trans q
theorem Go.invokevirtual (S : St p l e R s m args below meth c Z own bytes nl ret nm h0 ws T h locs cells slots) {y : MethodName} {bytes' : ByteArray} {nl' : Nat} {ret' : Option FieldType} {rm : Room} {as' : Array Value} {ws' : List Addr} {Q' : Option Value → Heap → Prop} {index W : Nat} {ps : List FieldType} {r : Option FieldType} {argsL : List Value} {a : Addr} {x : MethodName} {C : String} (M : OMeets l Z y bytes' nl' ret' rm as' h ws' Q') (w1 : (Jvm.Cond.methodLink own index x).before a0 Z = true) (w2 : (Jvm.Cond.declares x).before a0 Z = true) (hnf : NotFace s x) (w5 : (Jvm.Cond.selects C x y).before a0 Z = true) (w6 : (Jvm.Cond.instanceMethod y).before a0 Z = true) (w3 : (Jvm.Cond.initialized y.cls).before a0 Z = true) (w4 : (Jvm.Cond.code y bytes' nl' ret').before a0 Z = true) (hy : x.cls ≠ "java/lang/invoke/MethodHandle" ∧ x.cls ≠ "java/lang/invoke/VarHandle") (E : Exa Z h a C) (hd : decode bytes pc = .ok (.invokevirtual index, 3)) (hsz : Ls.size = nl) (hlen : parseMethodDescriptor x.desc = some ⟨ps, r⟩) (hn : argsL.length = ps.length) (has : (.ref a :: argsL).toArray = as') {stk : List Value} (hstk : stk = argsL.reverse ++ .ref a :: st) (hf : rm.frames + 1 ≤ R.frames) (hW : (st.map fun v => v.category).sum = W) (hl : W + (nl' + 11) + rm.locals ≤ R.locals) (hc : cells + rm.cells ≤ R.cells) (hs : slots + rm.slots ≤ R.slots) (hws : ∀ x ∈ ws', x ∈ ws ∨ h0.size ≤ x) (hp : pc + 3 = pc')
    (k : ∀ v T' h' locs', St p l e R s m args below meth c Z own bytes nl ret nm h0 ws T' h' locs' (cells + rm.cells) (slots + rm.slots) → Keep h h' ws' → Q' v h' → Go p e below P T' (mkF m pc' Ls (v.toList ++ st))) : Go p e below P T (mkF m pc Ls stk) := by
  subst hp hstk
  obtain ⟨cq, kq, q1, q2, q3⟩ := isOf S.hZ S.eT E
  obtain ⟨v, _, ⟨T', L', k', n'⟩, -, X', ⟨L, hQ, l1, l2, l3⟩, f⟩ := S.X.virtualBack S.ex S.hown (mvT S.hZ w1) (mvT S.hZ w2) hnf (mvT S.hZ w5) (mvT S.hZ w6) hy (backOf (Q := fun v U L => Fr Z.heap.size L ∧ Keep h U ws' ∧ Ext Z.heap U ∧ Q' v U) (W := W) (M []) S.hZ w4 w3 hf hl) q1 q3 (g := mkF m pc Ls (argsL.reverse ++ .ref a :: st)) rfl (hsz.trans S.hnl.symm) (Steps.refl _) (argsL := argsL) (rest := st) (lenOf hlen hn) rfl (by show 2 * 0 + _ ≤ _; rw [hW]; omega) (S.hd hd) (fun _ _ => ⟨has, S.eT, hc, hs⟩)
  dsimp only [Pt.U, Pt.locs, Pt.cells, Pt.slots] at X' l1 l2 l3 hQ f
  subst l1 l2 l3
  obtain ⟨N, K', E', q⟩ := hQ
  exact (k v T' T'.heap _ (S.next X' rfl (S.fr.app N) (S.keep.trans K' hws) E') K' q).of fun t q => f.trans q
theorem St.nf (S : St p l e R s m args below meth c Z own bytes nl ret nm h0 ws T h locs cells slots) {C : String} {x : MethodName} (w : (Jvm.Cond.selects C x x).before a0 Z = true) : NotFace s x := notFace_of_selects (args := #[]) (mvT S.hZ w)
theorem Go.invokevirtualUp (S : St p l e R s m args below meth c Z own bytes nl ret nm h0 ws T h locs cells slots) {y : MethodName} {bytes' : ByteArray} {nl' : Nat} {ret' : Option FieldType} {rm : Room} {as' : Array Value} {ws' : List Addr} {Q' : Option Value → Heap → Prop} {index W : Nat} {ps : List FieldType} {r : Option FieldType} {argsL : List Value} {a : Addr} {x : MethodName} {C owner : String} (M : OMeets l Z y bytes' nl' ret' rm as' h ws' Q') (w1 : (Jvm.Cond.methodLink own index x).before a0 Z = true) (w2 : (Jvm.Cond.declares ⟨owner, x.name, x.desc⟩).before a0 Z = true) (w7 : (Jvm.Cond.sameMethod x.cls owner x.name x.desc).before a0 Z = true) (w5 : (Jvm.Cond.selects C x y).before a0 Z = true) (w6 : (Jvm.Cond.instanceMethod y).before a0 Z = true) (w3 : (Jvm.Cond.initialized y.cls).before a0 Z = true) (w4 : (Jvm.Cond.code y bytes' nl' ret').before a0 Z = true) (hy : owner ≠ "java/lang/invoke/MethodHandle" ∧ owner ≠ "java/lang/invoke/VarHandle") (E : Exa Z h a C) (hd : decode bytes pc = .ok (.invokevirtual index, 3)) (hsz : Ls.size = nl) (hlen : parseMethodDescriptor x.desc = some ⟨ps, r⟩) (hn : argsL.length = ps.length) (has : (.ref a :: argsL).toArray = as') {stk : List Value} (hstk : stk = argsL.reverse ++ .ref a :: st) (hf : rm.frames + 1 ≤ R.frames) (hW : (st.map fun v => v.category).sum = W) (hl : W + (nl' + 11) + rm.locals ≤ R.locals) (hc : cells + rm.cells ≤ R.cells) (hs : slots + rm.slots ≤ R.slots) (hws : ∀ x ∈ ws', x ∈ ws ∨ h0.size ≤ x) (hp : pc + 3 = pc')
    (k : ∀ v T' h' locs', St p l e R s m args below meth c Z own bytes nl ret nm h0 ws T' h' locs' (cells + rm.cells) (slots + rm.slots) → Keep h h' ws' → Q' v h' → Go p e below P T' (mkF m pc' Ls (v.toList ++ st))) : Go p e below P T (mkF m pc Ls stk) := by
  subst hp hstk
  obtain ⟨cq, kq, q1, q2, q3⟩ := isOf S.hZ S.eT E
  obtain ⟨v, _, ⟨T', L', k', n'⟩, -, X', ⟨L, hQ, l1, l2, l3⟩, f⟩ := S.X.virtualBackUp S.ex S.hown (mvT S.hZ w1) (mvT S.hZ w7) (mvT S.hZ w2) hy (mvT S.hZ w5) (mvT S.hZ w6) (backOf (Q := fun v U L => Fr Z.heap.size L ∧ Keep h U ws' ∧ Ext Z.heap U ∧ Q' v U) (W := W) (M []) S.hZ w4 w3 hf hl) q1 q3 (g := mkF m pc Ls (argsL.reverse ++ .ref a :: st)) rfl (hsz.trans S.hnl.symm) (Steps.refl _) (argsL := argsL) (rest := st) (lenOf hlen hn) rfl (by show 2 * 0 + _ ≤ _; rw [hW]; omega) (S.hd hd) (fun _ _ => ⟨has, S.eT, hc, hs⟩)
  dsimp only [Pt.U, Pt.locs, Pt.cells, Pt.slots] at X' l1 l2 l3 hQ f
  subst l1 l2 l3
  obtain ⟨N, K', E', q⟩ := hQ
  exact (k v T' T'.heap _ (S.next X' rfl (S.fr.app N) (S.keep.trans K' hws) E') K' q).of fun t q => f.trans q
theorem Go.tableswitch (S : St p l e R s m args below meth c Z own bytes nl ret nm h0 ws T h locs cells slots) {dflt low high : Int} {offs : Array Int} {len : Nat} {o : Int} {i : Int32} (hd : decode bytes pc = .ok (.tableswitch dflt low high offs, len)) (hin : ¬ (i.toInt < low ∨ i.toInt > high)) (hoff : offs[(i.toInt - low).toNat]? = some o) (hp : (pc : Int) + o = (pc' : Int)) (k : Go p e below P T (mkF m pc' Ls st)) : Go p e below P T (mkF m pc Ls (.int i :: st)) :=
  k.of fun t q => XS.tswIn S.X.here S.ex rfl (pc0 := pc) rfl (S.hd hd) rfl hin hoff (off0 hp) (off1 hp) q
theorem Go.instanceofN (S : St p l e R s m args below meth c Z own bytes nl ret nm h0 ws T h locs cells slots) {C K : String} {index : Nat} {a : Addr} (w : (Jvm.Cond.classLink own index K).before a0 Z = true) (E : Exa Z h a C) (F : ∃ c t, Z.vm.findClass C = some c ∧ Z.vm.findClass K = some t ∧ Z.vm.assignable c t = false) (hd : decode bytes pc = .ok (.instanceof index, 3)) (hp : pc + 3 = pc')
    (k : ∀ T', St p l e R s m args below meth c Z own bytes nl ret nm h0 ws T' h locs cells slots → Go p e below P T' (mkF m pc' Ls (.int 0 :: st))) : Go p e below P T (mkF m pc Ls (.ref a :: st)) := by
  subst hp
  obtain ⟨T', X', e', f⟩ := instNo S.X S.ex S.hZ S.hown w S.eT E F (g := mkF m pc Ls (.ref a :: st)) rfl rfl (S.hd hd)
  exact (k T' (S.next X' e' S.fr S.keep S.ext)).of f
theorem Go.instanceofNull (S : St p l e R s m args below meth c Z own bytes nl ret nm h0 ws T h locs cells slots) {index : Nat} (hd : decode bytes pc = .ok (.instanceof index, 3)) (hp : pc + 3 = pc') (k : Go p e below P T (mkF m pc' Ls (.int 0 :: st))) : Go p e below P T (mkF m pc Ls (.null :: st)) := by
  subst hp
  exact k.of fun t q => S.X.instanceofNull S.ex (g := mkF m pc Ls (.null :: st)) rfl rfl (S.hd hd) _ q
theorem Go.checkcastNull (S : St p l e R s m args below meth c Z own bytes nl ret nm h0 ws T h locs cells slots) {index : Nat} (hd : decode bytes pc = .ok (.checkcast index, 3)) (hp : pc + 3 = pc') (k : Go p e below P T (mkF m pc' Ls (.null :: st))) : Go p e below P T (mkF m pc Ls (.null :: st)) := by
  subst hp
  exact k.of fun t q => S.X.checkcastNull S.ex (g := mkF m pc Ls (.null :: st)) rfl rfl (S.hd hd) _ q
theorem Go.aaloadA (S : St p l e R s m args below meth c Z own bytes nl ret nm h0 ws T h locs cells slots) {a : Addr} {cl : Cell} {ty : FieldType} {j : Int32} {v : Value} (A : Arr Z h a cl ty) (hty : ty.isReference = true) (hj : ¬ (j < 0 ∨ cl.slots.size ≤ j.toNatClampNeg)) (hv : cl.slots[j.toNatClampNeg]? = some v) (hd : decode bytes pc = .ok (.aaload, 1)) (hp : pc + 1 = pc') (k : Go p e below P T (mkF m pc' Ls (v :: st))) : Go p e below P T (mkF m pc Ls (.int j :: .ref a :: st)) := by
  subst hp
  exact k.of fun t q => S.X.aaload S.ex (j := j) (v := v) (by rw [S.eT]; exact A.1) (State.isArrayOf_alike S.hZ.alike A.2.1) hty A.2.2 hj hv (g := mkF m pc Ls (.int j :: .ref a :: st)) rfl rfl (S.hd hd) _ q
theorem Go.clone (S : St p l e R s m args below meth c Z own bytes nl ret nm h0 ws T h locs cells slots) {ad : String} {index : Nat} {a : Addr} {kA : ClassId} {ty : FieldType} {n : Int32} {vs : List Value} {dv : Value} {W cap : Nat} (w1 : (Jvm.Cond.methodLink own index ⟨ad, "clone", "()Ljava/lang/Object;"⟩).before a0 Z = true) (w2 : (Jvm.Cond.sameMethod ad "java/lang/Object" "clone" "()Ljava/lang/Object;").before a0 Z = true) (w3 : (Jvm.Cond.native ⟨"java/lang/Object", "clone", "()Ljava/lang/Object;"⟩).before a0 Z = true) (w4 : (Jvm.Cond.instanceMethod ⟨"java/lang/Object", "clone", "()Ljava/lang/Object;"⟩).before a0 Z = true) (w5 : (Jvm.Cond.selects ad ⟨ad, "clone", "()Ljava/lang/Object;"⟩ ⟨"java/lang/Object", "clone", "()Ljava/lang/Object;"⟩).before a0 Z = true) (w6 : (Jvm.Cond.castable ad "java/lang/Cloneable").before a0 Z = true)
    (V : Arv Z Z.heap a kA ty n vs dv) (hfit : Fit Z) (E : Exa Z Z.heap a ad) (hd : decode bytes pc = .ok (.invokevirtual index, 3)) (hsz : Ls.size = nl) (hf : 1 ≤ R.frames) (hW : (st.map fun v => v.category).sum = W) (hl : W + 14 ≤ R.locals) (hcap : n.toNatClampNeg ≤ cap) (hc : cells + 1 ≤ R.cells) (hsl : slots + cap ≤ R.slots) (hp : pc + 3 = pc')
    (k : ∀ T' h' b, St p l e R s m args below meth c Z own bytes nl ret nm h0 ws T' h' locs (cells + 1) (slots + cap) → Ext h h' → h.size = b → Arv Z h' b kA ty n vs dv → Exa Z h' b ad → Go p e below P T' (mkF m pc' Ls (.ref b :: st))) : Go p e below P T (mkF m pc Ls (.ref a :: st)) := by
  subst hp
  obtain ⟨cl, A, q1, q2, q3, H, F⟩ := V
  obtain ⟨T', h', X', e', E', A', EA, f⟩ := cloneA S.X S.ex S.hZ S.hown w1 w2 w3 w4 w5 w6 S.eT (A.ext S.ext) (E.ext S.ext) (FitC.start hfit A) (g := mkF m pc Ls (.ref a :: st)) rfl (hsz.trans S.hnl.symm) rfl (S.hd hd) hf (W := W) (by show 2 * 0 + _ ≤ _; rw [hW]; omega) hl (cap := cap) (by rw [q2]; exact hcap) hc hsl
  exact (k T' h' h.size (S.made X' e' E') E' rfl ⟨_, A', q1, q2, q3, H, F⟩ EA).of f
theorem Go.invokeinterface (S : St p l e R s m args below meth c Z own bytes nl ret nm h0 ws T h locs cells slots) {y : MethodName} {bytes' : ByteArray} {nl' : Nat} {ret' : Option FieldType} {rm : Room} {as' : Array Value} {ws' : List Addr} {Q' : Option Value → Heap → Prop} {index W : Nat} {ps : List FieldType} {r : Option FieldType} {argsL : List Value} {count : Nat} {a : Addr} {x : MethodName} {C : String} (M : OMeets l Z y bytes' nl' ret' rm as' h ws' Q') (w1 : (Jvm.Cond.methodLink own index x).before a0 Z = true) (w2 : (Jvm.Cond.declares x).before a0 Z = true) (w7 : (Jvm.Cond.interfaceMethod x.cls x.cls x.name x.desc).before a0 Z = true) (h7 : ((Jvm.Cond.interfaceMethod x.cls x.cls x.name x.desc).onTables && (Jvm.Cond.interfaceMethod x.cls x.cls x.name x.desc).keepsFace) = true) (w5 : (Jvm.Cond.selects C x y).before a0 Z = true) (w6 : (Jvm.Cond.instanceMethod y).before a0 Z = true) (w8 : (Jvm.Cond.publicMethod y).before a0 Z = true) (w9 : (Jvm.Cond.unhidden C x.name x.desc).before a0 Z = true) (w10 : (Jvm.Cond.castable C x.cls).before a0 Z = true) (w3 : (Jvm.Cond.initialized y.cls).before a0 Z = true) (w4 : (Jvm.Cond.code y bytes' nl' ret').before a0 Z = true) (hy : x.cls ≠ "java/lang/invoke/MethodHandle" ∧ x.cls ≠ "java/lang/invoke/VarHandle") (E : Exa Z h a C) (hd : decode bytes pc = .ok (.invokeinterface index count, 5)) (hsz : Ls.size = nl) (hlen : parseMethodDescriptor x.desc = some ⟨ps, r⟩) (hn : argsL.length = ps.length) (has : (.ref a :: argsL).toArray = as') {stk : List Value} (hstk : stk = argsL.reverse ++ .ref a :: st) (hf : rm.frames + 1 ≤ R.frames) (hW : (st.map fun v => v.category).sum = W) (hl : W + (nl' + 11) + rm.locals ≤ R.locals) (hc : cells + rm.cells ≤ R.cells) (hs : slots + rm.slots ≤ R.slots) (hws : ∀ x ∈ ws', x ∈ ws ∨ h0.size ≤ x) (hp : pc + 5 = pc')
    (k : ∀ v T' h' locs', St p l e R s m args below meth c Z own bytes nl ret nm h0 ws T' h' locs' (cells + rm.cells) (slots + rm.slots) → Keep h h' ws' → Q' v h' → Go p e below P T' (mkF m pc' Ls (v.toList ++ st))) : Go p e below P T (mkF m pc Ls stk) := by
  subst hp hstk
  obtain ⟨cq, kq, q1, q2, q3⟩ := isOf S.hZ S.eT E
  obtain ⟨v, _, ⟨T', L', k', n'⟩, -, X', ⟨L, hQ, l1, l2, l3⟩, f⟩ := S.X.interfaceBack S.ex S.hown (mvT S.hZ w1) (mvT S.hZ w2) (mvT S.hZ w7 h7) (mvT S.hZ w5) (mvT S.hZ w6) (mvT S.hZ w8) (mvT S.hZ w9) (mvT S.hZ w10) hy (backOf (Q := fun v U L => Fr Z.heap.size L ∧ Keep h U ws' ∧ Ext Z.heap U ∧ Q' v U) (W := W) (M []) S.hZ w4 w3 hf hl) q1 q2 q3 (g := mkF m pc Ls (argsL.reverse ++ .ref a :: st)) rfl (hsz.trans S.hnl.symm) (Steps.refl _) (argsL := argsL) (rest := st) (lenOf hlen hn) rfl (by show 2 * 0 + _ ≤ _; rw [hW]; omega) (S.hd hd) (fun _ _ => ⟨has, S.eT, hc, hs⟩)
  dsimp only [Pt.U, Pt.locs, Pt.cells, Pt.slots] at X' l1 l2 l3 hQ f
  subst l1 l2 l3
  obtain ⟨N, K', E', q⟩ := hQ
  exact (k v T' T'.heap _ (S.next X' rfl (S.fr.app N) (S.keep.trans K' hws) E') K' q).of fun t q => f.trans q
theorem Go.newarrayE (S : St p l e R s m args below meth c Z own bytes nl ret nm h0 ws T h locs cells slots) {aty : ArrayType} {n : Int32} {cap : Nat} {ty : FieldType} {dv : Value} {ad : String} (hty : newarray.typeOf aty = ty) (hdv : defaultValue ty = dv) (had : "[" ++ ty.toString = ad) (w : (Jvm.Cond.arrayClass ty).before a0 Z = true) (hd : decode bytes pc = .ok (.newarray aty, 2)) (hn : ¬ n < 0) (hcap : n.toNatClampNeg ≤ cap) (hb : cap * 8 ≤ 536870912) (hc : cells + 1 ≤ R.cells) (hl : slots + cap ≤ R.slots) (hp : pc + 2 = pc')
    (k : ∀ T' h' a cA, St p l e R s m args below meth c Z own bytes nl ret nm h0 ws T' h' locs (cells + 1) (slots + cap) → Ext h h' → h.size = a → Z.heap.size ≤ a → h0.size ≤ a → Arv Z h' a cA ty n (List.replicate cap dv) dv → Exa Z h' a ad → Go p e below P T' (mkF m pc' Ls (.ref a :: st))) : Go p e below P T (mkF m pc Ls (.int n :: st)) := by
  subst hp hty hdv
  obtain ⟨T', h', cA, X', e', E, A, XA, f⟩ := newPE S.X S.ex S.hZ w S.eT (g := mkF m pc Ls (.int n :: st)) rfl (S.hd hd) rfl hn hcap hb hc hl had
  exact (k T' h' h.size cA (S.made X' e' E) E rfl S.ext.1 S.keep.1 ((Arv.new A hn).pad (pad_rep [] _ cap)) XA).of f
theorem Go.anewarrayA (S : St p l e R s m args below meth c Z own bytes nl ret nm h0 ws T h locs cells slots) {C ad : String} {ty : FieldType} {index : Nat} {n : Int32} {cap : Nat} (hC : (FieldType.array ty).toString = C) (w1 : (Jvm.Cond.classLink own index C).before a0 Z = true) (w2 : (Jvm.Cond.arrayOver (.array ty)).before a0 Z = true) (had : "[" ++ C = ad) (hd : decode bytes pc = .ok (.anewarray index, 3)) (hn : ¬ n < 0) (hcap : n.toNatClampNeg ≤ cap) (hb : cap * 8 ≤ 536870912) (hc : cells + 1 ≤ R.cells) (hl : slots + cap ≤ R.slots) (hp : pc + 3 = pc')
    (k : ∀ T' h' a cA, St p l e R s m args below meth c Z own bytes nl ret nm h0 ws T' h' locs (cells + 1) (slots + cap) → Ext h h' → h.size = a → Z.heap.size ≤ a → h0.size ≤ a → Arv Z h' a cA (.array ty) n (List.replicate cap .null) .null → OvrA Z cA ty C → Go p e below P T' (mkF m pc' Ls (.ref a :: st))) : Go p e below P T (mkF m pc Ls (.int n :: st)) := by
  subst hp
  obtain ⟨T', h', cA, X', e', E, A, -, O, f⟩ := newRA S.X S.ex S.hZ S.hown hC w1 w2 S.eT (g := mkF m pc Ls (.int n :: st)) rfl (S.hd hd) rfl hn hcap hb hc hl had
  exact (k T' h' h.size cA (S.made X' e' E) E rfl S.ext.1 S.keep.1 ((Arv.new A hn).pad (pad_rep [] _ cap)) O).of f
theorem Go.invokeprivate (S : St p l e R s m args below meth c Z own bytes nl ret nm h0 ws T h locs cells slots) {y : MethodName} {bytes' : ByteArray} {nl' : Nat} {ret' : Option FieldType} {rm : Room} {as' : Array Value} {ws' : List Addr} {Q' : Option Value → Heap → Prop} {index W : Nat} {ps : List FieldType} {r : Option FieldType} {argsL : List Value} {a : Addr} {C : String} {kk : Nat} (M : OMeets l Z y bytes' nl' ret' rm as' h ws' Q') (w1 : (Jvm.Cond.methodLink own index y).before a0 Z = true) (w6 : (Jvm.Cond.instanceMethod y).before a0 Z = true) (w7 : (Jvm.Cond.privateMethod y).before a0 Z = true) (w8 : (Jvm.Cond.instantiable y.cls kk).before a0 Z = true) (w3 : (Jvm.Cond.initialized y.cls).before a0 Z = true) (w4 : (Jvm.Cond.code y bytes' nl' ret').before a0 Z = true) (hy : y.cls ≠ "java/lang/invoke/MethodHandle" ∧ y.cls ≠ "java/lang/invoke/VarHandle") (E : Exa Z h a C) (hd : decode bytes pc = .ok (.invokevirtual index, 3)) (hsz : Ls.size = nl) (hlen : parseMethodDescriptor y.desc = some ⟨ps, r⟩) (hn : argsL.length = ps.length) (has : (.ref a :: argsL).toArray = as') {stk : List Value} (hstk : stk = argsL.reverse ++ .ref a :: st) (hf : rm.frames + 1 ≤ R.frames) (hW : (st.map fun v => v.category).sum = W) (hl : W + (nl' + 11) + rm.locals ≤ R.locals) (hc : cells + rm.cells ≤ R.cells) (hs : slots + rm.slots ≤ R.slots) (hws : ∀ x ∈ ws', x ∈ ws ∨ h0.size ≤ x) (hp : pc + 3 = pc')
    (k : ∀ v T' h' locs', St p l e R s m args below meth c Z own bytes nl ret nm h0 ws T' h' locs' (cells + rm.cells) (slots + rm.slots) → Keep h h' ws' → Q' v h' → Go p e below P T' (mkF m pc' Ls (v.toList ++ st))) : Go p e below P T (mkF m pc Ls stk) := by
  subst hp hstk
  obtain ⟨cq, q1, q2⟩ := E.cell
  have hpr := Cond.privateMethod_at (mvP S.hZ w7 (args := args))
  have w8' : (Jvm.Cond.instantiable y.cls kk).before args s = true := mv S.hZ w8
  obtain ⟨ci, ki, i1, i2, -, i4, -⟩ := Cond.instantiable_spec w8'
  have hsel := selects_self_of_private i1 i2 (Bool.or_eq_false_iff.mp i4).1 hpr (mvT S.hZ w6 (args := args)) hy
  obtain ⟨v, _, ⟨T', L', k', n'⟩, -, X', ⟨L, hQ, l1, l2, l3⟩, f⟩ := S.X.privateBack S.ex S.hown (mvT S.hZ w1) (mvT S.hZ w6) hsel hpr (mvT S.hZ w4) hy (backOf (Q := fun v U L => Fr Z.heap.size L ∧ Keep h U ws' ∧ Ext Z.heap U ∧ Q' v U) (W := W) (M []) S.hZ w4 w3 hf hl) (g := mkF m pc Ls (argsL.reverse ++ .ref a :: st)) rfl (hsz.trans S.hnl.symm) (Steps.refl _) (a := a) (by rw [S.eT]; exact q1) q2 (argsL := argsL) (rest := st) (lenOf hlen hn) rfl (by show 2 * 0 + _ ≤ _; rw [hW]; omega) (S.hd hd) (fun _ _ => ⟨has, S.eT, hc, hs⟩)
  dsimp only [Pt.U, Pt.locs, Pt.cells, Pt.slots] at X' l1 l2 l3 hQ f
  subst l1 l2 l3
  obtain ⟨N, K', E', q⟩ := hQ
  exact (k v T' T'.heap _ (S.next X' rfl (S.fr.app N) (S.keep.trans K' hws) E') K' q).of fun t q => f.trans q
theorem OMeets.body {y : MethodName} {Q : Option Value → Heap → Prop} {as : Array Value} (hpl : plainFor y = true) (hE : Ext Z.heap h0) (Ls : Array Slot) (hef : ∀ m : MethodId, entryFrame m as nl = mkF m 0 Ls [])
    (H : ∀ p e s m below meth c T, St p l e R s m as below meth c Z y.cls bytes nl ret y.name h0 ws T h0 [] 0 0 → Go p e below (PostOf Z s h0 ws R.cells R.slots Q) T (mkF m 0 Ls [])) : OMeets l Z y bytes nl ret R as h0 ws Q := by
  intro wd
  refine MetFree.of_bodySF hpl hisR ?_
  intro p e s m args below meth c s₁ Bd hml hP _
  obtain ⟨rfl, hZ, hh⟩ := hP
  have X0 : Stand p l e R s m args below meth c s₁ [] 0 0 := Stand.of_body Bd
  have e0 : s₁.heap = h0 := by rw [← hh, Bd.state]; rfl
  have hg := H p e s m below meth c s₁ ⟨⟨Bd.exec, Bd.bytes, hml, hZ, findClass_of_methodNamed Bd.named, Bd.returns, Bd.notSynchronized, (name_of_methodNamed Bd.named Bd.method).1⟩, X0, e0, Fr.nil _, Keep.refl _ _, hE⟩
  rw [hef]
  exact hg
end Steps
end Jvm.Own
namespace Jvm.Own
open Sem ClassFile Op Lib Jvm.Stand Jvm.Free Jvm.LawKit Jvm.RoadKit
/-- PostOf, where the walk may have interned; Q may speak of the tables too -/
def PostW (Z s : State) (h0 : Heap) (ws : List Addr) (kc ks : Nat) (Q : Option Value → Heap → Vm → Prop) (o : Outcome) (U : State) : Prop :=
  ∃ v L, o = .returned v ∧ (Fr Z.heap.size L ∧ Keep h0 U.heap ws ∧ Ext Z.heap U.heap ∧ Q v U.heap U.vm) ∧ ReturnedEndW s o U L kc ks
def OMeetsW (l : Launch) (Z : State) (y : MethodName) (bytes : ByteArray) (nl : Nat) (ret : Option FieldType) (R : Room) (as : Array Value) (h0 : Heap) (ws : List Addr) (VP : Vm → Prop) (Q : Option Value → Heap → Vm → Prop) : Prop :=
  ∀ wd : List Jvm.Cond, MetFree l y (head1 (Jvm.Cond.code y bytes nl ret :: wd) R) (fun a U => a = as ∧ Z.Warmed39 U.vm ∧ U.heap = h0 ∧ VP U.vm) (fun _ _ _ _ _ => True)
    (fun _ U o U' => PostW Z U h0 ws R.cells R.slots Q o U')
/-- sb is the start s with later tables; what they book since lies below n -/
def Sn (s sb : State) (n : Nat) : Prop := sb = s.setVm sb.vm ∧ s.Since sb.vm n
theorem Sn.start (s : State) (n : Nat) : Sn s s n := ⟨rfl, (State.WarmedH.refl s).since n⟩
theorem IB.warm {Z sb : State} {vm : Vm} {Ts : List String} (I : IB Z sb.vm Ts) (h : sb.WarmedH vm) : IB Z vm Ts := by
  obtain ⟨more, e, q⟩ := I
  exact ⟨more, by rw [h.interned_eq]; exact e, q⟩
/-- entry index of own is booked as the String a, by the tables alone -/
def LitV (Z : State) (vm : Vm) (own : String) (index : Nat) (a : Addr) : Prop := Lit (Z.setVm vm) own index a
theorem LitV.of {Z sb : State} {own : String} {index : Nat} {a : Addr} (L : Lit sb own index a) : LitV Z sb.vm own index a := L
theorem LitV.lit {Z sb : State} {own : String} {index : Nat} {a : Addr} (L : LitV Z sb.vm own index a) : Lit sb own index a := L
theorem LitV.warm {Z sb : State} {vm : Vm} {own : String} {index : Nat} {a : Addr} (L : LitV Z sb.vm own index a) (h : sb.WarmedH vm) : LitV Z vm own index a :=
  Lit.stays (s := sb) (vm0 := sb.vm) (vm1 := vm) (show Lit (sb.setVm sb.vm) own index a from L) h.wide
theorem Arv.nex {Z : State} {h : Heap} {a b : Addr} {k : ClassId} {ty : FieldType} {z : Int32} {vs : List Value} {dv : Value} {C : String} {i : Nat} {a0 : Array Value} (V : Arv Z h b k ty z vs dv) (w : (Jvm.Cond.instantiable C i).before a0 Z = true) (X : Exa Z h a C) : b ≠ a := fun e => by
  subst e
  obtain ⟨c1, ⟨g1, ⟨-, kk, g3, comp, g4⟩, -⟩, -⟩ := V
  obtain ⟨c2, k2, e1, e2, e3, -⟩ := X
  cases g1.symm.trans e1
  obtain ⟨c3, k3, f1, f2, f3, -⟩ := Cond.instantiable_spec w
  cases e2.symm.trans f1
  cases g3.symm.trans f2
  rw [f3] at g4
  cases g4
section Wide
variable {p : Program} {l : Launch} {e : Env} {R : Room} {s sb : State} {m : MethodId} {args : Array Value} {below : List Frame} {meth : Method} {c : Code} {Z : State} {own : String} {bytes : ByteArray} {nl : Nat} {ret : Option FieldType} {nm : String}
  {h0 : Heap} {ws : List Addr} {T : State} {h : Heap} {locs : List Loc} {cells slots : Nat} {P : Outcome → State → Prop} {pc pc' : Nat} {Ls Ls' : Array Slot} {st : List Value} {a0 : Array Value} {n : Nat}
theorem Go.leavesW (S : St p l e R sb m args below meth c Z own bytes nl ret nm h0 ws T h locs cells slots) (N : Sn s sb n) (hn : n ≤ h.size) {kc ks : Nat} {Q : Option Value → Heap → Vm → Prop} {g : JFrame} {v : Option Value} (hv : ret = none → v = none) (hc : cells ≤ kc) (hs : slots ≤ ks)
    (step : ∀ fs : List Frame, (∀ (f : JFrame) (acts : List Action), f.method = m → f.locked = none → f.entered = [] → (doReturn e (T.setTop f) acts v).1 = T.setFrames fs) → Steps p.tables e below (T.setTop g) (T.setFrames fs)) (q : Q v h T.vm) : Go p e below (PostW Z s h0 ws kc ks Q) T g := by
  obtain ⟨fs, hr, hrun, hended, hW, hsame⟩ := S.X.leave (v := v) (fun q => hv (S.hret ▸ q)) S.locks
  have hU : (T.setFrames fs).heap = h := S.eT
  have e1 := N.1
  have hW' : (s.setVm sb.vm).WarmedH (T.setFrames fs).vm := by rw [← e1]; exact hW
  have hs' : (s.setVm sb.vm).sameButNew ({ T.setFrames fs with vm := sb.vm } : State) locs cells slots := by rw [← e1]; exact hsame
  obtain ⟨z1, z2, z3⟩ := N.2.ended hW' (by rw [hU]; exact hn) hs'
  refine ⟨_, _, step fs hr, hrun, hended, v, locs, rfl, ⟨S.fr, ?_, ?_, ?_⟩, ⟨_, rfl⟩, z1, z2, z3.mono hc hs⟩
  · rw [hU]; exact S.keep
  · rw [hU]; exact S.ext
  · rw [hU]; exact q
theorem Go.areturnW (S : St p l e R sb m args below meth c Z own bytes nl ret nm h0 ws T h locs cells slots) (N : Sn s sb n) (hn : n ≤ h.size) {kc ks : Nat} {Q : Option Value → Heap → Vm → Prop} {w : Value} {t : FieldType} (hret : ret = some t) (ht : t.isReference = true) (hw : w.isRef = true) (hd : decode bytes pc = .ok (.areturn, 1)) (hc : cells ≤ kc) (hs : slots ≤ ks) (q : Q (some w) h T.vm) : Go p e below (PostW Z s h0 ws kc ks Q) T (mkF m pc Ls (w :: st)) :=
  Go.leavesW S N hn (fun q => by rw [hret] at q; cases q) hc hs (fun fs hr => retOut S.X S.ex (i := .areturn) (S.hret.trans hret) (narrow_ref ht hw) (Or.inr (Or.inr (Or.inr (Or.inr ⟨rfl, ht, hw⟩)))) (S.hd hd) hr) q
theorem Go.zreturnW (S : St p l e R sb m args below meth c Z own bytes nl ret nm h0 ws T h locs cells slots) (N : Sn s sb n) (hn : n ≤ h.size) {kc ks : Nat} {Q : Option Value → Heap → Vm → Prop} {z z' : Int32} {t : FieldType} (hret : ret = some t) (ht : t = .boolean ∨ t = .byte ∨ t = .char ∨ t = .short) (hd : decode bytes pc = .ok (.ireturn, 1)) (hz : nar t z = z') (hc : cells ≤ kc) (hs : slots ≤ ks) (q : Q (some (.int z')) h T.vm) : Go p e below (PostW Z s h0 ws kc ks Q) T (mkF m pc Ls (.int z :: st)) := by
  subst hz
  exact Go.leavesW S N hn (fun q => by rw [hret] at q; cases q) hc hs (fun fs hr => retN S.X S.ex (S.hret.trans hret) ht (S.hd hd) hr) q
theorem Go.vreturnW (S : St p l e R sb m args below meth c Z own bytes nl ret nm h0 ws T h locs cells slots) (N : Sn s sb n) (hn : n ≤ h.size) {kc ks : Nat} {Q : Option Value → Heap → Vm → Prop} (hret : ret = none) (hd : decode bytes pc = .ok (.return_, 1)) (hc : cells ≤ kc) (hs : slots ≤ ks) (q : Q none h T.vm) : Go p e below (PostW Z s h0 ws kc ks Q) T (mkF m pc Ls []) :=
  Go.leavesW S N hn (fun _ => rfl) hc hs (fun fs hr => S.X.returnOut S.ex (S.hret.trans hret) (S.hd hd) hr) q
theorem St.rebase (S : St p l e R sb m args below meth c Z own bytes nl ret nm h0 ws T h locs cells slots) {T' : State} {h' : Heap} {locs' : List Loc} {cells' slots' : Nat} (X : Stand p l e R (sb.setVm T'.vm) m args below meth c T' locs' cells' slots') (hS : sb.Warmed39 T'.vm) (e1 : T'.heap = h') (N : Fr Z.heap.size locs') (K : Keep h0 h' ws) (E : Ext Z.heap h') : St p l e R (sb.setVm T'.vm) m args below meth c Z own bytes nl ret nm h0 ws T' h' locs' cells' slots' :=
  ⟨⟨S.1.1, S.1.2.1, S.1.2.2.1, State.Warmed39.trans (t := sb) S.hZ hS, by rw [show (sb.setVm T'.vm).vm = T'.vm from rfl, hS.alike.findClass]; exact S.hown, S.1.2.2.2.2.2⟩, X, e1, N, K, E⟩
theorem Sn.next (N : Sn s sb n) {vm : Vm} {k : Nat} (hS : sb.Since vm k) (hk : n ≤ k) : Sn s (sb.setVm vm) k := by
  refine ⟨by rw [N.1]; rfl, ?_⟩
  have e1 := N.1
  have hS' : (s.setVm sb.vm).Since vm k := by rw [← e1]; exact hS
  exact N.2.trans hS' hk
/-- the payer of a call of a body that may intern -/
theorem backOfW {y : MethodName} {bytes' : ByteArray} {nl' : Nat} {ret' : Option FieldType} {rm : Room} {len W : Nat} {as' : Array Value} {ws' : List Addr} {VP : Vm → Prop} {Q' : Option Value → Heap → Vm → Prop} (M : OMeetsW l Z y bytes' nl' ret' rm as' h ws' VP Q')
    (hZ : Z.Warmed39 sb.vm) (wc : (Jvm.Cond.code y bytes' nl' ret').before a0 Z = true) (wz : (Jvm.Cond.initialized y.cls).before a0 Z = true) (hf : rm.frames + 1 ≤ R.frames) (hl : W + (nl' + 11) + rm.locals ≤ R.locals) :
    BackS l R p e below sb args y len W (fun A a => a = as' ∧ A.U.heap = h ∧ VP A.U.vm ∧ A.cells + rm.cells ≤ R.cells ∧ A.slots + rm.slots ≤ R.slots)
      (fun A _ v B => ∃ L, (Fr Z.heap.size L ∧ Keep h B.U.heap ws' ∧ Ext Z.heap B.U.heap ∧ Q' v B.U.heap B.U.vm) ∧ B.locs = A.locs ++ L ∧ B.cells = A.cells + rm.cells ∧ B.slots = A.slots + rm.slots) :=
  BackS.of_freeW (bytes := bytes') (maxL := nl') (ret := ret') (E := fun _ _ o t L k n => k = rm.cells ∧ n = rm.slots ∧ ∃ v, o = .returned v ∧ Fr Z.heap.size L ∧ Keep h t.heap ws' ∧ Ext Z.heap t.heap ∧ Q' v t.heap t.vm) (M []) hf hl
    (fun m meth c A a Y hp => have hU : Z.Warmed39 A.U.vm := wtrans hZ Y.warmed
      ⟨by show (Jvm.Cond.and _ .tt).before a A.U = true; rw [Cond.before_and, mv hU wc]; rfl, mv hU wc, mv hU wz, hp.2.2.2.1, hp.2.2.2.2⟩)
    (fun m meth c A a g mk Y hp => ⟨hp.1, wtrans hZ Y.warmed, hp.2.1, hp.2.2.1⟩) (fun _ _ _ _ _ _ _ _ _ => trivial)
    (fun _ _ _ _ ⟨v, L, h1, h2, h3⟩ => ⟨L, _, _, h3, rfl, rfl, v, h1, h2⟩)
    (fun m meth c A a g mk v t L k n Y hp _ _ ⟨e1, e2, v', e3, e4⟩ => by cases e3; subst e1 e2; exact ⟨L, e4, rfl, rfl, rfl⟩)
theorem Go.invokestaticW (S : St p l e R sb m args below meth c Z own bytes nl ret nm h0 ws T h locs cells slots) {y : MethodName} {bytes' : ByteArray} {nl' : Nat} {ret' : Option FieldType} {rm : Room} {as' : Array Value} {ws' : List Addr} {VP : Vm → Prop} {Q' : Option Value → Heap → Vm → Prop} {index W : Nat} {ps : List FieldType} {r : Option FieldType} {argsL : List Value} (M : OMeetsW l Z y bytes' nl' ret' rm as' h ws' VP Q') (N : Sn s sb n) (hnn : n ≤ h.size) (hvp : ∀ vm, sb.WarmedH vm → VP vm) (w1 : (Jvm.Cond.methodLink own index y).before a0 Z = true) (w2 : (Jvm.Cond.static y).before a0 Z = true) (w3 : (Jvm.Cond.initialized y.cls).before a0 Z = true) (w4 : (Jvm.Cond.code y bytes' nl' ret').before a0 Z = true) (hy : y.cls ≠ "java/lang/invoke/MethodHandle" ∧ y.cls ≠ "java/lang/invoke/VarHandle") (hd : decode bytes pc = .ok (.invokestatic index, 3)) (hsz : Ls.size = nl) (hlen : parseMethodDescriptor y.desc = some ⟨ps, r⟩) (hn : argsL.length = ps.length) (has : argsL.toArray = as') {stk : List Value} (hstk : stk = argsL.reverse ++ st) (hf : rm.frames + 1 ≤ R.frames) (hW : (st.map fun v => v.category).sum = W) (hl : W + (nl' + 11) + rm.locals ≤ R.locals) (hc : cells + rm.cells ≤ R.cells) (hs : slots + rm.slots ≤ R.slots) (hws : ∀ x ∈ ws', x ∈ ws ∨ h0.size ≤ x) (hp : pc + 3 = pc')
    (k : ∀ v sb' T' h' locs', St p l e R sb' m args below meth c Z own bytes nl ret nm h0 ws T' h' locs' (cells + rm.cells) (slots + rm.slots) → Sn s sb' h'.size → Keep h h' ws' → Q' v h' sb'.vm → Go p e below P T' (mkF m pc' Ls (v.toList ++ st))) : Go p e below P T (mkF m pc Ls stk) := by
  subst hp hstk
  obtain ⟨v, vm1, ⟨T', L', k', n'⟩, -, X', hS, hg, ⟨L, hQ, l1, l2, l3⟩, f⟩ := callSS S.X S.ex S.hown (mvT S.hZ w1) (mvT S.hZ w2) (mvT S.hZ w3) (mvT S.hZ w4) hy (backOfW (W := W) M S.hZ w4 w3 hf hl) (g := mkF m pc Ls (argsL.reverse ++ st)) rfl (hsz.trans S.hnl.symm) (argsL := argsL) (rest := st) (lenOf hlen hn) rfl (by show 2 * 0 + _ ≤ _; rw [hW]; omega) (S.hd hd) (fun vm hv => ⟨has, S.eT, hvp vm hv, hc, hs⟩)
  dsimp only [Pt.U, Pt.locs, Pt.cells, Pt.slots] at X' l1 l2 l3 hQ f hS hg
  subst l1 l2 l3
  obtain ⟨N', K', E', q⟩ := hQ
  exact (k v (sb.setVm T'.vm) T' T'.heap _ (S.rebase X' hS.1 rfl (S.fr.app N') (S.keep.trans K' hws) E') (N.next hS (Nat.le_trans hnn K'.1)) K' q).of fun t q => f.trans q
theorem Go.invokespecialW (S : St p l e R sb m args below meth c Z own bytes nl ret nm h0 ws T h locs cells slots) {y : MethodName} {bytes' : ByteArray} {nl' : Nat} {ret' : Option FieldType} {rm : Room} {as' : Array Value} {ws' : List Addr} {VP : Vm → Prop} {Q' : Option Value → Heap → Vm → Prop} {index W : Nat} {ps : List FieldType} {r : Option FieldType} {argsL : List Value} {a : Addr} (M : OMeetsW l Z y bytes' nl' ret' rm as' h ws' VP Q') (N : Sn s sb n) (hnn : n ≤ h.size) (hvp : ∀ vm, sb.WarmedH vm → VP vm) (hi : y.name = "<init>") (hr0 : ret' = none) (w1 : (Jvm.Cond.methodLink own index y).before a0 Z = true) (w2 : (Jvm.Cond.instanceMethod y).before a0 Z = true) (w3 : (Jvm.Cond.initialized y.cls).before a0 Z = true) (w4 : (Jvm.Cond.code y bytes' nl' ret').before a0 Z = true) (hy : y.cls ≠ "java/lang/invoke/MethodHandle" ∧ y.cls ≠ "java/lang/invoke/VarHandle") (hd : decode bytes pc = .ok (.invokespecial index, 3)) (hsz : Ls.size = nl) (hlen : parseMethodDescriptor y.desc = some ⟨ps, r⟩) (hn : argsL.length = ps.length) (has : (.ref a :: argsL).toArray = as') {stk : List Value} (hstk : stk = argsL.reverse ++ .ref a :: st) (hf : rm.frames + 1 ≤ R.frames) (hW : (st.map fun v => v.category).sum = W) (hl : W + (nl' + 11) + rm.locals ≤ R.locals) (hc : cells + rm.cells ≤ R.cells) (hs : slots + rm.slots ≤ R.slots) (hws : ∀ x ∈ ws', x ∈ ws ∨ h0.size ≤ x) (hp : pc + 3 = pc')
    (k : ∀ v sb' T' h' locs', St p l e R sb' m args below meth c Z own bytes nl ret nm h0 ws T' h' locs' (cells + rm.cells) (slots + rm.slots) → Sn s sb' h'.size → Keep h h' ws' → Q' v h' sb'.vm → Go p e below P T' (mkF m pc' Ls (v.toList ++ st))) : Go p e below P T (mkF m pc Ls stk) := by
  subst hp hstk hr0
  obtain ⟨v, vm1, ⟨T', L', k', n'⟩, -, X', hS, hg, ⟨L, hQ, l1, l2, l3⟩, f⟩ := S.X.specialBackS S.ex hi S.hown (mvT S.hZ w1) (mvT S.hZ w2) (mvT S.hZ w4) hy (backOfW (W := W) M S.hZ w4 w3 hf hl) (g := mkF m pc Ls (argsL.reverse ++ .ref a :: st)) rfl (hsz.trans S.hnl.symm) (Steps.refl _) (a := a) (argsL := argsL) (rest := st) (lenOf hlen hn) rfl (by show 2 * 0 + _ ≤ _; rw [hW]; omega) (S.hd hd) (fun vm hv => ⟨has, S.eT, hvp vm hv, hc, hs⟩)
  dsimp only [Pt.U, Pt.locs, Pt.cells, Pt.slots] at X' l1 l2 l3 hQ f hS hg
  subst l1 l2 l3
  obtain ⟨N', K', E', q⟩ := hQ
  exact (k v (sb.setVm T'.vm) T' T'.heap _ (S.rebase X' hS.1 rfl (S.fr.app N') (S.keep.trans K' hws) E') (N.next hS (Nat.le_trans hnn K'.1)) K' q).of fun t q => f.trans q
theorem Go.invokevirtualW (S : St p l e R sb m args below meth c Z own bytes nl ret nm h0 ws T h locs cells slots) {y : MethodName} {bytes' : ByteArray} {nl' : Nat} {ret' : Option FieldType} {rm : Room} {as' : Array Value} {ws' : List Addr} {VP : Vm → Prop} {Q' : Option Value → Heap → Vm → Prop} {index W : Nat} {ps : List FieldType} {r : Option FieldType} {argsL : List Value} {a : Addr} {x : MethodName} {C : String} (M : OMeetsW l Z y bytes' nl' ret' rm as' h ws' VP Q') (N : Sn s sb n) (hnn : n ≤ h.size) (hvp : ∀ vm, sb.WarmedH vm → VP vm) (w1 : (Jvm.Cond.methodLink own index x).before a0 Z = true) (w2 : (Jvm.Cond.declares x).before a0 Z = true) (hnf : NotFace sb x) (w5 : (Jvm.Cond.selects C x y).before a0 Z = true) (w6 : (Jvm.Cond.instanceMethod y).before a0 Z = true) (w3 : (Jvm.Cond.initialized y.cls).before a0 Z = true) (w4 : (Jvm.Cond.code y bytes' nl' ret').before a0 Z = true) (hy : x.cls ≠ "java/lang/invoke/MethodHandle" ∧ x.cls ≠ "java/lang/invoke/VarHandle") (E : Exa Z h a C) (hd : decode bytes pc = .ok (.invokevirtual index, 3)) (hsz : Ls.size = nl) (hlen : parseMethodDescriptor x.desc = some ⟨ps, r⟩) (hn : argsL.length = ps.length) (has : (.ref a :: argsL).toArray = as') {stk : List Value} (hstk : stk = argsL.reverse ++ .ref a :: st) (hf : rm.frames + 1 ≤ R.frames) (hW : (st.map fun v => v.category).sum = W) (hl : W + (nl' + 11) + rm.locals ≤ R.locals) (hc : cells + rm.cells ≤ R.cells) (hs : slots + rm.slots ≤ R.slots) (hws : ∀ x ∈ ws', x ∈ ws ∨ h0.size ≤ x) (hp : pc + 3 = pc')
    (k : ∀ v sb' T' h' locs', St p l e R sb' m args below meth c Z own bytes nl ret nm h0 ws T' h' locs' (cells + rm.cells) (slots + rm.slots) → Sn s sb' h'.size → Keep h h' ws' → Q' v h' sb'.vm → Go p e below P T' (mkF m pc' Ls (v.toList ++ st))) : Go p e below P T (mkF m pc Ls stk) := by
  subst hp hstk
  obtain ⟨cq, kq, q1, q2, q3⟩ := isOf S.hZ S.eT E
  obtain ⟨v, vm1, ⟨T', L', k', n'⟩, -, X', hS, hg, ⟨L, hQ, l1, l2, l3⟩, f⟩ := S.X.virtualBackS S.ex S.hown (mvT S.hZ w1) (mvT S.hZ w2) hnf (mvT S.hZ w5) (mvT S.hZ w6) hy (backOfW (W := W) M S.hZ w4 w3 hf hl) q1 q3 (g := mkF m pc Ls (argsL.reverse ++ .ref a :: st)) rfl (hsz.trans S.hnl.symm) (Steps.refl _) (argsL := argsL) (rest := st) (lenOf hlen hn) rfl (by show 2 * 0 + _ ≤ _; rw [hW]; omega) (S.hd hd) (fun vm hv => ⟨has, S.eT, hvp vm hv, hc, hs⟩)
  dsimp only [Pt.U, Pt.locs, Pt.cells, Pt.slots] at X' l1 l2 l3 hQ f hS hg
  subst l1 l2 l3
  obtain ⟨N', K', E', q⟩ := hQ
  exact (k v (sb.setVm T'.vm) T' T'.heap _ (S.rebase X' hS.1 rfl (S.fr.app N') (S.keep.trans K' hws) E') (N.next hS (Nat.le_trans hnn K'.1)) K' q).of fun t q => f.trans q
/-- the first load of a text since the case's start -/
theorem Go.ldcFirst (S : St p l e R sb m args below meth c Z own bytes nl ret nm h0 ws T h locs cells slots) (N : Sn s sb n) (hnn : n ≤ h.size) {text : String} {index cap : Nat} {Ts : List String} {vs : List Value} {z : Int32} (w : (Jvm.Cond.stringLink own index text).before a0 Z = true) (wS : ∀ a ∈ Bundle.stringAtoms, a.before a0 Z = true) (Fl : Fr s.heap.size locs) (hEs : Ext Z.heap s.heap) (I : IB Z sb.vm Ts) (hnot : text ∉ Ts) (hh : Jvm.Lit.constHeld Z own index) (hcw : Jvm.Lit.compactW.before a0 Z = true)
    (ht : (∀ c ∈ text.toList, c.toNat < 256) ∧ text.toList.map (fun c => Value.int (Jvm.Lit.byteI c.toNat.toUInt16)) = vs) (hz : ¬ z < 0) (hzl : z.toNatClampNeg = vs.length) (hd : decode bytes pc = .ok (.ldc index, 2)) (hn : 4 * text.toList.length ≤ cap) (hbig : cap ≤ 536870912) (hc : cells + 2 ≤ R.cells) (hs : slots + (cap + 4) ≤ R.slots) (hp : pc + 2 = pc')
    (k : ∀ (a b : Addr) (kb : ClassId) (sb' T' : State) (h' : Heap) (n' : Nat), St p l e R sb' m args below meth c Z own bytes nl ret nm h0 ws T' h' locs (cells + 2) (slots + (cap + 4)) → Sn s sb' n' → n' ≤ h'.size → Ext h h' → Exa Z h' a "java/lang/String" → Fld Z h' a "java/lang/String" "coder" "B" (.int 0) → Fld Z h' a "java/lang/String" "value" "[B" (.ref b) → Arv Z h' b kb .byte z vs (.int 0) → IB Z sb'.vm (text :: Ts) → Lit sb' own index a → Go p e below P T' (mkF m pc' Ls (.ref a :: st))) : Go p e below P T (mkF m pc Ls st) := by
  subst hp
  have e1 := N.1
  have X : Stand p l e R (s.setVm sb.vm) m args below meth c T locs cells slots := by rw [← e1]; exact S.X
  obtain ⟨a, T', h', k1, b, kb, X', e', E, hS, hk, hZ', ho', x1, x2, x3, x4, -, -, I', L', f⟩ := ldcSVL X S.ex S.hZ S.hown w wS S.eT N.2 hnn Fl (fun b cl q => hEs.2 b cl q) I hnot hh hcw ht hz hzl (g := mkF m pc Ls st) rfl (S.hd hd) hn hbig hc hs
  have e2 : sb.setVm T'.vm = s.setVm T'.vm := by rw [e1]; rfl
  have X2 : Stand p l e R (sb.setVm T'.vm) m args below meth c T' locs (cells + 2) (slots + (cap + 4)) := by rw [e2]; exact X'
  have S' : St p l e R (sb.setVm T'.vm) m args below meth c Z own bytes nl ret nm h0 ws T' h' locs (cells + 2) (slots + (cap + 4)) :=
    ⟨⟨S.1.1, S.1.2.1, S.1.2.2.1, hZ', ho', S.1.2.2.2.2.2⟩, X2, e', S.fr, S.keep.ext E, (Old.ext (n0 := Z.heap.size) ⟨rfl, S.ext⟩ E).2⟩
  exact (k a b kb (sb.setVm T'.vm) T' h' k1 S' ⟨by rw [e2]; rfl, hS⟩ hk E x1 x2 x3 x4 I' L').of f
/-- an entry that is loaded already -/
theorem Go.ldcAgain (S : St p l e R sb m args below meth c Z own bytes nl ret nm h0 ws T h locs cells slots) {text : String} {index : Nat} {a : Addr} (w : (Jvm.Cond.stringLink own index text).before a0 Z = true) (L : Lit sb own index a) (hd : decode bytes pc = .ok (.ldc index, 2)) (hp : pc + 2 = pc') (k : Go p e below P T (mkF m pc' Ls (.ref a :: st))) : Go p e below P T (mkF m pc Ls st) := by
  subst hp
  have X : Stand p l e R (sb.setVm sb.vm) m args below meth c T locs cells slots := S.X
  exact k.of fun t q => ldcAgain X S.ex S.hZ S.hown w (show Lit (sb.setVm sb.vm) own index a from L) (g := mkF m pc Ls st) rfl (S.hd hd) _ q
theorem OMeetsW.body {y : MethodName} {VP : Vm → Prop} {Q : Option Value → Heap → Vm → Prop} {as : Array Value} (hpl : plainFor y = true) (hE : Ext Z.heap h0) (Ls : Array Slot) (hef : ∀ m : MethodId, entryFrame m as nl = mkF m 0 Ls [])
    (H : ∀ p e s m below meth c T, St p l e R s m as below meth c Z y.cls bytes nl ret y.name h0 ws T h0 [] 0 0 → VP s.vm → s.heap = h0 → Go p e below (PostW Z s h0 ws R.cells R.slots Q) T (mkF m 0 Ls [])) : OMeetsW l Z y bytes nl ret R as h0 ws VP Q := by
  intro wd
  refine MetFree.of_bodySF hpl hisR ?_
  intro p e s m args below meth c s₁ Bd hml hP _
  obtain ⟨rfl, hZ, hh, hvp⟩ := hP
  have X0 : Stand p l e R s m args below meth c s₁ [] 0 0 := Stand.of_body Bd
  have e0 : s₁.heap = h0 := by rw [← hh, Bd.state]; rfl
  have hg := H p e s m below meth c s₁ ⟨⟨Bd.exec, Bd.bytes, hml, hZ, findClass_of_methodNamed Bd.named, Bd.returns, Bd.notSynchronized, (name_of_methodNamed Bd.named Bd.method).1⟩, X0, e0, Fr.nil _, Keep.refl _ _, hE⟩ hvp hh
  rw [hef]
  exact hg
end Wide
end Jvm.Own
namespace Jvm.Pilot.@@N@@
open Jvm Jvm.ClassFile Sem Op Lib Jvm.Free Jvm.Stand Jvm.LawKit Jvm.RoadKit Jvm.Own Bundle Jvm.Pilot.@@N@@.Jvm.D
abbrev HW (Z : State) (a0 : Array Value) : Prop := ∀ d ∈ tables_1, d.before a0 Z = true
theorem wd0 {Z : State} {a0 : Array Value} (hw : HW Z a0) : Jvm.Cond.before (Jvm.Cond.methodLink "com/example/opas/opas/TemplateEqualsPinLaw" (30 : Nat) ({ cls := "com/example/opas/opas/TemplateEqualsPinLaw", name := "mk", desc := "(JI)Ljava/lang/String;" } : Jvm.MethodName)) a0 Z = true := hw _ (List.mem_of_getElem? (i := 0) rfl)
theorem wd1 {Z : State} {a0 : Array Value} (hw : HW Z a0) : Jvm.Cond.before (Jvm.Cond.static ({ cls := "com/example/opas/opas/TemplateEqualsPinLaw", name := "mk", desc := "(JI)Ljava/lang/String;" } : Jvm.MethodName)) a0 Z = true := hw _ (List.mem_of_getElem? (i := 1) rfl)
theorem wd2 {Z : State} {a0 : Array Value} (hw : HW Z a0) : Jvm.Cond.before (Jvm.Cond.initialized "com/example/opas/opas/TemplateEqualsPinLaw") a0 Z = true := hw _ (List.mem_of_getElem? (i := 2) rfl)
theorem wd3 {Z : State} {a0 : Array Value} (hw : HW Z a0) : Jvm.Cond.before (Jvm.Cond.code ({ cls := "com/example/opas/opas/TemplateEqualsPinLaw", name := "mk", desc := "(JI)Ljava/lang/String;" } : Jvm.MethodName) method_4_code (6 : Nat) (Option.some (Jvm.ClassFile.FieldType.object "java/lang/String"))) a0 Z = true := hw _ (List.mem_of_getElem? (i := 3) rfl)
theorem wd4 {Z : State} {a0 : Array Value} (hw : HW Z a0) : Jvm.Cond.before (Jvm.Cond.methodLink "com/example/opas/opas/TemplateEqualsPinLaw" (11 : Nat) ({ cls := "com/example/opas/opas/TemplateEqualsPinLaw", name := "len", desc := "(JI)I" } : Jvm.MethodName)) a0 Z = true := hw _ (List.mem_of_getElem? (i := 4) rfl)
theorem wd5 {Z : State} {a0 : Array Value} (hw : HW Z a0) : Jvm.Cond.before (Jvm.Cond.static ({ cls := "com/example/opas/opas/TemplateEqualsPinLaw", name := "len", desc := "(JI)I" } : Jvm.MethodName)) a0 Z = true := hw _ (List.mem_of_getElem? (i := 5) rfl)
theorem wd6 {Z : State} {a0 : Array Value} (hw : HW Z a0) : Jvm.Cond.before (Jvm.Cond.code ({ cls := "com/example/opas/opas/TemplateEqualsPinLaw", name := "len", desc := "(JI)I" } : Jvm.MethodName) method_2_code (3 : Nat) (Option.some Jvm.ClassFile.FieldType.int)) a0 Z = true := hw _ (List.mem_of_getElem? (i := 6) rfl)
theorem wd7 {Z : State} {a0 : Array Value} (hw : HW Z a0) : Jvm.Cond.before (Jvm.Cond.constantLong "com/example/opas/opas/TemplateEqualsPinLaw" (7 : Nat) (3 : Int64)) a0 Z = true := hw _ (List.mem_of_getElem? (i := 7) rfl)
theorem wd8 {Z : State} {a0 : Array Value} (hw : HW Z a0) : Jvm.Cond.before (Jvm.Cond.methodLink "com/example/opas/opas/TemplateEqualsPinLaw" (17 : Nat) ({ cls := "com/example/opas/opas/TemplateEqualsPinLaw", name := "ch", desc := "(JII)C" } : Jvm.MethodName)) a0 Z = true := hw _ (List.mem_of_getElem? (i := 8) rfl)
theorem wd9 {Z : State} {a0 : Array Value} (hw : HW Z a0) : Jvm.Cond.before (Jvm.Cond.static ({ cls := "com/example/opas/opas/TemplateEqualsPinLaw", name := "ch", desc := "(JII)C" } : Jvm.MethodName)) a0 Z = true := hw _ (List.mem_of_getElem? (i := 9) rfl)
theorem wd10 {Z : State} {a0 : Array Value} (hw : HW Z a0) : Jvm.Cond.before (Jvm.Cond.code ({ cls := "com/example/opas/opas/TemplateEqualsPinLaw", name := "ch", desc := "(JII)C" } : Jvm.MethodName) method_3_code (4 : Nat) (Option.some Jvm.ClassFile.FieldType.char)) a0 Z = true := hw _ (List.mem_of_getElem? (i := 10) rfl)
theorem wd11 {Z : State} {a0 : Array Value} (hw : HW Z a0) : Jvm.Cond.before (Jvm.Cond.constantLong "com/example/opas/opas/TemplateEqualsPinLaw" (9 : Nat) (255 : Int64)) a0 Z = true := hw _ (List.mem_of_getElem? (i := 11) rfl)
theorem wd12 {Z : State} {a0 : Array Value} (hw : HW Z a0) : Jvm.Cond.before (Jvm.Cond.classLink "com/example/opas/opas/TemplateEqualsPinLaw" (21 : Nat) "java/lang/String") a0 Z = true := hw _ (List.mem_of_getElem? (i := 12) rfl)
theorem wd13 {Z : State} {a0 : Array Value} (hw : HW Z a0) : Jvm.Cond.before (Jvm.Cond.instantiable "java/lang/String" (4 : Nat)) a0 Z = true := hw _ (List.mem_of_getElem? (i := 13) rfl)
theorem wd14 {Z : State} {a0 : Array Value} (hw : HW Z a0) : Jvm.Cond.before (Jvm.Cond.initialized "java/lang/String") a0 Z = true := hw _ (List.mem_of_getElem? (i := 14) rfl)
theorem wd15 {Z : State} {a0 : Array Value} (hw : HW Z a0) : Jvm.Cond.before (Jvm.Cond.arrayClass Jvm.ClassFile.FieldType.char) a0 Z = true := hw _ (List.mem_of_getElem? (i := 15) rfl)
theorem wd16 {Z : State} {a0 : Array Value} (hw : HW Z a0) : Jvm.Cond.before (Jvm.Cond.methodLink "com/example/opas/opas/TemplateEqualsPinLaw" (23 : Nat) ({ cls := "java/lang/String", name := "<init>", desc := "([C)V" } : Jvm.MethodName)) a0 Z = true := hw _ (List.mem_of_getElem? (i := 16) rfl)
theorem wd17 {Z : State} {a0 : Array Value} (hw : HW Z a0) : Jvm.Cond.before (Jvm.Cond.instanceMethod ({ cls := "java/lang/String", name := "<init>", desc := "([C)V" } : Jvm.MethodName)) a0 Z = true := hw _ (List.mem_of_getElem? (i := 17) rfl)
theorem wd18 {Z : State} {a0 : Array Value} (hw : HW Z a0) : Jvm.Cond.before (Jvm.Cond.code ({ cls := "java/lang/String", name := "<init>", desc := "([C)V" } : Jvm.MethodName) jdk_42_method_3_code (2 : Nat) (Option.none : Option Jvm.ClassFile.FieldType)) a0 Z = true := hw _ (List.mem_of_getElem? (i := 18) rfl)
theorem wd19 {Z : State} {a0 : Array Value} (hw : HW Z a0) : Jvm.Cond.before (Jvm.Cond.methodLink "java/lang/String" (27 : Nat) ({ cls := "java/lang/String", name := "<init>", desc := "([CIILjava/lang/Void;)V" } : Jvm.MethodName)) a0 Z = true := hw _ (List.mem_of_getElem? (i := 19) rfl)
theorem wd20 {Z : State} {a0 : Array Value} (hw : HW Z a0) : Jvm.Cond.before (Jvm.Cond.instanceMethod ({ cls := "java/lang/String", name := "<init>", desc := "([CIILjava/lang/Void;)V" } : Jvm.MethodName)) a0 Z = true := hw _ (List.mem_of_getElem? (i := 20) rfl)
theorem wd22 {Z : State} {a0 : Array Value} (hw : HW Z a0) : Jvm.Cond.before (Jvm.Cond.code ({ cls := "java/lang/String", name := "<init>", desc := "([CIILjava/lang/Void;)V" } : Jvm.MethodName) jdk_42_method_149_code (6 : Nat) (Option.none : Option Jvm.ClassFile.FieldType)) a0 Z = true := hw _ (List.mem_of_getElem? (i := 22) rfl)
theorem wd23 {Z : State} {a0 : Array Value} (hw : HW Z a0) : Jvm.Cond.before (Jvm.Cond.methodLink "java/lang/String" (1 : Nat) ({ cls := "java/lang/Object", name := "<init>", desc := "()V" } : Jvm.MethodName)) a0 Z = true := hw _ (List.mem_of_getElem? (i := 23) rfl)
theorem wd24 {Z : State} {a0 : Array Value} (hw : HW Z a0) : Jvm.Cond.before (Jvm.Cond.instanceMethod ({ cls := "java/lang/Object", name := "<init>", desc := "()V" } : Jvm.MethodName)) a0 Z = true := hw _ (List.mem_of_getElem? (i := 24) rfl)
theorem wd25 {Z : State} {a0 : Array Value} (hw : HW Z a0) : Jvm.Cond.before (Jvm.Cond.code ({ cls := "java/lang/Object", name := "<init>", desc := "()V" } : Jvm.MethodName) object_method_1_code (1 : Nat) (Option.none : Option Jvm.ClassFile.FieldType)) a0 Z = true := hw _ (List.mem_of_getElem? (i := 25) rfl)
theorem wd26 {Z : State} {a0 : Array Value} (hw : HW Z a0) : Jvm.Cond.before (Jvm.Cond.stringLink "java/lang/String" (7 : Nat) "") a0 Z = true := hw _ (List.mem_of_getElem? (i := 26) rfl)
theorem wd27 {Z : State} {a0 : Array Value} (hw : HW Z a0) : Jvm.Cond.before (Jvm.Cond.arrayClass Jvm.ClassFile.FieldType.byte) a0 Z = true := hw _ (List.mem_of_getElem? (i := 27) rfl)
theorem wd28 {Z : State} {a0 : Array Value} (hw : HW Z a0) : Jvm.Cond.before (Jvm.Cond.laysFinal "java/lang/String" "java/lang/String" "value" "[B") a0 Z = true := hw _ (List.mem_of_getElem? (i := 28) rfl)
theorem wd29 {Z : State} {a0 : Array Value} (hw : HW Z a0) : Jvm.Cond.before (Jvm.Cond.laysFinal "java/lang/String" "java/lang/String" "coder" "B") a0 Z = true := hw _ (List.mem_of_getElem? (i := 29) rfl)
theorem wd30 {Z : State} {a0 : Array Value} (hw : HW Z a0) : Jvm.Cond.before (Jvm.Cond.soleField "java/lang/String" "value") a0 Z = true := hw _ (List.mem_of_getElem? (i := 30) rfl)
theorem wd31 {Z : State} {a0 : Array Value} (hw : HW Z a0) : Jvm.Cond.before (Jvm.Cond.soleField "java/lang/String" "coder") a0 Z = true := hw _ (List.mem_of_getElem? (i := 31) rfl)
theorem wd32 {Z : State} {a0 : Array Value} (hw : HW Z a0) : Jvm.Cond.before (Jvm.Cond.fieldLink "java/lang/String" (9 : Nat) "java/lang/String" "value" "[B") a0 Z = true := hw _ (List.mem_of_getElem? (i := 32) rfl)
theorem wd33 {Z : State} {a0 : Array Value} (hw : HW Z a0) : Jvm.Cond.before (Jvm.Cond.fieldLink "java/lang/String" (15 : Nat) "java/lang/String" "coder" "B") a0 Z = true := hw _ (List.mem_of_getElem? (i := 33) rfl)
theorem wd34 {Z : State} {a0 : Array Value} (hw : HW Z a0) : Jvm.Cond.before (Jvm.Cond.methodLink "com/example/opas/opas/TemplateEqualsPinLaw" (26 : Nat) ({ cls := "java/lang/String", name := "valueOf", desc := "(C)Ljava/lang/String;" } : Jvm.MethodName)) a0 Z = true := hw _ (List.mem_of_getElem? (i := 34) rfl)
theorem wd35 {Z : State} {a0 : Array Value} (hw : HW Z a0) : Jvm.Cond.before (Jvm.Cond.static ({ cls := "java/lang/String", name := "valueOf", desc := "(C)Ljava/lang/String;" } : Jvm.MethodName)) a0 Z = true := hw _ (List.mem_of_getElem? (i := 35) rfl)
theorem wd36 {Z : State} {a0 : Array Value} (hw : HW Z a0) : Jvm.Cond.before (Jvm.Cond.code ({ cls := "java/lang/String", name := "valueOf", desc := "(C)Ljava/lang/String;" } : Jvm.MethodName) jdk_42_method_139_code (1 : Nat) (Option.some (Jvm.ClassFile.FieldType.object "java/lang/String"))) a0 Z = true := hw _ (List.mem_of_getElem? (i := 36) rfl)
theorem wd37 {Z : State} {a0 : Array Value} (hw : HW Z a0) : Jvm.Cond.before (Jvm.Cond.fieldLink "java/lang/String" (38 : Nat) "java/lang/String" "COMPACT_STRINGS" "Z") a0 Z = true := hw _ (List.mem_of_getElem? (i := 37) rfl)
theorem wd38 {Z : State} {a0 : Array Value} (hw : HW Z a0) : Jvm.Cond.before (Jvm.Cond.methodLink "java/lang/String" (1015 : Nat) ({ cls := "java/lang/StringLatin1", name := "canEncode", desc := "(C)Z" } : Jvm.MethodName)) a0 Z = true := hw _ (List.mem_of_getElem? (i := 38) rfl)
theorem wd39 {Z : State} {a0 : Array Value} (hw : HW Z a0) : Jvm.Cond.before (Jvm.Cond.static ({ cls := "java/lang/StringLatin1", name := "canEncode", desc := "(C)Z" } : Jvm.MethodName)) a0 Z = true := hw _ (List.mem_of_getElem? (i := 39) rfl)
theorem wd40 {Z : State} {a0 : Array Value} (hw : HW Z a0) : Jvm.Cond.before (Jvm.Cond.initialized "java/lang/StringLatin1") a0 Z = true := hw _ (List.mem_of_getElem? (i := 40) rfl)
theorem wd41 {Z : State} {a0 : Array Value} (hw : HW Z a0) : Jvm.Cond.before (Jvm.Cond.code ({ cls := "java/lang/StringLatin1", name := "canEncode", desc := "(C)Z" } : Jvm.MethodName) jdk_43_method_3_code (1 : Nat) (Option.some Jvm.ClassFile.FieldType.boolean)) a0 Z = true := hw _ (List.mem_of_getElem? (i := 41) rfl)
theorem wd42 {Z : State} {a0 : Array Value} (hw : HW Z a0) : Jvm.Cond.before (Jvm.Cond.classLink "java/lang/String" (10 : Nat) "java/lang/String") a0 Z = true := hw _ (List.mem_of_getElem? (i := 42) rfl)
theorem wd43 {Z : State} {a0 : Array Value} (hw : HW Z a0) : Jvm.Cond.before (Jvm.Cond.methodLink "java/lang/String" (1018 : Nat) ({ cls := "java/lang/StringLatin1", name := "toBytes", desc := "(C)[B" } : Jvm.MethodName)) a0 Z = true := hw _ (List.mem_of_getElem? (i := 43) rfl)
theorem wd44 {Z : State} {a0 : Array Value} (hw : HW Z a0) : Jvm.Cond.before (Jvm.Cond.static ({ cls := "java/lang/StringLatin1", name := "toBytes", desc := "(C)[B" } : Jvm.MethodName)) a0 Z = true := hw _ (List.mem_of_getElem? (i := 44) rfl)
theorem wd45 {Z : State} {a0 : Array Value} (hw : HW Z a0) : Jvm.Cond.before (Jvm.Cond.code ({ cls := "java/lang/StringLatin1", name := "toBytes", desc := "(C)[B" } : Jvm.MethodName) jdk_43_method_46_code (1 : Nat) (Option.some (Jvm.ClassFile.FieldType.array Jvm.ClassFile.FieldType.byte))) a0 Z = true := hw _ (List.mem_of_getElem? (i := 45) rfl)
theorem wd46 {Z : State} {a0 : Array Value} (hw : HW Z a0) : Jvm.Cond.before (Jvm.Cond.methodLink "java/lang/String" (209 : Nat) ({ cls := "java/lang/String", name := "<init>", desc := "([BB)V" } : Jvm.MethodName)) a0 Z = true := hw _ (List.mem_of_getElem? (i := 46) rfl)
theorem wd47 {Z : State} {a0 : Array Value} (hw : HW Z a0) : Jvm.Cond.before (Jvm.Cond.instanceMethod ({ cls := "java/lang/String", name := "<init>", desc := "([BB)V" } : Jvm.MethodName)) a0 Z = true := hw _ (List.mem_of_getElem? (i := 47) rfl)
theorem wd48 {Z : State} {a0 : Array Value} (hw : HW Z a0) : Jvm.Cond.before (Jvm.Cond.code ({ cls := "java/lang/String", name := "<init>", desc := "([BB)V" } : Jvm.MethodName) jdk_42_method_151_code (3 : Nat) (Option.none : Option Jvm.ClassFile.FieldType)) a0 Z = true := hw _ (List.mem_of_getElem? (i := 48) rfl)
theorem wd49 {Z : State} {a0 : Array Value} (hw : HW Z a0) : Jvm.Cond.before (Jvm.Cond.classLink "com/example/opas/opas/TemplateEqualsPinLaw" (34 : Nat) "com/example/opas/opas/Template") a0 Z = true := hw _ (List.mem_of_getElem? (i := 49) rfl)
theorem wd50 {Z : State} {a0 : Array Value} (hw : HW Z a0) : Jvm.Cond.before (Jvm.Cond.instantiable "com/example/opas/opas/Template" (3 : Nat)) a0 Z = true := hw _ (List.mem_of_getElem? (i := 50) rfl)
theorem wd51 {Z : State} {a0 : Array Value} (hw : HW Z a0) : Jvm.Cond.before (Jvm.Cond.initialized "com/example/opas/opas/Template") a0 Z = true := hw _ (List.mem_of_getElem? (i := 51) rfl)
theorem wd52 {Z : State} {a0 : Array Value} (hw : HW Z a0) : Jvm.Cond.before (Jvm.Cond.methodLink "com/example/opas/opas/TemplateEqualsPinLaw" (36 : Nat) ({ cls := "com/example/opas/opas/Template", name := "<init>", desc := "(Ljava/lang/String;Ljava/lang/String;Ljava/lang/String;)V" } : Jvm.MethodName)) a0 Z = true := hw _ (List.mem_of_getElem? (i := 52) rfl)
theorem wd53 {Z : State} {a0 : Array Value} (hw : HW Z a0) : Jvm.Cond.before (Jvm.Cond.instanceMethod ({ cls := "com/example/opas/opas/Template", name := "<init>", desc := "(Ljava/lang/String;Ljava/lang/String;Ljava/lang/String;)V" } : Jvm.MethodName)) a0 Z = true := hw _ (List.mem_of_getElem? (i := 53) rfl)
theorem wd54 {Z : State} {a0 : Array Value} (hw : HW Z a0) : Jvm.Cond.before (Jvm.Cond.code ({ cls := "com/example/opas/opas/Template", name := "<init>", desc := "(Ljava/lang/String;Ljava/lang/String;Ljava/lang/String;)V" } : Jvm.MethodName) prog_26_method_1_code (4 : Nat) (Option.none : Option Jvm.ClassFile.FieldType)) a0 Z = true := hw _ (List.mem_of_getElem? (i := 54) rfl)
theorem wd55 {Z : State} {a0 : Array Value} (hw : HW Z a0) : Jvm.Cond.before (Jvm.Cond.methodLink "com/example/opas/opas/Template" (1 : Nat) ({ cls := "java/lang/Object", name := "<init>", desc := "()V" } : Jvm.MethodName)) a0 Z = true := hw _ (List.mem_of_getElem? (i := 55) rfl)
theorem wd56 {Z : State} {a0 : Array Value} (hw : HW Z a0) : Jvm.Cond.before (Jvm.Cond.fieldLink "com/example/opas/opas/Template" (7 : Nat) "com/example/opas/opas/Template" "before" "Ljava/lang/String;") a0 Z = true := hw _ (List.mem_of_getElem? (i := 56) rfl)
theorem wd57 {Z : State} {a0 : Array Value} (hw : HW Z a0) : Jvm.Cond.before (Jvm.Cond.laysFinal "com/example/opas/opas/Template" "com/example/opas/opas/Template" "before" "Ljava/lang/String;") a0 Z = true := hw _ (List.mem_of_getElem? (i := 57) rfl)
theorem wd58 {Z : State} {a0 : Array Value} (hw : HW Z a0) : Jvm.Cond.before (Jvm.Cond.fieldLink "com/example/opas/opas/Template" (13 : Nat) "com/example/opas/opas/Template" "kind" "Ljava/lang/String;") a0 Z = true := hw _ (List.mem_of_getElem? (i := 58) rfl)
theorem wd59 {Z : State} {a0 : Array Value} (hw : HW Z a0) : Jvm.Cond.before (Jvm.Cond.laysFinal "com/example/opas/opas/Template" "com/example/opas/opas/Template" "kind" "Ljava/lang/String;") a0 Z = true := hw _ (List.mem_of_getElem? (i := 59) rfl)
theorem wd60 {Z : State} {a0 : Array Value} (hw : HW Z a0) : Jvm.Cond.before (Jvm.Cond.fieldLink "com/example/opas/opas/Template" (16 : Nat) "com/example/opas/opas/Template" "after" "Ljava/lang/String;") a0 Z = true := hw _ (List.mem_of_getElem? (i := 60) rfl)
theorem wd61 {Z : State} {a0 : Array Value} (hw : HW Z a0) : Jvm.Cond.before (Jvm.Cond.laysFinal "com/example/opas/opas/Template" "com/example/opas/opas/Template" "after" "Ljava/lang/String;") a0 Z = true := hw _ (List.mem_of_getElem? (i := 61) rfl)
theorem wd62 {Z : State} {a0 : Array Value} (hw : HW Z a0) : Jvm.Cond.before (Jvm.Cond.methodLink "com/example/opas/opas/TemplateEqualsPinLaw" (39 : Nat) ({ cls := "com/example/opas/opas/TemplateEqualsPinLaw", name := "same", desc := "(JJI)Z" } : Jvm.MethodName)) a0 Z = true := hw _ (List.mem_of_getElem? (i := 62) rfl)
theorem wd63 {Z : State} {a0 : Array Value} (hw : HW Z a0) : Jvm.Cond.before (Jvm.Cond.static ({ cls := "com/example/opas/opas/TemplateEqualsPinLaw", name := "same", desc := "(JJI)Z" } : Jvm.MethodName)) a0 Z = true := hw _ (List.mem_of_getElem? (i := 63) rfl)
theorem wd64 {Z : State} {a0 : Array Value} (hw : HW Z a0) : Jvm.Cond.before (Jvm.Cond.code ({ cls := "com/example/opas/opas/TemplateEqualsPinLaw", name := "same", desc := "(JJI)Z" } : Jvm.MethodName) method_5_code (7 : Nat) (Option.some Jvm.ClassFile.FieldType.boolean)) a0 Z = true := hw _ (List.mem_of_getElem? (i := 64) rfl)
theorem wd65 {Z : State} {a0 : Array Value} (hw : HW Z a0) : Jvm.Cond.before (Jvm.Cond.methodLink "com/example/opas/opas/TemplateEqualsPinLaw" (43 : Nat) ({ cls := "com/example/opas/opas/Template", name := "equals", desc := "(Ljava/lang/Object;)Z" } : Jvm.MethodName)) a0 Z = true := hw _ (List.mem_of_getElem? (i := 65) rfl)
theorem wd66 {Z : State} {a0 : Array Value} (hw : HW Z a0) : Jvm.Cond.before (Jvm.Cond.declares ({ cls := "com/example/opas/opas/Template", name := "equals", desc := "(Ljava/lang/Object;)Z" } : Jvm.MethodName)) a0 Z = true := hw _ (List.mem_of_getElem? (i := 66) rfl)
theorem wd67 {Z : State} {a0 : Array Value} (hw : HW Z a0) : Jvm.Cond.before (Jvm.Cond.instanceMethod ({ cls := "com/example/opas/opas/Template", name := "equals", desc := "(Ljava/lang/Object;)Z" } : Jvm.MethodName)) a0 Z = true := hw _ (List.mem_of_getElem? (i := 67) rfl)
theorem wd68 {Z : State} {a0 : Array Value} (hw : HW Z a0) : Jvm.Cond.before (Jvm.Cond.selects "com/example/opas/opas/Template" ({ cls := "com/example/opas/opas/Template", name := "equals", desc := "(Ljava/lang/Object;)Z" } : Jvm.MethodName) ({ cls := "com/example/opas/opas/Template", name := "equals", desc := "(Ljava/lang/Object;)Z" } : Jvm.MethodName)) a0 Z = true := hw _ (List.mem_of_getElem? (i := 68) rfl)
theorem wd69 {Z : State} {a0 : Array Value} (hw : HW Z a0) : Jvm.Cond.before (Jvm.Cond.code ({ cls := "com/example/opas/opas/Template", name := "equals", desc := "(Ljava/lang/Object;)Z" } : Jvm.MethodName) prog_26_method_6_code (3 : Nat) (Option.some Jvm.ClassFile.FieldType.boolean)) a0 Z = true := hw _ (List.mem_of_getElem? (i := 69) rfl)
theorem wd70 {Z : State} {a0 : Array Value} (hw : HW Z a0) : Jvm.Cond.before (Jvm.Cond.classLink "com/example/opas/opas/Template" (8 : Nat) "com/example/opas/opas/Template") a0 Z = true := hw _ (List.mem_of_getElem? (i := 70) rfl)
theorem wd72 {Z : State} {a0 : Array Value} (hw : HW Z a0) : Jvm.Cond.before (Jvm.Cond.methodLink "com/example/opas/opas/Template" (47 : Nat) ({ cls := "java/lang/String", name := "equals", desc := "(Ljava/lang/Object;)Z" } : Jvm.MethodName)) a0 Z = true := hw _ (List.mem_of_getElem? (i := 72) rfl)
theorem wd73 {Z : State} {a0 : Array Value} (hw : HW Z a0) : Jvm.Cond.before (Jvm.Cond.declares ({ cls := "java/lang/String", name := "equals", desc := "(Ljava/lang/Object;)Z" } : Jvm.MethodName)) a0 Z = true := hw _ (List.mem_of_getElem? (i := 73) rfl)
theorem wd74 {Z : State} {a0 : Array Value} (hw : HW Z a0) : Jvm.Cond.before (Jvm.Cond.instanceMethod ({ cls := "java/lang/String", name := "equals", desc := "(Ljava/lang/Object;)Z" } : Jvm.MethodName)) a0 Z = true := hw _ (List.mem_of_getElem? (i := 74) rfl)
theorem wd75 {Z : State} {a0 : Array Value} (hw : HW Z a0) : Jvm.Cond.before (Jvm.Cond.selects "java/lang/String" ({ cls := "java/lang/String", name := "equals", desc := "(Ljava/lang/Object;)Z" } : Jvm.MethodName) ({ cls := "java/lang/String", name := "equals", desc := "(Ljava/lang/Object;)Z" } : Jvm.MethodName)) a0 Z = true := hw _ (List.mem_of_getElem? (i := 75) rfl)
theorem wd76 {Z : State} {a0 : Array Value} (hw : HW Z a0) : Jvm.Cond.before (Jvm.Cond.code ({ cls := "java/lang/String", name := "equals", desc := "(Ljava/lang/Object;)Z" } : Jvm.MethodName) jdk_42_method_66_code (3 : Nat) (Option.some Jvm.ClassFile.FieldType.boolean)) a0 Z = true := hw _ (List.mem_of_getElem? (i := 76) rfl)
theorem wd77 {Z : State} {a0 : Array Value} (hw : HW Z a0) : Jvm.Cond.before (Jvm.Cond.methodLink "java/lang/String" (541 : Nat) ({ cls := "java/lang/StringLatin1", name := "equals", desc := "([B[B)Z" } : Jvm.MethodName)) a0 Z = true := hw _ (List.mem_of_getElem? (i := 77) rfl)
theorem wd78 {Z : State} {a0 : Array Value} (hw : HW Z a0) : Jvm.Cond.before (Jvm.Cond.static ({ cls := "java/lang/StringLatin1", name := "equals", desc := "([B[B)Z" } : Jvm.MethodName)) a0 Z = true := hw _ (List.mem_of_getElem? (i := 78) rfl)
theorem wd79 {Z : State} {a0 : Array Value} (hw : HW Z a0) : Jvm.Cond.before (Jvm.Cond.code ({ cls := "java/lang/StringLatin1", name := "equals", desc := "([B[B)Z" } : Jvm.MethodName) jdk_43_method_13_code (3 : Nat) (Option.some Jvm.ClassFile.FieldType.boolean)) a0 Z = true := hw _ (List.mem_of_getElem? (i := 79) rfl)
theorem wd80 {Z : State} {a0 : Array Value} (hw : HW Z a0) : Jvm.Cond.before (Jvm.Cond.methodLink "java/lang/String" (177 : Nat) ({ cls := "java/lang/StringUTF16", name := "compress", desc := "([CII)[B" } : Jvm.MethodName)) a0 Z = true := hw _ (List.mem_of_getElem? (i := 80) rfl)
theorem wd81 {Z : State} {a0 : Array Value} (hw : HW Z a0) : Jvm.Cond.before (Jvm.Cond.static ({ cls := "java/lang/StringUTF16", name := "compress", desc := "([CII)[B" } : Jvm.MethodName)) a0 Z = true := hw _ (List.mem_of_getElem? (i := 81) rfl)
theorem wd82 {Z : State} {a0 : Array Value} (hw : HW Z a0) : Jvm.Cond.before (Jvm.Cond.initialized "java/lang/StringUTF16") a0 Z = true := hw _ (List.mem_of_getElem? (i := 82) rfl)
theorem wd83 {Z : State} {a0 : Array Value} (hw : HW Z a0) : Jvm.Cond.before (Jvm.Cond.code ({ cls := "java/lang/StringUTF16", name := "compress", desc := "([CII)[B" } : Jvm.MethodName) jdk_52_method_16_code (6 : Nat) (Option.some (Jvm.ClassFile.FieldType.array Jvm.ClassFile.FieldType.byte))) a0 Z = true := hw _ (List.mem_of_getElem? (i := 83) rfl)
theorem wd84 {Z : State} {a0 : Array Value} (hw : HW Z a0) : Jvm.Cond.before (Jvm.Cond.methodLink "java/lang/StringUTF16" (115 : Nat) ({ cls := "java/lang/StringUTF16", name := "compress", desc := "([CI[BII)I" } : Jvm.MethodName)) a0 Z = true := hw _ (List.mem_of_getElem? (i := 84) rfl)
theorem wd85 {Z : State} {a0 : Array Value} (hw : HW Z a0) : Jvm.Cond.before (Jvm.Cond.static ({ cls := "java/lang/StringUTF16", name := "compress", desc := "([CI[BII)I" } : Jvm.MethodName)) a0 Z = true := hw _ (List.mem_of_getElem? (i := 85) rfl)
theorem wd86 {Z : State} {a0 : Array Value} (hw : HW Z a0) : Jvm.Cond.before (Jvm.Cond.code ({ cls := "java/lang/StringUTF16", name := "compress", desc := "([CI[BII)I" } : Jvm.MethodName) jdk_52_method_21_code (7 : Nat) (Option.some Jvm.ClassFile.FieldType.int)) a0 Z = true := hw _ (List.mem_of_getElem? (i := 86) rfl)
theorem wd87 {Z : State} {a0 : Array Value} (hw : HW Z a0) : Jvm.Cond.before (Jvm.Cond.methodLink "java/lang/String" (47 : Nat) ({ cls := "java/lang/StringUTF16", name := "coderFromArrayLen", desc := "([BI)B" } : Jvm.MethodName)) a0 Z = true := hw _ (List.mem_of_getElem? (i := 87) rfl)
theorem wd88 {Z : State} {a0 : Array Value} (hw : HW Z a0) : Jvm.Cond.before (Jvm.Cond.static ({ cls := "java/lang/StringUTF16", name := "coderFromArrayLen", desc := "([BI)B" } : Jvm.MethodName)) a0 Z = true := hw _ (List.mem_of_getElem? (i := 88) rfl)
theorem wd89 {Z : State} {a0 : Array Value} (hw : HW Z a0) : Jvm.Cond.before (Jvm.Cond.code ({ cls := "java/lang/StringUTF16", name := "coderFromArrayLen", desc := "([BI)B" } : Jvm.MethodName) jdk_52_method_15_code (2 : Nat) (Option.some Jvm.ClassFile.FieldType.byte)) a0 Z = true := hw _ (List.mem_of_getElem? (i := 89) rfl)
theorem wd90 {Z : State} {a0 : Array Value} (hw : HW Z a0) : Jvm.Cond.before (Jvm.Cond.superclass "java/lang/String" "java/lang/Object") a0 Z = true := hw _ (List.mem_of_getElem? (i := 90) rfl)
theorem wd91 {Z : State} {a0 : Array Value} (hw : HW Z a0) : Jvm.Cond.before (Jvm.Cond.noSuperclass "java/lang/Object") a0 Z = true := hw _ (List.mem_of_getElem? (i := 91) rfl)
theorem pn0 : plainName "java/lang/StringLatin1" = true := by first | (simp [plainName, overriddenIn]; done) | decide +kernel
theorem pn1 : plainName "java/lang/String" = true := by first | (simp [plainName, overriddenIn]; done) | decide +kernel
theorem pn2 : plainName "java/lang/StringUTF16" = true := by first | (simp [plainName, overriddenIn]; done) | decide +kernel
theorem pn3 : plainName "com/example/opas/opas/TemplateEqualsPinLaw" = true := by first | (simp [plainName, overriddenIn]; done) | decide +kernel
theorem pn4 : plainName "com/example/opas/opas/Template" = true := by first | (simp [plainName, overriddenIn]; done) | decide +kernel
theorem pd0 : parseMethodDescriptor "([B[B)Z" = some ⟨[(.array .byte), (.array .byte)], some .boolean⟩ := by decide +kernel
theorem pd1 : parseMethodDescriptor "([CI[BII)I" = some ⟨[(.array .char), .int, (.array .byte), .int, .int], some .int⟩ := by decide +kernel
theorem pd2 : parseMethodDescriptor "([CII)[B" = some ⟨[(.array .char), .int, .int], some (.array .byte)⟩ := by decide +kernel
theorem pd3 : parseMethodDescriptor "([BI)B" = some ⟨[(.array .byte), .int], some .byte⟩ := by decide +kernel
theorem pd4 : parseMethodDescriptor "([CIILjava/lang/Void;)V" = some ⟨[(.array .char), .int, .int, (.object "java/lang/Void")], none⟩ := by decide +kernel
theorem pd5 : parseMethodDescriptor "(C)Z" = some ⟨[.char], some .boolean⟩ := by decide +kernel
theorem pd6 : parseMethodDescriptor "(C)[B" = some ⟨[.char], some (.array .byte)⟩ := by decide +kernel
theorem pd7 : parseMethodDescriptor "([BB)V" = some ⟨[(.array .byte), .byte], none⟩ := by decide +kernel
theorem pd8 : parseMethodDescriptor "(JI)I" = some ⟨[.long, .int], some .int⟩ := by decide +kernel
theorem pd9 : parseMethodDescriptor "(JII)C" = some ⟨[.long, .int, .int], some .char⟩ := by decide +kernel
theorem pd10 : parseMethodDescriptor "([C)V" = some ⟨[(.array .char)], none⟩ := by decide +kernel
theorem pd11 : parseMethodDescriptor "(C)Ljava/lang/String;" = some ⟨[.char], some (.object "java/lang/String")⟩ := by decide +kernel
theorem pd12 : parseMethodDescriptor "(Ljava/lang/Object;)Z" = some ⟨[(.object "java/lang/Object")], some .boolean⟩ := by decide +kernel
theorem pd13 : parseMethodDescriptor "(JI)Ljava/lang/String;" = some ⟨[.long, .int], some (.object "java/lang/String")⟩ := by decide +kernel
theorem pd14 : parseMethodDescriptor "(Ljava/lang/String;Ljava/lang/String;Ljava/lang/String;)V" = some ⟨[(.object "java/lang/String"), (.object "java/lang/String"), (.object "java/lang/String")], none⟩ := by decide +kernel
theorem pd15 : parseMethodDescriptor "(JJI)Z" = some ⟨[.long, .long, .int], some .boolean⟩ := by decide +kernel
theorem d_jdk_42_method_139_code_0 : decode jdk_42_method_139_code 0 = .ok (.getstatic 38, 3) := by decide +kernel
theorem d_jdk_42_method_139_code_3 : decode jdk_42_method_139_code 3 = .ok (.ifCond .eq 23, 3) := by decide +kernel
theorem d_jdk_42_method_139_code_6 : decode jdk_42_method_139_code 6 = .ok (.iload_n 0, 1) := by decide +kernel
theorem d_jdk_42_method_139_code_7 : decode jdk_42_method_139_code 7 = .ok (.invokestatic 1015, 3) := by decide +kernel
theorem d_jdk_42_method_139_code_10 : decode jdk_42_method_139_code 10 = .ok (.ifCond .eq 16, 3) := by decide +kernel
theorem d_jdk_42_method_139_code_13 : decode jdk_42_method_139_code 13 = .ok (.new 10, 3) := by decide +kernel
theorem d_jdk_42_method_139_code_16 : decode jdk_42_method_139_code 16 = .ok (.dup, 1) := by decide +kernel
theorem d_jdk_42_method_139_code_17 : decode jdk_42_method_139_code 17 = .ok (.iload_n 0, 1) := by decide +kernel
theorem d_jdk_42_method_139_code_18 : decode jdk_42_method_139_code 18 = .ok (.invokestatic 1018, 3) := by decide +kernel
theorem d_jdk_42_method_139_code_21 : decode jdk_42_method_139_code 21 = .ok (.iconst 0, 1) := by decide +kernel
theorem d_jdk_42_method_139_code_22 : decode jdk_42_method_139_code 22 = .ok (.invokespecial 209, 3) := by decide +kernel
theorem d_jdk_42_method_139_code_25 : decode jdk_42_method_139_code 25 = .ok (.areturn, 1) := by decide +kernel
theorem d_jdk_42_method_149_code_0 : decode jdk_42_method_149_code 0 = .ok (.aload_n 0, 1) := by decide +kernel
theorem d_jdk_42_method_149_code_1 : decode jdk_42_method_149_code 1 = .ok (.invokespecial 1, 3) := by decide +kernel
theorem d_jdk_42_method_149_code_4 : decode jdk_42_method_149_code 4 = .ok (.iload_n 3, 1) := by decide +kernel
theorem d_jdk_42_method_149_code_5 : decode jdk_42_method_149_code 5 = .ok (.ifCond .ne 22, 3) := by decide +kernel
theorem d_jdk_42_method_149_code_8 : decode jdk_42_method_149_code 8 = .ok (.aload_n 0, 1) := by decide +kernel
theorem d_jdk_42_method_149_code_9 : decode jdk_42_method_149_code 9 = .ok (.ldc 7, 2) := by decide +kernel
theorem d_jdk_42_method_149_code_11 : decode jdk_42_method_149_code 11 = .ok (.getfield 9, 3) := by decide +kernel
theorem d_jdk_42_method_149_code_14 : decode jdk_42_method_149_code 14 = .ok (.putfield 9, 3) := by decide +kernel
theorem d_jdk_42_method_149_code_17 : decode jdk_42_method_149_code 17 = .ok (.aload_n 0, 1) := by decide +kernel
theorem d_jdk_42_method_149_code_18 : decode jdk_42_method_149_code 18 = .ok (.ldc 7, 2) := by decide +kernel
theorem d_jdk_42_method_149_code_20 : decode jdk_42_method_149_code 20 = .ok (.getfield 15, 3) := by decide +kernel
theorem d_jdk_42_method_149_code_23 : decode jdk_42_method_149_code 23 = .ok (.putfield 15, 3) := by decide +kernel
theorem d_jdk_42_method_149_code_26 : decode jdk_42_method_149_code 26 = .ok (.return_, 1) := by decide +kernel
theorem d_jdk_42_method_149_code_27 : decode jdk_42_method_149_code 27 = .ok (.getstatic 38, 3) := by decide +kernel
theorem d_jdk_42_method_149_code_30 : decode jdk_42_method_149_code 30 = .ok (.ifCond .eq 28, 3) := by decide +kernel
theorem d_jdk_42_method_149_code_33 : decode jdk_42_method_149_code 33 = .ok (.aload_n 1, 1) := by decide +kernel
theorem d_jdk_42_method_149_code_34 : decode jdk_42_method_149_code 34 = .ok (.iload_n 2, 1) := by decide +kernel
theorem d_jdk_42_method_149_code_35 : decode jdk_42_method_149_code 35 = .ok (.iload_n 3, 1) := by decide +kernel
theorem d_jdk_42_method_149_code_36 : decode jdk_42_method_149_code 36 = .ok (.invokestatic 177, 3) := by decide +kernel
theorem d_jdk_42_method_149_code_39 : decode jdk_42_method_149_code 39 = .ok (.astore 5, 2) := by decide +kernel
theorem d_jdk_42_method_149_code_41 : decode jdk_42_method_149_code 41 = .ok (.aload_n 0, 1) := by decide +kernel
theorem d_jdk_42_method_149_code_42 : decode jdk_42_method_149_code 42 = .ok (.aload 5, 2) := by decide +kernel
theorem d_jdk_42_method_149_code_44 : decode jdk_42_method_149_code 44 = .ok (.iload_n 3, 1) := by decide +kernel
theorem d_jdk_42_method_149_code_45 : decode jdk_42_method_149_code 45 = .ok (.invokestatic 47, 3) := by decide +kernel
theorem d_jdk_42_method_149_code_48 : decode jdk_42_method_149_code 48 = .ok (.putfield 15, 3) := by decide +kernel
theorem d_jdk_42_method_149_code_51 : decode jdk_42_method_149_code 51 = .ok (.aload_n 0, 1) := by decide +kernel
theorem d_jdk_42_method_149_code_52 : decode jdk_42_method_149_code 52 = .ok (.aload 5, 2) := by decide +kernel
theorem d_jdk_42_method_149_code_54 : decode jdk_42_method_149_code 54 = .ok (.putfield 9, 3) := by decide +kernel
theorem d_jdk_42_method_149_code_57 : decode jdk_42_method_149_code 57 = .ok (.return_, 1) := by decide +kernel
theorem d_jdk_42_method_151_code_0 : decode jdk_42_method_151_code 0 = .ok (.aload_n 0, 1) := by decide +kernel
theorem d_jdk_42_method_151_code_1 : decode jdk_42_method_151_code 1 = .ok (.invokespecial 1, 3) := by decide +kernel
theorem d_jdk_42_method_151_code_4 : decode jdk_42_method_151_code 4 = .ok (.aload_n 0, 1) := by decide +kernel
theorem d_jdk_42_method_151_code_5 : decode jdk_42_method_151_code 5 = .ok (.aload_n 1, 1) := by decide +kernel
theorem d_jdk_42_method_151_code_6 : decode jdk_42_method_151_code 6 = .ok (.putfield 9, 3) := by decide +kernel
theorem d_jdk_42_method_151_code_9 : decode jdk_42_method_151_code 9 = .ok (.aload_n 0, 1) := by decide +kernel
theorem d_jdk_42_method_151_code_10 : decode jdk_42_method_151_code 10 = .ok (.iload_n 2, 1) := by decide +kernel
theorem d_jdk_42_method_151_code_11 : decode jdk_42_method_151_code 11 = .ok (.putfield 15, 3) := by decide +kernel
theorem d_jdk_42_method_151_code_14 : decode jdk_42_method_151_code 14 = .ok (.return_, 1) := by decide +kernel
theorem d_jdk_42_method_3_code_0 : decode jdk_42_method_3_code 0 = .ok (.aload_n 0, 1) := by decide +kernel
theorem d_jdk_42_method_3_code_1 : decode jdk_42_method_3_code 1 = .ok (.aload_n 1, 1) := by decide +kernel
theorem d_jdk_42_method_3_code_2 : decode jdk_42_method_3_code 2 = .ok (.iconst 0, 1) := by decide +kernel
theorem d_jdk_42_method_3_code_3 : decode jdk_42_method_3_code 3 = .ok (.aload_n 1, 1) := by decide +kernel
theorem d_jdk_42_method_3_code_4 : decode jdk_42_method_3_code 4 = .ok (.arraylength, 1) := by decide +kernel
theorem d_jdk_42_method_3_code_5 : decode jdk_42_method_3_code 5 = .ok (.aconst_null, 1) := by decide +kernel
theorem d_jdk_42_method_3_code_6 : decode jdk_42_method_3_code 6 = .ok (.invokespecial 27, 3) := by decide +kernel
theorem d_jdk_42_method_3_code_9 : decode jdk_42_method_3_code 9 = .ok (.return_, 1) := by decide +kernel
theorem d_jdk_42_method_66_code_0 : decode jdk_42_method_66_code 0 = .ok (.aload_n 0, 1) := by decide +kernel
theorem d_jdk_42_method_66_code_1 : decode jdk_42_method_66_code 1 = .ok (.aload_n 1, 1) := by decide +kernel
theorem d_jdk_42_method_66_code_2 : decode jdk_42_method_66_code 2 = .ok (.if_acmp .ne 5, 3) := by decide +kernel
theorem d_jdk_42_method_66_code_5 : decode jdk_42_method_66_code 5 = .ok (.iconst 1, 1) := by decide +kernel
theorem d_jdk_42_method_66_code_6 : decode jdk_42_method_66_code 6 = .ok (.ireturn, 1) := by decide +kernel
theorem d_jdk_42_method_66_code_7 : decode jdk_42_method_66_code 7 = .ok (.aload_n 1, 1) := by decide +kernel
theorem d_jdk_42_method_66_code_8 : decode jdk_42_method_66_code 8 = .ok (.instanceof 10, 3) := by decide +kernel
theorem d_jdk_42_method_66_code_11 : decode jdk_42_method_66_code 11 = .ok (.ifCond .eq 43, 3) := by decide +kernel
theorem d_jdk_42_method_66_code_14 : decode jdk_42_method_66_code 14 = .ok (.aload_n 1, 1) := by decide +kernel
theorem d_jdk_42_method_66_code_15 : decode jdk_42_method_66_code 15 = .ok (.checkcast 10, 3) := by decide +kernel
theorem d_jdk_42_method_66_code_18 : decode jdk_42_method_66_code 18 = .ok (.astore_n 2, 1) := by decide +kernel
theorem d_jdk_42_method_66_code_19 : decode jdk_42_method_66_code 19 = .ok (.getstatic 38, 3) := by decide +kernel
theorem d_jdk_42_method_66_code_22 : decode jdk_42_method_66_code 22 = .ok (.ifCond .eq 14, 3) := by decide +kernel
theorem d_jdk_42_method_66_code_25 : decode jdk_42_method_66_code 25 = .ok (.aload_n 0, 1) := by decide +kernel
theorem d_jdk_42_method_66_code_26 : decode jdk_42_method_66_code 26 = .ok (.getfield 15, 3) := by decide +kernel
theorem d_jdk_42_method_66_code_29 : decode jdk_42_method_66_code 29 = .ok (.aload_n 2, 1) := by decide +kernel
theorem d_jdk_42_method_66_code_30 : decode jdk_42_method_66_code 30 = .ok (.getfield 15, 3) := by decide +kernel
theorem d_jdk_42_method_66_code_33 : decode jdk_42_method_66_code 33 = .ok (.if_icmp .ne 21, 3) := by decide +kernel
theorem d_jdk_42_method_66_code_36 : decode jdk_42_method_66_code 36 = .ok (.aload_n 0, 1) := by decide +kernel
theorem d_jdk_42_method_66_code_37 : decode jdk_42_method_66_code 37 = .ok (.getfield 9, 3) := by decide +kernel
theorem d_jdk_42_method_66_code_40 : decode jdk_42_method_66_code 40 = .ok (.aload_n 2, 1) := by decide +kernel
theorem d_jdk_42_method_66_code_41 : decode jdk_42_method_66_code 41 = .ok (.getfield 9, 3) := by decide +kernel
theorem d_jdk_42_method_66_code_44 : decode jdk_42_method_66_code 44 = .ok (.invokestatic 541, 3) := by decide +kernel
theorem d_jdk_42_method_66_code_47 : decode jdk_42_method_66_code 47 = .ok (.ifCond .eq 7, 3) := by decide +kernel
theorem d_jdk_42_method_66_code_50 : decode jdk_42_method_66_code 50 = .ok (.iconst 1, 1) := by decide +kernel
theorem d_jdk_42_method_66_code_51 : decode jdk_42_method_66_code 51 = .ok (.goto 4, 3) := by decide +kernel
theorem d_jdk_42_method_66_code_54 : decode jdk_42_method_66_code 54 = .ok (.iconst 0, 1) := by decide +kernel
theorem d_jdk_42_method_66_code_55 : decode jdk_42_method_66_code 55 = .ok (.ireturn, 1) := by decide +kernel
theorem d_jdk_43_method_13_code_0 : decode jdk_43_method_13_code 0 = .ok (.aload_n 0, 1) := by decide +kernel
theorem d_jdk_43_method_13_code_1 : decode jdk_43_method_13_code 1 = .ok (.arraylength, 1) := by decide +kernel
theorem d_jdk_43_method_13_code_2 : decode jdk_43_method_13_code 2 = .ok (.aload_n 1, 1) := by decide +kernel
theorem d_jdk_43_method_13_code_3 : decode jdk_43_method_13_code 3 = .ok (.arraylength, 1) := by decide +kernel
theorem d_jdk_43_method_13_code_4 : decode jdk_43_method_13_code 4 = .ok (.if_icmp .ne 30, 3) := by decide +kernel
theorem d_jdk_43_method_13_code_7 : decode jdk_43_method_13_code 7 = .ok (.iconst 0, 1) := by decide +kernel
theorem d_jdk_43_method_13_code_8 : decode jdk_43_method_13_code 8 = .ok (.istore_n 2, 1) := by decide +kernel
theorem d_jdk_43_method_13_code_9 : decode jdk_43_method_13_code 9 = .ok (.iload_n 2, 1) := by decide +kernel
theorem d_jdk_43_method_13_code_10 : decode jdk_43_method_13_code 10 = .ok (.aload_n 0, 1) := by decide +kernel
theorem d_jdk_43_method_13_code_11 : decode jdk_43_method_13_code 11 = .ok (.arraylength, 1) := by decide +kernel
theorem d_jdk_43_method_13_code_12 : decode jdk_43_method_13_code 12 = .ok (.if_icmp .ge 20, 3) := by decide +kernel
theorem d_jdk_43_method_13_code_15 : decode jdk_43_method_13_code 15 = .ok (.aload_n 0, 1) := by decide +kernel
theorem d_jdk_43_method_13_code_16 : decode jdk_43_method_13_code 16 = .ok (.iload_n 2, 1) := by decide +kernel
theorem d_jdk_43_method_13_code_17 : decode jdk_43_method_13_code 17 = .ok (.baload, 1) := by decide +kernel
theorem d_jdk_43_method_13_code_18 : decode jdk_43_method_13_code 18 = .ok (.aload_n 1, 1) := by decide +kernel
theorem d_jdk_43_method_13_code_19 : decode jdk_43_method_13_code 19 = .ok (.iload_n 2, 1) := by decide +kernel
theorem d_jdk_43_method_13_code_20 : decode jdk_43_method_13_code 20 = .ok (.baload, 1) := by decide +kernel
theorem d_jdk_43_method_13_code_21 : decode jdk_43_method_13_code 21 = .ok (.if_icmp .eq 5, 3) := by decide +kernel
theorem d_jdk_43_method_13_code_24 : decode jdk_43_method_13_code 24 = .ok (.iconst 0, 1) := by decide +kernel
theorem d_jdk_43_method_13_code_25 : decode jdk_43_method_13_code 25 = .ok (.ireturn, 1) := by decide +kernel
theorem d_jdk_43_method_13_code_26 : decode jdk_43_method_13_code 26 = .ok (.iinc 2 1, 3) := by decide +kernel
theorem d_jdk_43_method_13_code_29 : decode jdk_43_method_13_code 29 = .ok (.goto (-20), 3) := by decide +kernel
theorem d_jdk_43_method_13_code_32 : decode jdk_43_method_13_code 32 = .ok (.iconst 1, 1) := by decide +kernel
theorem d_jdk_43_method_13_code_33 : decode jdk_43_method_13_code 33 = .ok (.ireturn, 1) := by decide +kernel
theorem d_jdk_43_method_13_code_34 : decode jdk_43_method_13_code 34 = .ok (.iconst 0, 1) := by decide +kernel
theorem d_jdk_43_method_13_code_35 : decode jdk_43_method_13_code 35 = .ok (.ireturn, 1) := by decide +kernel
theorem d_jdk_43_method_3_code_0 : decode jdk_43_method_3_code 0 = .ok (.iload_n 0, 1) := by decide +kernel
theorem d_jdk_43_method_3_code_1 : decode jdk_43_method_3_code 1 = .ok (.sipush 255, 3) := by decide +kernel
theorem d_jdk_43_method_3_code_4 : decode jdk_43_method_3_code 4 = .ok (.if_icmp .gt 7, 3) := by decide +kernel
theorem d_jdk_43_method_3_code_7 : decode jdk_43_method_3_code 7 = .ok (.iconst 1, 1) := by decide +kernel
theorem d_jdk_43_method_3_code_8 : decode jdk_43_method_3_code 8 = .ok (.goto 4, 3) := by decide +kernel
theorem d_jdk_43_method_3_code_12 : decode jdk_43_method_3_code 12 = .ok (.ireturn, 1) := by decide +kernel
theorem d_jdk_43_method_46_code_0 : decode jdk_43_method_46_code 0 = .ok (.iconst 1, 1) := by decide +kernel
theorem d_jdk_43_method_46_code_1 : decode jdk_43_method_46_code 1 = .ok (.newarray .byte, 2) := by decide +kernel
theorem d_jdk_43_method_46_code_3 : decode jdk_43_method_46_code 3 = .ok (.dup, 1) := by decide +kernel
theorem d_jdk_43_method_46_code_4 : decode jdk_43_method_46_code 4 = .ok (.iconst 0, 1) := by decide +kernel
theorem d_jdk_43_method_46_code_5 : decode jdk_43_method_46_code 5 = .ok (.iload_n 0, 1) := by decide +kernel
theorem d_jdk_43_method_46_code_6 : decode jdk_43_method_46_code 6 = .ok (.i2b, 1) := by decide +kernel
theorem d_jdk_43_method_46_code_7 : decode jdk_43_method_46_code 7 = .ok (.bastore, 1) := by decide +kernel
theorem d_jdk_43_method_46_code_8 : decode jdk_43_method_46_code 8 = .ok (.areturn, 1) := by decide +kernel
theorem d_jdk_52_method_15_code_0 : decode jdk_52_method_15_code 0 = .ok (.iload_n 1, 1) := by decide +kernel
theorem d_jdk_52_method_15_code_1 : decode jdk_52_method_15_code 1 = .ok (.aload_n 0, 1) := by decide +kernel
theorem d_jdk_52_method_15_code_2 : decode jdk_52_method_15_code 2 = .ok (.arraylength, 1) := by decide +kernel
theorem d_jdk_52_method_15_code_3 : decode jdk_52_method_15_code 3 = .ok (.isub, 1) := by decide +kernel
theorem d_jdk_52_method_15_code_4 : decode jdk_52_method_15_code 4 = .ok (.bipush 31, 2) := by decide +kernel
theorem d_jdk_52_method_15_code_6 : decode jdk_52_method_15_code 6 = .ok (.iushr, 1) := by decide +kernel
theorem d_jdk_52_method_15_code_7 : decode jdk_52_method_15_code 7 = .ok (.i2b, 1) := by decide +kernel
theorem d_jdk_52_method_15_code_8 : decode jdk_52_method_15_code 8 = .ok (.ireturn, 1) := by decide +kernel
theorem d_jdk_52_method_16_code_0 : decode jdk_52_method_16_code 0 = .ok (.iload_n 2, 1) := by decide +kernel
theorem d_jdk_52_method_16_code_1 : decode jdk_52_method_16_code 1 = .ok (.newarray .byte, 2) := by decide +kernel
theorem d_jdk_52_method_16_code_3 : decode jdk_52_method_16_code 3 = .ok (.astore_n 3, 1) := by decide +kernel
theorem d_jdk_52_method_16_code_4 : decode jdk_52_method_16_code 4 = .ok (.aload_n 0, 1) := by decide +kernel
theorem d_jdk_52_method_16_code_5 : decode jdk_52_method_16_code 5 = .ok (.iload_n 1, 1) := by decide +kernel
theorem d_jdk_52_method_16_code_6 : decode jdk_52_method_16_code 6 = .ok (.aload_n 3, 1) := by decide +kernel
theorem d_jdk_52_method_16_code_7 : decode jdk_52_method_16_code 7 = .ok (.iconst 0, 1) := by decide +kernel
theorem d_jdk_52_method_16_code_8 : decode jdk_52_method_16_code 8 = .ok (.iload_n 2, 1) := by decide +kernel
theorem d_jdk_52_method_16_code_9 : decode jdk_52_method_16_code 9 = .ok (.invokestatic 115, 3) := by decide +kernel
theorem d_jdk_52_method_16_code_12 : decode jdk_52_method_16_code 12 = .ok (.istore 4, 2) := by decide +kernel
theorem d_jdk_52_method_16_code_14 : decode jdk_52_method_16_code 14 = .ok (.iload 4, 2) := by decide +kernel
theorem d_jdk_52_method_16_code_16 : decode jdk_52_method_16_code 16 = .ok (.iload_n 2, 1) := by decide +kernel
theorem d_jdk_52_method_16_code_17 : decode jdk_52_method_16_code 17 = .ok (.if_icmp .eq 40, 3) := by decide +kernel
theorem d_jdk_52_method_16_code_57 : decode jdk_52_method_16_code 57 = .ok (.aload_n 3, 1) := by decide +kernel
theorem d_jdk_52_method_16_code_58 : decode jdk_52_method_16_code 58 = .ok (.areturn, 1) := by decide +kernel
theorem d_jdk_52_method_21_code_0 : decode jdk_52_method_21_code 0 = .ok (.iconst 0, 1) := by decide +kernel
theorem d_jdk_52_method_21_code_1 : decode jdk_52_method_21_code 1 = .ok (.istore 5, 2) := by decide +kernel
theorem d_jdk_52_method_21_code_3 : decode jdk_52_method_21_code 3 = .ok (.iload 5, 2) := by decide +kernel
theorem d_jdk_52_method_21_code_5 : decode jdk_52_method_21_code 5 = .ok (.iload 4, 2) := by decide +kernel
theorem d_jdk_52_method_21_code_7 : decode jdk_52_method_21_code 7 = .ok (.if_icmp .ge 37, 3) := by decide +kernel
theorem d_jdk_52_method_21_code_10 : decode jdk_52_method_21_code 10 = .ok (.aload_n 0, 1) := by decide +kernel
theorem d_jdk_52_method_21_code_11 : decode jdk_52_method_21_code 11 = .ok (.iload_n 1, 1) := by decide +kernel
theorem d_jdk_52_method_21_code_12 : decode jdk_52_method_21_code 12 = .ok (.caload, 1) := by decide +kernel
theorem d_jdk_52_method_21_code_13 : decode jdk_52_method_21_code 13 = .ok (.istore 6, 2) := by decide +kernel
theorem d_jdk_52_method_21_code_15 : decode jdk_52_method_21_code 15 = .ok (.iload 6, 2) := by decide +kernel
theorem d_jdk_52_method_21_code_17 : decode jdk_52_method_21_code 17 = .ok (.sipush 255, 3) := by decide +kernel
theorem d_jdk_52_method_21_code_20 : decode jdk_52_method_21_code 20 = .ok (.if_icmp .le 6, 3) := by decide +kernel
theorem d_jdk_52_method_21_code_26 : decode jdk_52_method_21_code 26 = .ok (.aload_n 2, 1) := by decide +kernel
theorem d_jdk_52_method_21_code_27 : decode jdk_52_method_21_code 27 = .ok (.iload_n 3, 1) := by decide +kernel
theorem d_jdk_52_method_21_code_28 : decode jdk_52_method_21_code 28 = .ok (.iload 6, 2) := by decide +kernel
theorem d_jdk_52_method_21_code_30 : decode jdk_52_method_21_code 30 = .ok (.i2b, 1) := by decide +kernel
theorem d_jdk_52_method_21_code_31 : decode jdk_52_method_21_code 31 = .ok (.bastore, 1) := by decide +kernel
theorem d_jdk_52_method_21_code_32 : decode jdk_52_method_21_code 32 = .ok (.iinc 1 1, 3) := by decide +kernel
theorem d_jdk_52_method_21_code_35 : decode jdk_52_method_21_code 35 = .ok (.iinc 3 1, 3) := by decide +kernel
theorem d_jdk_52_method_21_code_38 : decode jdk_52_method_21_code 38 = .ok (.iinc 5 1, 3) := by decide +kernel
theorem d_jdk_52_method_21_code_41 : decode jdk_52_method_21_code 41 = .ok (.goto (-38), 3) := by decide +kernel
theorem d_jdk_52_method_21_code_44 : decode jdk_52_method_21_code 44 = .ok (.iload 4, 2) := by decide +kernel
theorem d_jdk_52_method_21_code_46 : decode jdk_52_method_21_code 46 = .ok (.ireturn, 1) := by decide +kernel
theorem d_method_2_code_0 : decode method_2_code 0 = .ok (.lload_n 0, 1) := by decide +kernel
theorem d_method_2_code_1 : decode method_2_code 1 = .ok (.iload_n 2, 1) := by decide +kernel
theorem d_method_2_code_2 : decode method_2_code 2 = .ok (.bipush 18, 2) := by decide +kernel
theorem d_method_2_code_4 : decode method_2_code 4 = .ok (.imul, 1) := by decide +kernel
theorem d_method_2_code_5 : decode method_2_code 5 = .ok (.lushr, 1) := by decide +kernel
theorem d_method_2_code_6 : decode method_2_code 6 = .ok (.ldc2_w 7, 3) := by decide +kernel
theorem d_method_2_code_9 : decode method_2_code 9 = .ok (.land, 1) := by decide +kernel
theorem d_method_2_code_10 : decode method_2_code 10 = .ok (.ldc2_w 7, 3) := by decide +kernel
theorem d_method_2_code_13 : decode method_2_code 13 = .ok (.lrem, 1) := by decide +kernel
theorem d_method_2_code_14 : decode method_2_code 14 = .ok (.l2i, 1) := by decide +kernel
theorem d_method_2_code_15 : decode method_2_code 15 = .ok (.ireturn, 1) := by decide +kernel
theorem d_method_3_code_0 : decode method_3_code 0 = .ok (.lload_n 0, 1) := by decide +kernel
theorem d_method_3_code_1 : decode method_3_code 1 = .ok (.iload_n 2, 1) := by decide +kernel
theorem d_method_3_code_2 : decode method_3_code 2 = .ok (.bipush 18, 2) := by decide +kernel
theorem d_method_3_code_4 : decode method_3_code 4 = .ok (.imul, 1) := by decide +kernel
theorem d_method_3_code_5 : decode method_3_code 5 = .ok (.iconst 2, 1) := by decide +kernel
theorem d_method_3_code_6 : decode method_3_code 6 = .ok (.iadd, 1) := by decide +kernel
theorem d_method_3_code_7 : decode method_3_code 7 = .ok (.bipush 8, 2) := by decide +kernel
theorem d_method_3_code_9 : decode method_3_code 9 = .ok (.iload_n 3, 1) := by decide +kernel
theorem d_method_3_code_10 : decode method_3_code 10 = .ok (.imul, 1) := by decide +kernel
theorem d_method_3_code_11 : decode method_3_code 11 = .ok (.iadd, 1) := by decide +kernel
theorem d_method_3_code_12 : decode method_3_code 12 = .ok (.lushr, 1) := by decide +kernel
theorem d_method_3_code_13 : decode method_3_code 13 = .ok (.ldc2_w 9, 3) := by decide +kernel
theorem d_method_3_code_16 : decode method_3_code 16 = .ok (.land, 1) := by decide +kernel
theorem d_method_3_code_17 : decode method_3_code 17 = .ok (.l2i, 1) := by decide +kernel
theorem d_method_3_code_18 : decode method_3_code 18 = .ok (.i2c, 1) := by decide +kernel
theorem d_method_3_code_19 : decode method_3_code 19 = .ok (.ireturn, 1) := by decide +kernel
theorem d_method_4_code_0 : decode method_4_code 0 = .ok (.lload_n 0, 1) := by decide +kernel
theorem d_method_4_code_1 : decode method_4_code 1 = .ok (.iload_n 2, 1) := by decide +kernel
theorem d_method_4_code_2 : decode method_4_code 2 = .ok (.invokestatic 11, 3) := by decide +kernel
theorem d_method_4_code_5 : decode method_4_code 5 = .ok (.istore_n 3, 1) := by decide +kernel
theorem d_method_4_code_6 : decode method_4_code 6 = .ok (.lload_n 0, 1) := by decide +kernel
theorem d_method_4_code_7 : decode method_4_code 7 = .ok (.iload_n 2, 1) := by decide +kernel
theorem d_method_4_code_8 : decode method_4_code 8 = .ok (.iconst 0, 1) := by decide +kernel
theorem d_method_4_code_9 : decode method_4_code 9 = .ok (.invokestatic 17, 3) := by decide +kernel
theorem d_method_4_code_12 : decode method_4_code 12 = .ok (.istore 4, 2) := by decide +kernel
theorem d_method_4_code_14 : decode method_4_code 14 = .ok (.lload_n 0, 1) := by decide +kernel
theorem d_method_4_code_15 : decode method_4_code 15 = .ok (.iload_n 2, 1) := by decide +kernel
theorem d_method_4_code_16 : decode method_4_code 16 = .ok (.iconst 1, 1) := by decide +kernel
theorem d_method_4_code_17 : decode method_4_code 17 = .ok (.invokestatic 17, 3) := by decide +kernel
theorem d_method_4_code_20 : decode method_4_code 20 = .ok (.istore 5, 2) := by decide +kernel
theorem d_method_4_code_22 : decode method_4_code 22 = .ok (.iload_n 3, 1) := by decide +kernel
theorem d_method_4_code_23 : decode method_4_code 23 = .ok (.ifCond .ne 14, 3) := by decide +kernel
theorem d_method_4_code_26 : decode method_4_code 26 = .ok (.new 21, 3) := by decide +kernel
theorem d_method_4_code_29 : decode method_4_code 29 = .ok (.dup, 1) := by decide +kernel
theorem d_method_4_code_30 : decode method_4_code 30 = .ok (.iconst 0, 1) := by decide +kernel
theorem d_method_4_code_31 : decode method_4_code 31 = .ok (.newarray .char, 2) := by decide +kernel
theorem d_method_4_code_33 : decode method_4_code 33 = .ok (.invokespecial 23, 3) := by decide +kernel
theorem d_method_4_code_36 : decode method_4_code 36 = .ok (.areturn, 1) := by decide +kernel
theorem d_method_4_code_37 : decode method_4_code 37 = .ok (.iload_n 3, 1) := by decide +kernel
theorem d_method_4_code_38 : decode method_4_code 38 = .ok (.iconst 1, 1) := by decide +kernel
theorem d_method_4_code_39 : decode method_4_code 39 = .ok (.if_icmp .ne 9, 3) := by decide +kernel
theorem d_method_4_code_42 : decode method_4_code 42 = .ok (.iload 4, 2) := by decide +kernel
theorem d_method_4_code_44 : decode method_4_code 44 = .ok (.invokestatic 26, 3) := by decide +kernel
theorem d_method_4_code_47 : decode method_4_code 47 = .ok (.areturn, 1) := by decide +kernel
theorem d_method_4_code_48 : decode method_4_code 48 = .ok (.new 21, 3) := by decide +kernel
theorem d_method_4_code_51 : decode method_4_code 51 = .ok (.dup, 1) := by decide +kernel
theorem d_method_4_code_52 : decode method_4_code 52 = .ok (.iconst 2, 1) := by decide +kernel
theorem d_method_4_code_53 : decode method_4_code 53 = .ok (.newarray .char, 2) := by decide +kernel
theorem d_method_4_code_55 : decode method_4_code 55 = .ok (.dup, 1) := by decide +kernel
theorem d_method_4_code_56 : decode method_4_code 56 = .ok (.iconst 0, 1) := by decide +kernel
theorem d_method_4_code_57 : decode method_4_code 57 = .ok (.iload 4, 2) := by decide +kernel
theorem d_method_4_code_59 : decode method_4_code 59 = .ok (.castore, 1) := by decide +kernel
theorem d_method_4_code_60 : decode method_4_code 60 = .ok (.dup, 1) := by decide +kernel
theorem d_method_4_code_61 : decode method_4_code 61 = .ok (.iconst 1, 1) := by decide +kernel
theorem d_method_4_code_62 : decode method_4_code 62 = .ok (.iload 5, 2) := by decide +kernel
theorem d_method_4_code_64 : decode method_4_code 64 = .ok (.castore, 1) := by decide +kernel
theorem d_method_4_code_65 : decode method_4_code 65 = .ok (.invokespecial 23, 3) := by decide +kernel
theorem d_method_4_code_68 : decode method_4_code 68 = .ok (.areturn, 1) := by decide +kernel
theorem d_method_5_code_0 : decode method_5_code 0 = .ok (.lload_n 0, 1) := by decide +kernel
theorem d_method_5_code_1 : decode method_5_code 1 = .ok (.iload 4, 2) := by decide +kernel
theorem d_method_5_code_3 : decode method_5_code 3 = .ok (.invokestatic 11, 3) := by decide +kernel
theorem d_method_5_code_6 : decode method_5_code 6 = .ok (.istore 5, 2) := by decide +kernel
theorem d_method_5_code_8 : decode method_5_code 8 = .ok (.lload_n 2, 1) := by decide +kernel
theorem d_method_5_code_9 : decode method_5_code 9 = .ok (.iload 4, 2) := by decide +kernel
theorem d_method_5_code_11 : decode method_5_code 11 = .ok (.invokestatic 11, 3) := by decide +kernel
theorem d_method_5_code_14 : decode method_5_code 14 = .ok (.istore 6, 2) := by decide +kernel
theorem d_method_5_code_16 : decode method_5_code 16 = .ok (.iload 5, 2) := by decide +kernel
theorem d_method_5_code_18 : decode method_5_code 18 = .ok (.iload 6, 2) := by decide +kernel
theorem d_method_5_code_20 : decode method_5_code 20 = .ok (.if_icmp .ne 53, 3) := by decide +kernel
theorem d_method_5_code_23 : decode method_5_code 23 = .ok (.iload 5, 2) := by decide +kernel
theorem d_method_5_code_25 : decode method_5_code 25 = .ok (.iconst 1, 1) := by decide +kernel
theorem d_method_5_code_26 : decode method_5_code 26 = .ok (.if_icmp .lt 20, 3) := by decide +kernel
theorem d_method_5_code_29 : decode method_5_code 29 = .ok (.lload_n 0, 1) := by decide +kernel
theorem d_method_5_code_30 : decode method_5_code 30 = .ok (.iload 4, 2) := by decide +kernel
theorem d_method_5_code_32 : decode method_5_code 32 = .ok (.iconst 0, 1) := by decide +kernel
theorem d_method_5_code_33 : decode method_5_code 33 = .ok (.invokestatic 17, 3) := by decide +kernel
theorem d_method_5_code_36 : decode method_5_code 36 = .ok (.lload_n 2, 1) := by decide +kernel
theorem d_method_5_code_37 : decode method_5_code 37 = .ok (.iload 4, 2) := by decide +kernel
theorem d_method_5_code_39 : decode method_5_code 39 = .ok (.iconst 0, 1) := by decide +kernel
theorem d_method_5_code_40 : decode method_5_code 40 = .ok (.invokestatic 17, 3) := by decide +kernel
theorem d_method_5_code_43 : decode method_5_code 43 = .ok (.if_icmp .ne 30, 3) := by decide +kernel
theorem d_method_5_code_46 : decode method_5_code 46 = .ok (.iload 5, 2) := by decide +kernel
theorem d_method_5_code_48 : decode method_5_code 48 = .ok (.iconst 2, 1) := by decide +kernel
theorem d_method_5_code_49 : decode method_5_code 49 = .ok (.if_icmp .lt 20, 3) := by decide +kernel
theorem d_method_5_code_52 : decode method_5_code 52 = .ok (.lload_n 0, 1) := by decide +kernel
theorem d_method_5_code_53 : decode method_5_code 53 = .ok (.iload 4, 2) := by decide +kernel
theorem d_method_5_code_55 : decode method_5_code 55 = .ok (.iconst 1, 1) := by decide +kernel
theorem d_method_5_code_56 : decode method_5_code 56 = .ok (.invokestatic 17, 3) := by decide +kernel
theorem d_method_5_code_59 : decode method_5_code 59 = .ok (.lload_n 2, 1) := by decide +kernel
theorem d_method_5_code_60 : decode method_5_code 60 = .ok (.iload 4, 2) := by decide +kernel
theorem d_method_5_code_62 : decode method_5_code 62 = .ok (.iconst 1, 1) := by decide +kernel
theorem d_method_5_code_63 : decode method_5_code 63 = .ok (.invokestatic 17, 3) := by decide +kernel
theorem d_method_5_code_66 : decode method_5_code 66 = .ok (.if_icmp .ne 7, 3) := by decide +kernel
theorem d_method_5_code_69 : decode method_5_code 69 = .ok (.iconst 1, 1) := by decide +kernel
theorem d_method_5_code_70 : decode method_5_code 70 = .ok (.goto 4, 3) := by decide +kernel
theorem d_method_5_code_73 : decode method_5_code 73 = .ok (.iconst 0, 1) := by decide +kernel
theorem d_method_5_code_74 : decode method_5_code 74 = .ok (.ireturn, 1) := by decide +kernel
theorem d_prog_26_method_1_code_0 : decode prog_26_method_1_code 0 = .ok (.aload_n 0, 1) := by decide +kernel
theorem d_prog_26_method_1_code_1 : decode prog_26_method_1_code 1 = .ok (.invokespecial 1, 3) := by decide +kernel
theorem d_prog_26_method_1_code_4 : decode prog_26_method_1_code 4 = .ok (.aload_n 0, 1) := by decide +kernel
theorem d_prog_26_method_1_code_5 : decode prog_26_method_1_code 5 = .ok (.aload_n 1, 1) := by decide +kernel
theorem d_prog_26_method_1_code_6 : decode prog_26_method_1_code 6 = .ok (.putfield 7, 3) := by decide +kernel
theorem d_prog_26_method_1_code_9 : decode prog_26_method_1_code 9 = .ok (.aload_n 0, 1) := by decide +kernel
theorem d_prog_26_method_1_code_10 : decode prog_26_method_1_code 10 = .ok (.aload_n 2, 1) := by decide +kernel
theorem d_prog_26_method_1_code_11 : decode prog_26_method_1_code 11 = .ok (.putfield 13, 3) := by decide +kernel
theorem d_prog_26_method_1_code_14 : decode prog_26_method_1_code 14 = .ok (.aload_n 0, 1) := by decide +kernel
theorem d_prog_26_method_1_code_15 : decode prog_26_method_1_code 15 = .ok (.aload_n 3, 1) := by decide +kernel
theorem d_prog_26_method_1_code_16 : decode prog_26_method_1_code 16 = .ok (.putfield 16, 3) := by decide +kernel
theorem d_prog_26_method_1_code_19 : decode prog_26_method_1_code 19 = .ok (.return_, 1) := by decide +kernel
theorem d_prog_26_method_6_code_0 : decode prog_26_method_6_code 0 = .ok (.aload_n 1, 1) := by decide +kernel
theorem d_prog_26_method_6_code_1 : decode prog_26_method_6_code 1 = .ok (.instanceof 8, 3) := by decide +kernel
theorem d_prog_26_method_6_code_4 : decode prog_26_method_6_code 4 = .ok (.ifCond .eq 54, 3) := by decide +kernel
theorem d_prog_26_method_6_code_7 : decode prog_26_method_6_code 7 = .ok (.aload_n 1, 1) := by decide +kernel
theorem d_prog_26_method_6_code_8 : decode prog_26_method_6_code 8 = .ok (.checkcast 8, 3) := by decide +kernel
theorem d_prog_26_method_6_code_11 : decode prog_26_method_6_code 11 = .ok (.astore_n 2, 1) := by decide +kernel
theorem d_prog_26_method_6_code_12 : decode prog_26_method_6_code 12 = .ok (.aload_n 0, 1) := by decide +kernel
theorem d_prog_26_method_6_code_13 : decode prog_26_method_6_code 13 = .ok (.getfield 7, 3) := by decide +kernel
theorem d_prog_26_method_6_code_16 : decode prog_26_method_6_code 16 = .ok (.aload_n 2, 1) := by decide +kernel
theorem d_prog_26_method_6_code_17 : decode prog_26_method_6_code 17 = .ok (.getfield 7, 3) := by decide +kernel
theorem d_prog_26_method_6_code_20 : decode prog_26_method_6_code 20 = .ok (.invokevirtual 47, 3) := by decide +kernel
theorem d_prog_26_method_6_code_23 : decode prog_26_method_6_code 23 = .ok (.ifCond .eq 35, 3) := by decide +kernel
theorem d_prog_26_method_6_code_26 : decode prog_26_method_6_code 26 = .ok (.aload_n 0, 1) := by decide +kernel
theorem d_prog_26_method_6_code_27 : decode prog_26_method_6_code 27 = .ok (.getfield 13, 3) := by decide +kernel
theorem d_prog_26_method_6_code_30 : decode prog_26_method_6_code 30 = .ok (.aload_n 2, 1) := by decide +kernel
theorem d_prog_26_method_6_code_31 : decode prog_26_method_6_code 31 = .ok (.getfield 13, 3) := by decide +kernel
theorem d_prog_26_method_6_code_34 : decode prog_26_method_6_code 34 = .ok (.invokevirtual 47, 3) := by decide +kernel
theorem d_prog_26_method_6_code_37 : decode prog_26_method_6_code 37 = .ok (.ifCond .eq 21, 3) := by decide +kernel
theorem d_prog_26_method_6_code_40 : decode prog_26_method_6_code 40 = .ok (.aload_n 0, 1) := by decide +kernel
theorem d_prog_26_method_6_code_41 : decode prog_26_method_6_code 41 = .ok (.getfield 16, 3) := by decide +kernel
theorem d_prog_26_method_6_code_44 : decode prog_26_method_6_code 44 = .ok (.aload_n 2, 1) := by decide +kernel
theorem d_prog_26_method_6_code_45 : decode prog_26_method_6_code 45 = .ok (.getfield 16, 3) := by decide +kernel
theorem d_prog_26_method_6_code_48 : decode prog_26_method_6_code 48 = .ok (.invokevirtual 47, 3) := by decide +kernel
theorem d_prog_26_method_6_code_51 : decode prog_26_method_6_code 51 = .ok (.ifCond .eq 7, 3) := by decide +kernel
theorem d_prog_26_method_6_code_54 : decode prog_26_method_6_code 54 = .ok (.iconst 1, 1) := by decide +kernel
theorem d_prog_26_method_6_code_55 : decode prog_26_method_6_code 55 = .ok (.goto 4, 3) := by decide +kernel
theorem d_prog_26_method_6_code_58 : decode prog_26_method_6_code 58 = .ok (.iconst 0, 1) := by decide +kernel
theorem d_prog_26_method_6_code_59 : decode prog_26_method_6_code 59 = .ok (.ireturn, 1) := by decide +kernel
theorem own_toInt {i : Nat} (h : i < 2147483648) : i.toInt32.toInt = i := len_toInt (by omega)
theorem own_clamp {i : Nat} (h : i < 2147483648) : i.toInt32.toNatClampNeg = i := by
  simp only [Int32.toNatClampNeg]
  rw [own_toInt h]
  omega
theorem own_ltn {i n : Nat} (hi : i < 2147483648) (hn : n < 2147483648) : i.toInt32 < n.toInt32 ↔ i < n := by
  rw [Int32.lt_iff_toInt_lt, own_toInt hi, own_toInt hn]
  omega
theorem own_inb {i n : Nat} (h : i < n) (hn : n < 2147483648) : ¬ i.toInt32 < 0 ∧ i.toInt32 < n.toInt32 := by
  refine ⟨?_, (own_ltn (by omega) hn).mpr h⟩
  rw [Int32.lt_iff_toInt_lt, own_toInt (by omega)]
  have e0 : (0 : Int32).toInt = 0 := rfl
  omega
theorem own_incN {i : Nat} (h : i < 2147483647) : i.toInt32 + 1 = (i + 1).toInt32 := by
  rw [← Int32.toInt_inj, own_toInt (i := i + 1) (by omega)]
  have a := c_iadd i.toInt32 1
  have r := rng32 (i.toInt32 + 1)
  have e1 : (1 : Int32).toInt = 1 := rfl
  rw [own_toInt (i := i) (by omega), e1] at a
  omega
theorem own_getD (bs : List Int32) (i : Nat) : (bs.map Value.int).getD i (.int 0) = .int (bs.getD i 0) := by
  simp only [List.getD_eq_getElem?_getD, List.getElem?_map]
  cases bs[i]? <;> rfl
theorem own_at {bs : List Int32} {i : Nat} (h : i < 2147483648) : (bs.map Value.int).getD i.toInt32.toNatClampNeg (.int 0) = .int (bs.getD i 0) := by
  rw [own_clamp h, own_getD]
theorem own_take {a b : List Int32} {i : Nat} (h : a.take i = b.take i) (ha : i < a.length) (hb : i < b.length) (q : a.getD i 0 = b.getD i 0) : a.take (i + 1) = b.take (i + 1) := by
  rw [List.take_add_one, List.take_add_one, h]
  simp only [List.getD_eq_getElem?_getD, List.getElem?_eq_getElem ha, List.getElem?_eq_getElem hb, Option.getD_some] at q
  rw [List.getElem?_eq_getElem ha, List.getElem?_eq_getElem hb, q]
theorem own_sub {i n : Nat} (h : i ≤ n) (hn : n < 2147483648) : n.toInt32 - i.toInt32 = (n - i).toInt32 := by
  rw [← Int32.toInt_inj, own_toInt (i := n - i) (by omega)]
  have a := c_isub n.toInt32 i.toInt32
  have r := rng32 (n.toInt32 - i.toInt32)
  rw [own_toInt (i := i) (by omega), own_toInt hn] at a
  omega
/-- the byte of a char -/
def own_b (c : Int32) : Int32 := c.toInt8.toInt32
theorem own_byte (c : Int32) : nar .byte (c.toInt8.toInt32) = own_b c := by
  show (c.toInt8.toInt32).toInt8.toInt32 = c.toInt8.toInt32
  have q := Jvm.Free.XT.narrow_b c
  exact Value.int.inj q
/-- the String at a, its bytes at t -/
def StrAt (Z : State) (h : Heap) (a t : Addr) (kb : ClassId) (bs : List Int32) : Prop := Exa Z h a "java/lang/String" ∧ Fld Z h a "java/lang/String" "coder" "B" (.int 0) ∧ Fld Z h a "java/lang/String" "value" "[B" (.ref t) ∧ Arv Z h t kb .byte bs.length.toInt32 (bs.map Value.int) (.int 0) ∧ bs.length < 100
section
variable {Z : State} {h h' : Heap} {a t b : Addr} {kb : ClassId} {bs : List Int32} {ws : List Addr} {sl : Nat} {v : Value}
theorem StrAt.ext (F : StrAt Z h a t kb bs) (E : Ext h h') : StrAt Z h' a t kb bs := ⟨F.1.ext E, F.2.1.ext E, F.2.2.1.ext E, F.2.2.2.1.ext E, F.2.2.2.2⟩
theorem StrAt.keep (F : StrAt Z h a t kb bs) (K : Keep h h' ws) (qa : a ∉ ws) (qt : t ∉ ws) : StrAt Z h' a t kb bs := ⟨F.1.keep K, F.2.1.keep K qa, F.2.2.1.keep K qa, F.2.2.2.1.keep K qt, F.2.2.2.2⟩
theorem StrAt.other (F : StrAt Z h a t kb bs) (W : Wr h h' b sl v) (qa : a ≠ b) (qt : t ≠ b) : StrAt Z h' a t kb bs := ⟨F.1.wr W, F.2.1.other W (Or.inl qa), F.2.2.1.other W (Or.inl qa), F.2.2.2.1.other W qt, F.2.2.2.2⟩
theorem StrAt.lt (F : StrAt Z h a t kb bs) : a < h.size := F.1.lt
theorem StrAt.lt2 (F : StrAt Z h a t kb bs) : t < h.size := F.2.2.2.1.lt
end
set_option maxRecDepth 65536 in
set_option maxHeartbeats 4000000 in
theorem own_l1loop {p : Program} {l : Launch} {e : Env} {s : State} {m : MethodId} {args : Array Value} {below : List Frame} {meth : Method} {co : Code} {Z : State} {a0 : Array Value} (hw : HW Z a0) (t1 t2 : Addr) (k1 k2 : ClassId) (xs ys : List Int32) (hx : xs.length < 2147483647) (hy : ys.length < 2147483647) (hl : xs.length = ys.length) (n : Nat) {h0 : Heap} {T : State} {locs : List Loc} (S : St p l e ({ frames := 0, cells := 0, slots := 0, locals := 0 } : Room) s m args below meth co Z "java/lang/StringLatin1" jdk_43_method_13_code 3 (some .boolean) "equals" h0 [] T h0 locs 0 0) (V1 : Arv Z h0 t1 k1 .byte xs.length.toInt32 (xs.map Value.int) (.int 0)) (V2 : Arv Z h0 t2 k2 .byte ys.length.toInt32 (ys.map Value.int) (.int 0)) :
    ∀ i : Nat, i + n = xs.length → xs.take i = ys.take i → Go p e below (PostOf Z s h0 [] ({ frames := 0, cells := 0, slots := 0, locals := 0 } : Room).cells ({ frames := 0, cells := 0, slots := 0, locals := 0 } : Room).slots (fun v h => v = some (.int (if xs = ys then 1 else 0)) ∧ h0 = h)) T (mkF m 9 #[.val (.ref t1), .val (.ref t2), .val (.int i.toInt32)] []) := by
  induction n with
  | zero =>
    intro i hn ht
    refine Go.iloadN S d_jdk_43_method_13_code_9 rfl (pc' := 10) rfl ?_
    refine Go.aloadN S d_jdk_43_method_13_code_10 rfl rfl (pc' := 11) rfl ?_
    refine Go.arraylength S V1 d_jdk_43_method_13_code_11 (pc' := 12) rfl ?_
    refine Go.icmp_ge S d_jdk_43_method_13_code_12 (pt := 32) (by decide) (pc' := 15) rfl ?_ ?_
    · intro c12
      refine Go.iconst S (v := 1) d_jdk_43_method_13_code_32 rfl (pc' := 33) rfl ?_
      exact Go.zreturn S rfl (by decide) d_jdk_43_method_13_code_33 (z' := (1 : Int32)) rfl (by decide) (by decide) (⟨by rw [if_pos (by rw [List.take_of_length_le (by omega), List.take_of_length_le (by omega)] at ht; exact ht)], rfl⟩)
    · intro c12; exact absurd c12 (fun q => absurd ((own_ltn (by omega) (by omega)).mp q) (by omega))
  | succ n ih =>
    intro i hn ht
    have hi : i < xs.length := by omega
    refine Go.iloadN S d_jdk_43_method_13_code_9 rfl (pc' := 10) rfl ?_
    refine Go.aloadN S d_jdk_43_method_13_code_10 rfl rfl (pc' := 11) rfl ?_
    refine Go.arraylength S V1 d_jdk_43_method_13_code_11 (pc' := 12) rfl ?_
    refine Go.icmp_ge S d_jdk_43_method_13_code_12 (pt := 32) (by decide) (pc' := 15) rfl ?_ ?_
    · intro c12; exact absurd ((own_ltn (by omega) (by omega)).mpr hi) c12
    · intro c12
      refine Go.aloadN S d_jdk_43_method_13_code_15 rfl rfl (pc' := 16) rfl ?_
      refine Go.iloadN S d_jdk_43_method_13_code_16 rfl (pc' := 17) rfl ?_
      refine Go.baload S V1 (own_inb hi (by omega)) (v := (.int (xs.getD i 0))) (own_at (i := i) (by omega)) d_jdk_43_method_13_code_17 (pc' := 18) rfl ?_
      refine Go.aloadN S d_jdk_43_method_13_code_18 rfl rfl (pc' := 19) rfl ?_
      refine Go.iloadN S d_jdk_43_method_13_code_19 rfl (pc' := 20) rfl ?_
      refine Go.baload S V2 (own_inb (hl ▸ hi) (by omega)) (v := (.int (ys.getD i 0))) (own_at (i := i) (by omega)) d_jdk_43_method_13_code_20 (pc' := 21) rfl ?_
      refine Go.icmp_eq S d_jdk_43_method_13_code_21 (pt := 26) (by decide) (pc' := 24) rfl ?_ ?_
      · intro c21
        refine Go.iinc S d_jdk_43_method_13_code_26 rfl (Ls' := #[.val (.ref t1), .val (.ref t2), .val (.int (i.toInt32 + (1 : Int32)))]) rfl (pc' := 29) rfl ?_
        refine Go.goto S d_jdk_43_method_13_code_29 (pc' := 9) (by decide) ?_
        rw [own_incN (by omega)]
        exact ih _ (by omega) (own_take ht hi (hl ▸ hi) c21)
      · intro c21
        refine Go.iconst S (v := 0) d_jdk_43_method_13_code_24 rfl (pc' := 25) rfl ?_
        exact Go.zreturn S rfl (by decide) d_jdk_43_method_13_code_25 (z' := (0 : Int32)) rfl (by decide) (by decide) (⟨by rw [if_neg (fun q => c21 (by rw [q]))], rfl⟩)
set_option maxRecDepth 65536 in
set_option maxHeartbeats 4000000 in
theorem rm_l1eq {l : Launch} {Z : State} {a0 : Array Value} (hw : HW Z a0) (t1 : Addr) (t2 : Addr) (k1 k2 : ClassId) (xs ys : List Int32) (hx : xs.length < 2147483647) (hy : ys.length < 2147483647) {h0 : Heap} (hE : Ext Z.heap h0) (V1 : Arv Z h0 t1 k1 .byte xs.length.toInt32 (xs.map Value.int) (.int 0)) (V2 : Arv Z h0 t2 k2 .byte ys.length.toInt32 (ys.map Value.int) (.int 0)) :
    OMeets l Z (⟨"java/lang/StringLatin1", "equals", "([B[B)Z"⟩ : MethodName) jdk_43_method_13_code 3 (some .boolean) ({ frames := 0, cells := 0, slots := 0, locals := 0 } : Room) #[(.ref t1), (.ref t2)] h0 [] (fun v h => v = some (.int (if xs = ys then 1 else 0)) ∧ h0 = h) := by
  refine OMeets.body (plainFor_of_name pn0) hE #[.val (.ref t1), .val (.ref t2), .unset] (fun m => by first | rfl | (simp [entryFrame, mkF, argsToLocals, Value.category, maxLocals]; done)) ?_
  intro p e s m below meth co T S
  refine Go.aloadN S d_jdk_43_method_13_code_0 rfl rfl (pc' := 1) rfl ?_
  refine Go.arraylength S V1 d_jdk_43_method_13_code_1 (pc' := 2) rfl ?_
  refine Go.aloadN S d_jdk_43_method_13_code_2 rfl rfl (pc' := 3) rfl ?_
  refine Go.arraylength S V2 d_jdk_43_method_13_code_3 (pc' := 4) rfl ?_
  refine Go.icmp_ne S d_jdk_43_method_13_code_4 (pt := 34) (by decide) (pc' := 7) rfl ?_ ?_
  · intro c4
    refine Go.iconst S (v := 0) d_jdk_43_method_13_code_34 rfl (pc' := 35) rfl ?_
    exact Go.zreturn S rfl (by decide) d_jdk_43_method_13_code_35 (z' := (0 : Int32)) rfl (by decide) (by decide) (⟨by rw [if_neg (fun q => c4 (by rw [q]))], rfl⟩)
  · intro c4
    refine Go.iconst S (v := 0) d_jdk_43_method_13_code_7 rfl (pc' := 8) rfl ?_
    refine Go.istoreN S d_jdk_43_method_13_code_8 (Ls' := #[.val (.ref t1), .val (.ref t2), .val (.int (0 : Int32))]) rfl (pc' := 9) rfl ?_
    have hl : xs.length = ys.length := by
      have q := congrArg Int32.toInt c4
      rw [own_toInt (by omega), own_toInt (by omega)] at q
      omega
    exact own_l1loop hw t1 t2 k1 k2 xs ys hx hy hl xs.length S V1 V2 0 (by omega) (by simp)
theorem StrAt.inj {Z : State} {h : Heap} {a t1 t2 : Addr} {k1 k2 : ClassId} {xs ys : List Int32} (A1 : StrAt Z h a t1 k1 xs) (A2 : StrAt Z h a t2 k2 ys) : xs = ys := by
  have ht : t1 = t2 := by
    obtain ⟨c1, cf1, kk1, i1, f1, g1, g2, -, -, -, -, g7⟩ := A1.2.2.1
    obtain ⟨c2, cf2, kk2, i2, f2, e1, e2, -, -, -, -, e7⟩ := A2.2.2.1
    cases g1.symm.trans e1
    cases g2.symm.trans e2
    exact Value.ref.inj (Option.some.inj (g7.symm.trans e7))
  subst ht
  obtain ⟨c1, X1, -, s1, -, H1, -⟩ := A1.2.2.2.1
  obtain ⟨c2, X2, -, s2, -, H2, -⟩ := A2.2.2.2.1
  cases X1.1.symm.trans X2.1
  have l1 := A1.2.2.2.2
  have l2 := A2.2.2.2.2
  rw [own_clamp (by omega)] at s1 s2
  apply List.ext_getElem (by omega)
  intro i h1 h2
  have q := (H1 i (by omega)).symm.trans (H2 i (by omega))
  rw [own_getD, own_getD] at q
  have q' := Value.int.inj (Option.some.inj q)
  simpa [List.getD_eq_getElem?_getD, List.getElem?_eq_getElem h1, List.getElem?_eq_getElem h2] using q'
set_option maxRecDepth 65536 in
set_option maxHeartbeats 4000000 in
theorem rm_streq {l : Launch} {Z : State} {a0 : Array Value} (hw : HW Z a0) (a1 : Addr) (a2 : Addr) (t1 t2 : Addr) (k1 k2 : ClassId) (xs ys : List Int32) (cs : Int32) {h0 : Heap} (hE : Ext Z.heap h0) (A1 : StrAt Z h0 a1 t1 k1 xs) (A2 : StrAt Z h0 a2 t2 k2 ys) (Cs : Sta Z Z.heap "java/lang/String" "COMPACT_STRINGS" "Z" (.int cs)) (Cn : ¬ cs = 0) :
    OMeets l Z (⟨"java/lang/String", "equals", "(Ljava/lang/Object;)Z"⟩ : MethodName) jdk_42_method_66_code 3 (some .boolean) ({ frames := 1, cells := 0, slots := 0, locals := 14 } : Room) #[(.ref a1), (.ref a2)] h0 [] (fun v h => v = some (.int (if xs = ys then 1 else 0)) ∧ h0 = h) := by
  refine OMeets.body (plainFor_of_name pn1) hE #[.val (.ref a1), .val (.ref a2), .unset] (fun m => by first | rfl | (simp [entryFrame, mkF, argsToLocals, Value.category, maxLocals]; done)) ?_
  intro p e s m below meth co T S
  refine Go.aloadN S d_jdk_42_method_66_code_0 rfl rfl (pc' := 1) rfl ?_
  refine Go.aloadN S d_jdk_42_method_66_code_1 rfl rfl (pc' := 2) rfl ?_
  refine Go.acmp_ne S d_jdk_42_method_66_code_2 (pt := 7) (by decide) (pc' := 5) rfl rfl rfl ?_ ?_
  · intro c2
    refine Go.aloadN S d_jdk_42_method_66_code_7 rfl rfl (pc' := 8) rfl ?_
    refine Go.instanceofY S (wd42 hw) (Ins.self A2.1) d_jdk_42_method_66_code_8 (pc' := 11) rfl ?_
    intro T1 S1
    refine Go.if_eq S1 d_jdk_42_method_66_code_11 (pt := 54) (by decide) (pc' := 14) rfl ?_ ?_
    · intro c11; exact absurd c11 (by decide)
    · intro c11
      refine Go.aloadN S1 d_jdk_42_method_66_code_14 rfl rfl (pc' := 15) rfl ?_
      refine Go.checkcast S1 (wd42 hw) (Ins.self A2.1) d_jdk_42_method_66_code_15 (pc' := 18) rfl ?_
      intro T2 S2
      refine Go.astoreN S2 d_jdk_42_method_66_code_18 rfl (Ls' := #[.val (.ref a1), .val (.ref a2), .val (.ref a2)]) rfl (pc' := 19) rfl ?_
      refine Go.getstatic S2 (host := "") (Or.inl (wd37 hw)) Via.refl Cs d_jdk_42_method_66_code_19 (pc' := 22) rfl ?_
      intro T3 S3
      refine Go.if_eq S3 d_jdk_42_method_66_code_22 (pt := 36) (by decide) (pc' := 25) rfl ?_ ?_
      · intro c22; exact absurd c22 Cn
      · intro c22
        refine Go.aloadN S3 d_jdk_42_method_66_code_25 rfl rfl (pc' := 26) rfl ?_
        refine Go.getfield S3 (host := "") (Or.inl (wd33 hw)) Via.refl A1.2.1 d_jdk_42_method_66_code_26 (pc' := 29) rfl ?_
        intro T4 S4
        refine Go.aloadN S4 d_jdk_42_method_66_code_29 rfl rfl (pc' := 30) rfl ?_
        refine Go.getfield S4 (host := "") (Or.inl (wd33 hw)) Via.refl A2.2.1 d_jdk_42_method_66_code_30 (pc' := 33) rfl ?_
        intro T5 S5
        refine Go.icmp_ne S5 d_jdk_42_method_66_code_33 (pt := 54) (by decide) (pc' := 36) rfl ?_ ?_
        · intro c33; exact absurd (by decide) c33
        · intro c33
          refine Go.aloadN S5 d_jdk_42_method_66_code_36 rfl rfl (pc' := 37) rfl ?_
          refine Go.getfield S5 (host := "") (Or.inl (wd32 hw)) Via.refl A1.2.2.1 d_jdk_42_method_66_code_37 (pc' := 40) rfl ?_
          intro T6 S6
          refine Go.aloadN S6 d_jdk_42_method_66_code_40 rfl rfl (pc' := 41) rfl ?_
          refine Go.getfield S6 (host := "") (Or.inl (wd32 hw)) Via.refl A2.2.2.1 d_jdk_42_method_66_code_41 (pc' := 44) rfl ?_
          intro T7 S7
          refine Go.invokestatic S7 (y := ⟨"java/lang/StringLatin1", "equals", "([B[B)Z"⟩) (rm_l1eq hw t1 t2 k1 k2 xs ys (by have := A1.2.2.2.2; omega) (by have := A2.2.2.2.2; omega) S7.ext A1.2.2.2.1 A2.2.2.2.1) (wd77 hw) (wd78 hw) (wd40 hw) (wd79 hw) (by decide) d_jdk_42_method_66_code_44 rfl pd0 (argsL := [(.ref t1), (.ref t2)]) rfl rfl rfl (by decide) (W := 0) rfl (by decide) (by decide) (by decide) all0 (pc' := 47) rfl ?_
          intro v8 T8 h8 L8 S8 K8 q8
          obtain ⟨rfl, rfl⟩ := q8
          show Go _ _ _ _ T8 (mkF m 47 #[.val (.ref a1), .val (.ref a2), .val (.ref a2)] [(.int (if xs = ys then 1 else 0 : Int32))])
          refine Go.if_eq S8 d_jdk_42_method_66_code_47 (pt := 54) (by decide) (pc' := 50) rfl ?_ ?_
          · intro c47
            refine Go.iconst S8 (v := 0) d_jdk_42_method_66_code_54 rfl (pc' := 55) rfl ?_
            exact Go.zreturn S8 rfl (by decide) d_jdk_42_method_66_code_55 (z' := (0 : Int32)) rfl (by decide) (by decide) (⟨by rw [if_neg (fun q => by rw [if_pos q] at c47; exact absurd c47 (by decide))], rfl⟩)
          · intro c47
            refine Go.iconst S8 (v := 1) d_jdk_42_method_66_code_50 rfl (pc' := 51) rfl ?_
            refine Go.goto S8 d_jdk_42_method_66_code_51 (pc' := 55) (by decide) ?_
            exact Go.zreturn S8 rfl (by decide) d_jdk_42_method_66_code_55 (z' := (1 : Int32)) rfl (by decide) (by decide) (⟨by rw [if_pos (Classical.byContradiction fun q => c47 (by rw [if_neg q]))], rfl⟩)
  · intro c2
    refine Go.iconst S (v := 1) d_jdk_42_method_66_code_5 rfl (pc' := 6) rfl ?_
    obtain rfl := Value.ref.inj c2
    have hxy := StrAt.inj A1 A2
    exact Go.zreturn S rfl (by decide) d_jdk_42_method_66_code_6 (z' := (1 : Int32)) rfl (by decide) (by decide) (⟨by rw [if_pos hxy], rfl⟩)
/-- the bytes written so far -/
def own_dst (cl : List Int32) (i : Nat) : List Value := (List.range cl.length).map fun k => if k < i then Value.int (own_b (cl.getD k 0)) else .int 0
theorem own_dst_len (cl : List Int32) (i : Nat) : (own_dst cl i).length = cl.length := by simp [own_dst]
theorem own_dst_set (cl : List Int32) {i : Nat} (h : i < cl.length) : (own_dst cl i).set i (.int (own_b (cl.getD i 0))) = own_dst cl (i + 1) := by
  apply List.ext_getElem
  · simp [own_dst]
  · intro k h1 h2
    rw [List.getElem_set]
    simp only [own_dst, List.getElem_map, List.getElem_range]
    by_cases q : i = k
    · subst q
      simp
    · simp only [q, if_false]
      by_cases r : k < i
      · simp [r, show k < i + 1 by omega]
      · simp [r, show ¬ k < i + 1 by omega]
theorem own_dst_end (cl : List Int32) : own_dst cl cl.length = (cl.map own_b).map Value.int := by
  apply List.ext_getElem
  · simp [own_dst]
  · intro k h1 h2
    have h3 : k < cl.length := by simpa [own_dst] using h1
    simp [own_dst, h3, List.getD_eq_getElem?_getD]
theorem own_dst_zero (cl : List Int32) : ∀ n i : Nat, (own_dst cl 0).getD i (.int 0) = (List.replicate n (Value.int 0)).getD i (.int 0) := by
  intro n i
  have e1 : (own_dst cl 0)[i]? = none ∨ (own_dst cl 0)[i]? = some (.int 0) := by
    simp only [own_dst, List.getElem?_map, Nat.not_lt_zero, if_false]
    cases (List.range cl.length)[i]? <;> simp
  have e2 : (List.replicate n (Value.int 0))[i]? = none ∨ (List.replicate n (Value.int 0))[i]? = some (.int 0) := by
    rw [List.getElem?_replicate]
    split <;> simp
  simp only [List.getD_eq_getElem?_getD]
  rcases e1 with e1 | e1 <;> rcases e2 with e2 | e2 <;> rw [e1, e2] <;> rfl
theorem own_st6 {v0 v2 : Addr} {v1 v3 v4 v5 w : Int32} {sl : Slot} (h : One sl) : storeLocals #[.val (.ref v0), .val (.int v1), .val (.ref v2), .val (.int v3), .val (.int v4), .val (.int v5), sl] 6 (.int w) = some #[.val (.ref v0), .val (.int v1), .val (.ref v2), .val (.int v3), .val (.int v4), .val (.int v5), .val (.int w)] := by
  rcases h with rfl | ⟨w, rfl, hw⟩
  · rfl
  · cases w <;> first | rfl | (simp [Value.category] at hw)
theorem own_mem {cl : List Int32} {i : Nat} (h : i < cl.length) : cl.getD i 0 ∈ cl := by
  rw [List.getD_eq_getElem?_getD, List.getElem?_eq_getElem h]
  exact List.getElem_mem h
set_option maxRecDepth 65536 in
set_option maxHeartbeats 4000000 in
theorem own_comploop {p : Program} {l : Launch} {e : Env} {s : State} {m : MethodId} {args : Array Value} {below : List Frame} {meth : Method} {co : Code} {Z : State} {a0 : Array Value} (hw : HW Z a0) (a d : Addr) (ka kd : ClassId) (cl : List Int32) (hl : cl.length < 2147483647) (hc : ∀ z ∈ cl, ¬ 255 < z) {h0 : Heap} (hz : Z.heap.size ≤ d) (had : a ≠ d) (n : Nat) : ∀ (i : Nat) (sl : Slot), One sl → ∀ (T : State) (h : Heap) (locs : List Loc), St p l e ({ frames := 0, cells := 0, slots := 0, locals := 0 } : Room) s m args below meth co Z "java/lang/StringUTF16" jdk_52_method_21_code 7 (some .int) "compress" h0 [d] T h locs 0 0 → Arv Z h a ka .char cl.length.toInt32 (cl.map Value.int) (.int 0) → Arv Z h d kd .byte cl.length.toInt32 (own_dst cl i) (.int 0) → i + n = cl.length → Go p e below (PostOf Z s h0 [d] ({ frames := 0, cells := 0, slots := 0, locals := 0 } : Room).cells ({ frames := 0, cells := 0, slots := 0, locals := 0 } : Room).slots (fun v h => v = some (.int cl.length.toInt32) ∧ Arv Z h d kd .byte cl.length.toInt32 ((cl.map own_b).map Value.int) (.int 0))) T (mkF m 3 #[.val (.ref a), .val (.int i.toInt32), .val (.ref d), .val (.int i.toInt32), .val (.int cl.length.toInt32), .val (.int i.toInt32), sl] []) := by
  induction n with
  | zero =>
    intro i sl hsl T h locs S VS VT hn
    refine Go.iload S d_jdk_52_method_21_code_3 rfl (pc' := 5) rfl ?_
    refine Go.iload S d_jdk_52_method_21_code_5 rfl (pc' := 7) rfl ?_
    refine Go.icmp_ge S d_jdk_52_method_21_code_7 (pt := 44) (by decide) (pc' := 10) rfl ?_ ?_
    · intro c7
      refine Go.iload S d_jdk_52_method_21_code_44 rfl (pc' := 46) rfl ?_
      exact Go.ireturn S rfl d_jdk_52_method_21_code_46 (by decide) (by decide) (⟨rfl, by rw [show i = cl.length by omega, own_dst_end] at VT; exact VT⟩)
    · intro c7; exact absurd c7 (fun q => absurd ((own_ltn (by omega) (by omega)).mp q) (by omega))
  | succ n ih =>
    intro i sl hsl T h locs S VS VT hn
    have hi : i < cl.length := by omega
    refine Go.iload S d_jdk_52_method_21_code_3 rfl (pc' := 5) rfl ?_
    refine Go.iload S d_jdk_52_method_21_code_5 rfl (pc' := 7) rfl ?_
    refine Go.icmp_ge S d_jdk_52_method_21_code_7 (pt := 44) (by decide) (pc' := 10) rfl ?_ ?_
    · intro c7; exact absurd ((own_ltn (by omega) (by omega)).mpr hi) c7
    · intro c7
      refine Go.aloadN S d_jdk_52_method_21_code_10 rfl rfl (pc' := 11) rfl ?_
      refine Go.iloadN S d_jdk_52_method_21_code_11 rfl (pc' := 12) rfl ?_
      refine Go.caload S VS (own_inb hi (by omega)) (v := (.int (cl.getD i 0))) (own_at (i := i) (by omega)) d_jdk_52_method_21_code_12 (pc' := 13) rfl ?_
      refine Go.istore S d_jdk_52_method_21_code_13 (Ls' := #[.val (.ref a), .val (.int i.toInt32), .val (.ref d), .val (.int i.toInt32), .val (.int cl.length.toInt32), .val (.int i.toInt32), .val (.int (cl.getD i 0))]) (own_st6 hsl) (pc' := 15) rfl ?_
      refine Go.iload S d_jdk_52_method_21_code_15 rfl (pc' := 17) rfl ?_
      refine Go.sipush S (v := 255) d_jdk_52_method_21_code_17 rfl (pc' := 20) rfl ?_
      refine Go.icmp_le S d_jdk_52_method_21_code_20 (pt := 26) (by decide) (pc' := 23) rfl ?_ ?_
      · intro c20
        refine Go.aloadN S d_jdk_52_method_21_code_26 rfl rfl (pc' := 27) rfl ?_
        refine Go.iloadN S d_jdk_52_method_21_code_27 rfl (pc' := 28) rfl ?_
        refine Go.iload S d_jdk_52_method_21_code_28 rfl (pc' := 30) rfl ?_
        refine Go.i2b S d_jdk_52_method_21_code_30 (pc' := 31) rfl ?_
        refine Go.bastore S VT (own_inb hi (by omega)) (i := i) (own_clamp (by omega)) (by rw [own_dst_len]; exact hi) hz (Or.inl (List.mem_singleton.mpr rfl)) d_jdk_52_method_21_code_31 (pc' := 32) rfl ?_
        intro T1 h1 L1 S1 W1 V1
        rw [own_byte, own_dst_set cl hi] at V1
        have U1 := VS.other W1 had
        refine Go.iinc S1 d_jdk_52_method_21_code_32 rfl (Ls' := #[.val (.ref a), .val (.int (i.toInt32 + (1 : Int32))), .val (.ref d), .val (.int i.toInt32), .val (.int cl.length.toInt32), .val (.int i.toInt32), .val (.int (cl.getD i 0))]) rfl (pc' := 35) rfl ?_
        refine Go.iinc S1 d_jdk_52_method_21_code_35 rfl (Ls' := #[.val (.ref a), .val (.int (i.toInt32 + (1 : Int32))), .val (.ref d), .val (.int (i.toInt32 + (1 : Int32))), .val (.int cl.length.toInt32), .val (.int i.toInt32), .val (.int (cl.getD i 0))]) rfl (pc' := 38) rfl ?_
        refine Go.iinc S1 d_jdk_52_method_21_code_38 rfl (Ls' := #[.val (.ref a), .val (.int (i.toInt32 + (1 : Int32))), .val (.ref d), .val (.int (i.toInt32 + (1 : Int32))), .val (.int cl.length.toInt32), .val (.int (i.toInt32 + (1 : Int32))), .val (.int (cl.getD i 0))]) rfl (pc' := 41) rfl ?_
        refine Go.goto S1 d_jdk_52_method_21_code_41 (pc' := 3) (by decide) ?_
        rw [own_incN (by omega)]
        exact ih _ (.val (.int (cl.getD i 0))) (One.val rfl) _ _ _ S1 U1 V1 (by omega)
      · intro c20; exact absurd c20 (hc _ (own_mem hi))
set_option maxRecDepth 65536 in
set_option maxHeartbeats 4000000 in
theorem rm_comp5 {l : Launch} {Z : State} {a0 : Array Value} (hw : HW Z a0) (a : Addr) (d : Addr) (ka kd : ClassId) (cl : List Int32) (hl : cl.length < 2147483647) (hc : ∀ z ∈ cl, ¬ 255 < z) {h0 : Heap} (hE : Ext Z.heap h0) (hz : Z.heap.size ≤ d) (had : a ≠ d) (VS : Arv Z h0 a ka .char cl.length.toInt32 (cl.map Value.int) (.int 0)) (VT : Arv Z h0 d kd .byte cl.length.toInt32 (own_dst cl 0) (.int 0)) :
    OMeets l Z (⟨"java/lang/StringUTF16", "compress", "([CI[BII)I"⟩ : MethodName) jdk_52_method_21_code 7 (some .int) ({ frames := 0, cells := 0, slots := 0, locals := 0 } : Room) #[(.ref a), (.int (0 : Int32)), (.ref d), (.int (0 : Int32)), (.int cl.length.toInt32)] h0 [d] (fun v h => v = some (.int cl.length.toInt32) ∧ Arv Z h d kd .byte cl.length.toInt32 ((cl.map own_b).map Value.int) (.int 0)) := by
  refine OMeets.body (plainFor_of_name pn2) hE #[.val (.ref a), .val (.int (0 : Int32)), .val (.ref d), .val (.int (0 : Int32)), .val (.int cl.length.toInt32), .unset, .unset] (fun m => by first | rfl | (simp [entryFrame, mkF, argsToLocals, Value.category, maxLocals]; done)) ?_
  intro p e s m below meth co T S
  refine Go.iconst S (v := 0) d_jdk_52_method_21_code_0 rfl (pc' := 1) rfl ?_
  refine Go.istore S d_jdk_52_method_21_code_1 (Ls' := #[.val (.ref a), .val (.int (0 : Int32)), .val (.ref d), .val (.int (0 : Int32)), .val (.int cl.length.toInt32), .val (.int (0 : Int32)), .unset]) rfl (pc' := 3) rfl ?_
  exact own_comploop hw a d ka kd cl hl hc hz had cl.length 0 .unset One.u _ _ _ S VS VT (by omega)
set_option maxRecDepth 65536 in
set_option maxHeartbeats 4000000 in
theorem rm_comp3 {l : Launch} {Z : State} {a0 : Array Value} (hw : HW Z a0) (a : Addr) (ka : ClassId) (cl : List Int32) (hl : cl.length ≤ 2) (hc : ∀ z ∈ cl, ¬ 255 < z) {h0 : Heap} (hE : Ext Z.heap h0) (VS : Arv Z h0 a ka .char cl.length.toInt32 (cl.map Value.int) (.int 0)) :
    OMeets l Z (⟨"java/lang/StringUTF16", "compress", "([CII)[B"⟩ : MethodName) jdk_52_method_16_code 6 (some (.array .byte)) ({ frames := 1, cells := 1, slots := 2, locals := 23 } : Room) #[(.ref a), (.int (0 : Int32)), (.int cl.length.toInt32)] h0 [] (fun v h => ∃ d kd, v = some (.ref d) ∧ h0.size ≤ d ∧ Arv Z h d kd .byte cl.length.toInt32 ((cl.map own_b).map Value.int) (.int 0)) := by
  refine OMeets.body (plainFor_of_name pn2) hE #[.val (.ref a), .val (.int (0 : Int32)), .val (.int cl.length.toInt32), .unset, .unset, .unset] (fun m => by first | rfl | (simp [entryFrame, mkF, argsToLocals, Value.category, maxLocals]; done)) ?_
  intro p e s m below meth co T S
  have hpos : ¬ cl.length.toInt32 < 0 := by
    rw [Int32.lt_iff_toInt_lt, own_toInt (by omega)]
    have e0 : (0 : Int32).toInt = 0 := rfl
    omega
  refine Go.iloadN S d_jdk_52_method_16_code_0 rfl (pc' := 1) rfl ?_
  refine Go.newarray S (ty := .byte) (dv := (.int (0 : Int32))) rfl rfl (wd27 hw) d_jdk_52_method_16_code_1 hpos (cap := 2) (by rw [own_clamp (by omega)]; omega) (by decide) (by decide) (by decide) (pc' := 3) rfl ?_
  intro T1 h1 d kd S1 E1 hg1 hz1 hk1 V1
  have hd : a ≠ d := Nat.ne_of_lt (Nat.lt_of_lt_of_le VS.lt (Nat.le_of_eq hg1))
  replace VS := VS.ext E1
  replace V1 := V1.pad (own_dst_zero cl 2)
  refine Go.astoreN S1 d_jdk_52_method_16_code_3 rfl (Ls' := #[.val (.ref a), .val (.int (0 : Int32)), .val (.int cl.length.toInt32), .val (.ref d), .unset, .unset]) rfl (pc' := 4) rfl ?_
  refine Go.aloadN S1 d_jdk_52_method_16_code_4 rfl rfl (pc' := 5) rfl ?_
  refine Go.iloadN S1 d_jdk_52_method_16_code_5 rfl (pc' := 6) rfl ?_
  refine Go.aloadN S1 d_jdk_52_method_16_code_6 rfl rfl (pc' := 7) rfl ?_
  refine Go.iconst S1 (v := 0) d_jdk_52_method_16_code_7 rfl (pc' := 8) rfl ?_
  refine Go.iloadN S1 d_jdk_52_method_16_code_8 rfl (pc' := 9) rfl ?_
  refine Go.invokestatic S1 (y := ⟨"java/lang/StringUTF16", "compress", "([CI[BII)I"⟩) (rm_comp5 hw a d ka kd cl (by omega) hc S1.ext hz1 hd VS V1) (wd84 hw) (wd85 hw) (wd82 hw) (wd86 hw) (by decide) d_jdk_52_method_16_code_9 rfl pd1 (argsL := [(.ref a), (.int (0 : Int32)), (.ref d), (.int (0 : Int32)), (.int cl.length.toInt32)]) rfl rfl rfl (by decide) (W := 0) rfl (by decide) (by decide) (by decide) (allS (Or.inr hk1) all0) (pc' := 12) rfl ?_
  intro v2 T2 h2 L2 S2 K2 q2
  obtain ⟨rfl, V2⟩ := q2
  show Go _ _ _ _ T2 (mkF m 12 #[.val (.ref a), .val (.int (0 : Int32)), .val (.int cl.length.toInt32), .val (.ref d), .unset, .unset] [(.int cl.length.toInt32)])
  refine Go.istore S2 d_jdk_52_method_16_code_12 (Ls' := #[.val (.ref a), .val (.int (0 : Int32)), .val (.int cl.length.toInt32), .val (.ref d), .val (.int cl.length.toInt32), .unset]) rfl (pc' := 14) rfl ?_
  refine Go.iload S2 d_jdk_52_method_16_code_14 rfl (pc' := 16) rfl ?_
  refine Go.iloadN S2 d_jdk_52_method_16_code_16 rfl (pc' := 17) rfl ?_
  refine Go.icmp_eq S2 d_jdk_52_method_16_code_17 (pt := 57) (by decide) (pc' := 20) rfl ?_ ?_
  · intro c17
    refine Go.aloadN S2 d_jdk_52_method_16_code_57 rfl rfl (pc' := 58) rfl ?_
    exact Go.areturn S2 rfl rfl rfl d_jdk_52_method_16_code_58 (by decide) (by decide) (⟨d, kd, rfl, hk1, V2⟩)
  · intro c17; exact absurd rfl c17
theorem own_sh {n : Int32} : nar .byte ((((n - n).toUInt32 >>> ((31 : Int32) &&& 31).toUInt32).toInt32).toInt8.toInt32) = 0 := by
  rw [show n - n = 0 from by rw [← Int32.toInt_inj]; have := c_isub n n; have := rng32 (n - n); have e0 : (0 : Int32).toInt = 0 := rfl; omega]
  decide
set_option maxRecDepth 65536 in
set_option maxHeartbeats 4000000 in
theorem rm_cfal {l : Launch} {Z : State} {a0 : Array Value} (hw : HW Z a0) (d : Addr) (n : Int32) (kd : ClassId) (vs : List Value) {h0 : Heap} (hE : Ext Z.heap h0) (V1 : Arv Z h0 d kd .byte n vs (.int 0)) :
    OMeets l Z (⟨"java/lang/StringUTF16", "coderFromArrayLen", "([BI)B"⟩ : MethodName) jdk_52_method_15_code 2 (some .byte) ({ frames := 0, cells := 0, slots := 0, locals := 0 } : Room) #[(.ref d), (.int n)] h0 [] (fun v h => v = some (.int 0) ∧ h0 = h) := by
  refine OMeets.body (plainFor_of_name pn2) hE #[.val (.ref d), .val (.int n)] (fun m => by first | rfl | (simp [entryFrame, mkF, argsToLocals, Value.category, maxLocals]; done)) ?_
  intro p e s m below meth co T S
  refine Go.iloadN S d_jdk_52_method_15_code_0 rfl (pc' := 1) rfl ?_
  refine Go.aloadN S d_jdk_52_method_15_code_1 rfl rfl (pc' := 2) rfl ?_
  refine Go.arraylength S V1 d_jdk_52_method_15_code_2 (pc' := 3) rfl ?_
  refine Go.isub S d_jdk_52_method_15_code_3 (pc' := 4) rfl ?_
  refine Go.bipush S (v := 31) d_jdk_52_method_15_code_4 rfl (pc' := 6) rfl ?_
  refine Go.iushr S d_jdk_52_method_15_code_6 (pc' := 7) rfl ?_
  refine Go.i2b S d_jdk_52_method_15_code_7 (pc' := 8) rfl ?_
  exact Go.zreturn S rfl (by decide) d_jdk_52_method_15_code_8 (z' := 0) own_sh (by decide) (by decide) (⟨rfl, rfl⟩)
set_option maxRecDepth 65536 in
set_option maxHeartbeats 4000000 in
theorem rm_sinit4 {l : Launch} {Z : State} {a0 : Array Value} (hw : HW Z a0) (o : Addr) (a : Addr) (ka : ClassId) (cl : List Int32) (cs : Int32) (hl0 : 0 < cl.length) (hl : cl.length ≤ 2) (hc : ∀ z ∈ cl, ¬ 255 < z) {h0 : Heap} (hE : Ext Z.heap h0) (hz : Z.heap.size ≤ o) (E : Exa Z h0 o "java/lang/String") (Fv : Fld Z h0 o "java/lang/String" "value" "[B" .null) (Fc : Fld Z h0 o "java/lang/String" "coder" "B" (.int 0)) (hao : a ≠ o) (V1 : Arv Z h0 a ka .char cl.length.toInt32 (cl.map Value.int) (.int 0)) (Cs : Sta Z Z.heap "java/lang/String" "COMPACT_STRINGS" "Z" (.int cs)) (Cn : ¬ cs = 0) :
    OMeets l Z (⟨"java/lang/String", "<init>", "([CIILjava/lang/Void;)V"⟩ : MethodName) jdk_42_method_149_code 6 none ({ frames := 2, cells := 1, slots := 2, locals := 41 } : Room) #[(.ref o), (.ref a), (.int (0 : Int32)), (.int cl.length.toInt32), .null] h0 [o] (fun v h => v = none ∧ ∃ t kb, StrAt Z h o t kb (cl.map own_b) ∧ h0.size ≤ t) := by
  refine OMeets.body (plainFor_of_name pn1) hE #[.val (.ref o), .val (.ref a), .val (.int (0 : Int32)), .val (.int cl.length.toInt32), .val .null, .unset] (fun m => by first | rfl | (simp [entryFrame, mkF, argsToLocals, Value.category, maxLocals]; done)) ?_
  intro p e s m below meth co T S
  have ho := E.lt
  refine Go.aloadN S d_jdk_42_method_149_code_0 rfl rfl (pc' := 1) rfl ?_
  refine Go.initObject S (wd23 hw) (wd24 hw) (wd25 hw) d_jdk_42_method_149_code_1 rfl (by decide) (W := 0) rfl (by decide) (pc' := 4) rfl ?_
  intro T1 S1
  refine Go.iloadN S1 d_jdk_42_method_149_code_4 rfl (pc' := 5) rfl ?_
  refine Go.if_ne S1 d_jdk_42_method_149_code_5 (pt := 27) (by decide) (pc' := 8) rfl ?_ ?_
  · intro c5
    refine Go.getstatic S1 (host := "") (Or.inl (wd37 hw)) Via.refl Cs d_jdk_42_method_149_code_27 (pc' := 30) rfl ?_
    intro T2 S2
    refine Go.if_eq S2 d_jdk_42_method_149_code_30 (pt := 58) (by decide) (pc' := 33) rfl ?_ ?_
    · intro c30; exact absurd c30 Cn
    · intro c30
      refine Go.aloadN S2 d_jdk_42_method_149_code_33 rfl rfl (pc' := 34) rfl ?_
      refine Go.iloadN S2 d_jdk_42_method_149_code_34 rfl (pc' := 35) rfl ?_
      refine Go.iloadN S2 d_jdk_42_method_149_code_35 rfl (pc' := 36) rfl ?_
      refine Go.invokestatic S2 (y := ⟨"java/lang/StringUTF16", "compress", "([CII)[B"⟩) (rm_comp3 hw a ka cl hl hc S2.ext V1) (wd80 hw) (wd81 hw) (wd82 hw) (wd83 hw) (by decide) d_jdk_42_method_149_code_36 rfl pd2 (argsL := [(.ref a), (.int (0 : Int32)), (.int cl.length.toInt32)]) rfl rfl rfl (by decide) (W := 0) rfl (by decide) (by decide) (by decide) all0 (pc' := 39) rfl ?_
      intro v3 T3 h3 L3 S3 K3 q3
      obtain ⟨d3, kd3, rfl, hk3, V3⟩ := q3
      replace E := E.keep K3
      replace Fv := Fv.keep K3 nin0
      replace Fc := Fc.keep K3 nin0
      replace V1 := V1.keep K3 nin0
      show Go _ _ _ _ T3 (mkF m 39 #[.val (.ref o), .val (.ref a), .val (.int (0 : Int32)), .val (.int cl.length.toInt32), .val .null, .unset] [(.ref d3)])
      have nd3 : d3 ≠ o := fun q => absurd hk3 (by rw [q]; exact Nat.not_le.mpr ho)
      refine Go.astore S3 d_jdk_42_method_149_code_39 rfl (Ls' := #[.val (.ref o), .val (.ref a), .val (.int (0 : Int32)), .val (.int cl.length.toInt32), .val .null, .val (.ref d3)]) rfl (pc' := 41) rfl ?_
      refine Go.aloadN S3 d_jdk_42_method_149_code_41 rfl rfl (pc' := 42) rfl ?_
      refine Go.aload S3 d_jdk_42_method_149_code_42 rfl rfl (pc' := 44) rfl ?_
      refine Go.iloadN S3 d_jdk_42_method_149_code_44 rfl (pc' := 45) rfl ?_
      refine Go.invokestatic S3 (y := ⟨"java/lang/StringUTF16", "coderFromArrayLen", "([BI)B"⟩) (rm_cfal hw d3 cl.length.toInt32 kd3 _ S3.ext V3) (wd87 hw) (wd88 hw) (wd82 hw) (wd89 hw) (by decide) d_jdk_42_method_149_code_45 rfl pd3 (argsL := [(.ref d3), (.int cl.length.toInt32)]) rfl rfl rfl (by decide) (W := 1) rfl (by decide) (by decide) (by decide) all0 (pc' := 48) rfl ?_
      intro v4 T4 h4 L4 S4 K4 q4
      obtain ⟨rfl, rfl⟩ := q4
      show Go _ _ _ _ T4 (mkF m 48 #[.val (.ref o), .val (.ref a), .val (.int (0 : Int32)), .val (.int cl.length.toInt32), .val .null, .val (.ref d3)] [(.int (0 : Int32)), (.ref o)])
      refine Go.putfieldN S4 (wd33 hw) Via.refl Fc E (Or.inr ⟨(wd29 hw), rfl, rfl⟩) (wd13 hw) (ty := .byte) (by decide) (v' := (.int (0 : Int32))) rfl rfl hz (Or.inl (List.mem_singleton.mpr rfl)) d_jdk_42_method_149_code_48 (pc' := 51) rfl ?_
      intro T5 h5 L5 S5 W5
      have F5 := Fc.same W5
      replace Fv := Fv.other W5 (Or.inr (slot_ne (Or.inr (wd28 hw)) (Or.inr (wd29 hw)) (by decide) (t := (.array .byte)) (t' := .byte) (by decide) (by decide)))
      replace E := E.wr W5
      replace V1 := V1.other W5 (hao)
      replace V3 := V3.other W5 (nd3)
      refine Go.aloadN S5 d_jdk_42_method_149_code_51 rfl rfl (pc' := 52) rfl ?_
      refine Go.aload S5 d_jdk_42_method_149_code_52 rfl rfl (pc' := 54) rfl ?_
      refine Go.putfield S5 (host := "") (Or.inl (wd32 hw)) Via.refl Fv E (Or.inr ⟨(wd28 hw), rfl, rfl⟩) (wd13 hw) (ty := (.array .byte)) (by decide) rfl rfl hz (Or.inl (List.mem_singleton.mpr rfl)) d_jdk_42_method_149_code_54 (pc' := 57) rfl ?_
      intro T6 h6 L6 S6 W6
      have F6 := Fv.same W6
      replace F5 := F5.other W6 (Or.inr (slot_ne (Or.inr (wd29 hw)) (Or.inr (wd28 hw)) (by decide) (t := .byte) (t' := (.array .byte)) (by decide) (by decide)))
      replace E := E.wr W6
      replace V1 := V1.other W6 (hao)
      replace V3 := V3.other W6 (nd3)
      exact Go.vreturn S6 rfl d_jdk_42_method_149_code_57 (by decide) (by decide) (⟨rfl, d3, kd3, ⟨E, F5, F6, by rw [List.length_map]; exact V3, by rw [List.length_map]; omega⟩, hk3⟩)
  · intro c5; exact absurd c5 (fun q => by have z := congrArg Int32.toInt q; rw [own_toInt (by omega)] at z; have e0 : (0 : Int32).toInt = 0 := rfl; omega)
set_option maxRecDepth 65536 in
set_option maxHeartbeats 4000000 in
theorem rm_sinit {l : Launch} {Z : State} {a0 : Array Value} (hw : HW Z a0) (o : Addr) (a : Addr) (ka : ClassId) (cl : List Int32) (cs : Int32) (hl0 : 0 < cl.length) (hl : cl.length ≤ 2) (hc : ∀ z ∈ cl, ¬ 255 < z) {h0 : Heap} (hE : Ext Z.heap h0) (hz : Z.heap.size ≤ o) (E : Exa Z h0 o "java/lang/String") (Fv : Fld Z h0 o "java/lang/String" "value" "[B" .null) (Fc : Fld Z h0 o "java/lang/String" "coder" "B" (.int 0)) (hao : a ≠ o) (V1 : Arv Z h0 a ka .char cl.length.toInt32 (cl.map Value.int) (.int 0)) (Cs : Sta Z Z.heap "java/lang/String" "COMPACT_STRINGS" "Z" (.int cs)) (Cn : ¬ cs = 0) :
    OMeets l Z (⟨"java/lang/String", "<init>", "([C)V"⟩ : MethodName) jdk_42_method_3_code 2 none ({ frames := 3, cells := 1, slots := 2, locals := 58 } : Room) #[(.ref o), (.ref a)] h0 [o] (fun v h => v = none ∧ ∃ t kb, StrAt Z h o t kb (cl.map own_b) ∧ h0.size ≤ t) := by
  refine OMeets.body (plainFor_of_name pn1) hE #[.val (.ref o), .val (.ref a)] (fun m => by first | rfl | (simp [entryFrame, mkF, argsToLocals, Value.category, maxLocals]; done)) ?_
  intro p e s m below meth co T S
  refine Go.aloadN S d_jdk_42_method_3_code_0 rfl rfl (pc' := 1) rfl ?_
  refine Go.aloadN S d_jdk_42_method_3_code_1 rfl rfl (pc' := 2) rfl ?_
  refine Go.iconst S (v := 0) d_jdk_42_method_3_code_2 rfl (pc' := 3) rfl ?_
  refine Go.aloadN S d_jdk_42_method_3_code_3 rfl rfl (pc' := 4) rfl ?_
  refine Go.arraylength S V1 d_jdk_42_method_3_code_4 (pc' := 5) rfl ?_
  refine Go.aconst_null S d_jdk_42_method_3_code_5 (pc' := 6) rfl ?_
  refine Go.invokespecial S (y := ⟨"java/lang/String", "<init>", "([CIILjava/lang/Void;)V"⟩) (rm_sinit4 hw o a ka cl cs hl0 hl hc S.ext hz E Fv Fc hao V1 Cs Cn) rfl rfl (wd19 hw) (wd20 hw) (wd14 hw) (wd22 hw) (by decide) d_jdk_42_method_3_code_6 rfl pd4 (argsL := [(.ref a), (.int (0 : Int32)), (.int cl.length.toInt32), .null]) rfl rfl rfl (by decide) (W := 0) rfl (by decide) (by decide) (by decide) (allS (Or.inl (List.mem_singleton.mpr rfl)) all0) (pc' := 9) rfl ?_
  intro v1 T1 h1 L1 S1 K1 q1
  obtain ⟨rfl, t, kb, A, ht⟩ := q1
  show Go _ _ _ _ T1 (mkF m 9 #[.val (.ref o), .val (.ref a)] [])
  exact Go.vreturn S1 rfl d_jdk_42_method_3_code_9 (by decide) (by decide) (⟨rfl, t, kb, A, ht⟩)
set_option maxRecDepth 65536 in
set_option maxHeartbeats 4000000 in
theorem rm_canEnc {l : Launch} {Z : State} {a0 : Array Value} (hw : HW Z a0) (ch : Int32)  {h0 : Heap} (hE : Ext Z.heap h0) (hc : ¬ 255 < ch) :
    OMeets l Z (⟨"java/lang/StringLatin1", "canEncode", "(C)Z"⟩ : MethodName) jdk_43_method_3_code 1 (some .boolean) ({ frames := 0, cells := 0, slots := 0, locals := 0 } : Room) #[(.int ch)] h0 [] (fun v h => v = some (.int 1) ∧ h0 = h) := by
  refine OMeets.body (plainFor_of_name pn0) hE #[.val (.int ch)] (fun m => by first | rfl | (simp [entryFrame, mkF, argsToLocals, Value.category, maxLocals]; done)) ?_
  intro p e s m below meth co T S
  refine Go.iloadN S d_jdk_43_method_3_code_0 rfl (pc' := 1) rfl ?_
  refine Go.sipush S (v := 255) d_jdk_43_method_3_code_1 rfl (pc' := 4) rfl ?_
  refine Go.icmp_gt S d_jdk_43_method_3_code_4 (pt := 11) (by decide) (pc' := 7) rfl ?_ ?_
  · intro c4; exact absurd c4 hc
  · intro c4
    refine Go.iconst S (v := 1) d_jdk_43_method_3_code_7 rfl (pc' := 8) rfl ?_
    refine Go.goto S d_jdk_43_method_3_code_8 (pc' := 12) (by decide) ?_
    exact Go.zreturn S rfl (by decide) d_jdk_43_method_3_code_12 (z' := (1 : Int32)) rfl (by decide) (by decide) (⟨rfl, rfl⟩)
set_option maxRecDepth 65536 in
set_option maxHeartbeats 4000000 in
theorem rm_toBytes {l : Launch} {Z : State} {a0 : Array Value} (hw : HW Z a0) (ch : Int32)  {h0 : Heap} (hE : Ext Z.heap h0) :
    OMeets l Z (⟨"java/lang/StringLatin1", "toBytes", "(C)[B"⟩ : MethodName) jdk_43_method_46_code 1 (some (.array .byte)) ({ frames := 0, cells := 1, slots := 1, locals := 0 } : Room) #[(.int ch)] h0 [] (fun v h => ∃ d kd, v = some (.ref d) ∧ h0.size ≤ d ∧ Arv Z h d kd .byte 1 [.int (own_b ch)] (.int 0)) := by
  refine OMeets.body (plainFor_of_name pn0) hE #[.val (.int ch)] (fun m => by first | rfl | (simp [entryFrame, mkF, argsToLocals, Value.category, maxLocals]; done)) ?_
  intro p e s m below meth co T S
  refine Go.iconst S (v := 1) d_jdk_43_method_46_code_0 rfl (pc' := 1) rfl ?_
  refine Go.newarray S (ty := .byte) (dv := (.int (0 : Int32))) rfl rfl (wd27 hw) d_jdk_43_method_46_code_1 (by decide) (cap := 1) (by decide) (by decide) (by decide) (by decide) (pc' := 3) rfl ?_
  intro T1 h1 a1 kA1 S1 E1 hg1 hz1 hk1 V1
  replace V1 : Arv Z h1 a1 kA1 .byte (1 : Int32) [(.int (0 : Int32))] (.int (0 : Int32)) := V1
  refine Go.dup S1 d_jdk_43_method_46_code_3 rfl (pc' := 4) rfl ?_
  refine Go.iconst S1 (v := 0) d_jdk_43_method_46_code_4 rfl (pc' := 5) rfl ?_
  refine Go.iloadN S1 d_jdk_43_method_46_code_5 rfl (pc' := 6) rfl ?_
  refine Go.i2b S1 d_jdk_43_method_46_code_6 (pc' := 7) rfl ?_
  refine Go.bastore S1 V1 (by decide) (i := 0) (by decide) (Nat.le_of_ble_eq_true rfl) hz1 (Or.inr hk1) d_jdk_43_method_46_code_7 (pc' := 8) rfl ?_
  intro T2 h2 L2 S2 W2 V2
  rw [show nar .byte (ch.toInt8.toInt32) = (own_b ch) from own_byte ch] at V2
  replace V2 : Arv Z h2 a1 kA1 .byte (1 : Int32) [(.int (own_b ch))] (.int (0 : Int32)) := V2
  exact Go.areturn S2 rfl rfl rfl d_jdk_43_method_46_code_8 (by decide) (by decide) (⟨a1, kA1, rfl, hk1, V2⟩)
set_option maxRecDepth 65536 in
set_option maxHeartbeats 4000000 in
theorem rm_sinitB {l : Launch} {Z : State} {a0 : Array Value} (hw : HW Z a0) (o : Addr) (d : Addr)  {h0 : Heap} (hE : Ext Z.heap h0) (hz : Z.heap.size ≤ o) (E : Exa Z h0 o "java/lang/String") (Fv : Fld Z h0 o "java/lang/String" "value" "[B" .null) (Fc : Fld Z h0 o "java/lang/String" "coder" "B" (.int 0)) :
    OMeets l Z (⟨"java/lang/String", "<init>", "([BB)V"⟩ : MethodName) jdk_42_method_151_code 3 none ({ frames := 1, cells := 0, slots := 0, locals := 12 } : Room) #[(.ref o), (.ref d), (.int (0 : Int32))] h0 [o] (fun v h => v = none ∧ Fld Z h o "java/lang/String" "coder" "B" (.int 0) ∧ Fld Z h o "java/lang/String" "value" "[B" (.ref d)) := by
  refine OMeets.body (plainFor_of_name pn1) hE #[.val (.ref o), .val (.ref d), .val (.int (0 : Int32))] (fun m => by first | rfl | (simp [entryFrame, mkF, argsToLocals, Value.category, maxLocals]; done)) ?_
  intro p e s m below meth co T S
  refine Go.aloadN S d_jdk_42_method_151_code_0 rfl rfl (pc' := 1) rfl ?_
  refine Go.initObject S (wd23 hw) (wd24 hw) (wd25 hw) d_jdk_42_method_151_code_1 rfl (by decide) (W := 0) rfl (by decide) (pc' := 4) rfl ?_
  intro T1 S1
  refine Go.aloadN S1 d_jdk_42_method_151_code_4 rfl rfl (pc' := 5) rfl ?_
  refine Go.aloadN S1 d_jdk_42_method_151_code_5 rfl rfl (pc' := 6) rfl ?_
  refine Go.putfield S1 (host := "") (Or.inl (wd32 hw)) Via.refl Fv E (Or.inr ⟨(wd28 hw), rfl, rfl⟩) (wd13 hw) (ty := (.array .byte)) (by decide) rfl rfl hz (Or.inl (List.mem_singleton.mpr rfl)) d_jdk_42_method_151_code_6 (pc' := 9) rfl ?_
  intro T2 h2 L2 S2 W2
  have F2 := Fv.same W2
  replace Fc := Fc.other W2 (Or.inr (slot_ne (Or.inr (wd29 hw)) (Or.inr (wd28 hw)) (by decide) (t := .byte) (t' := (.array .byte)) (by decide) (by decide)))
  replace E := E.wr W2
  refine Go.aloadN S2 d_jdk_42_method_151_code_9 rfl rfl (pc' := 10) rfl ?_
  refine Go.iloadN S2 d_jdk_42_method_151_code_10 rfl (pc' := 11) rfl ?_
  refine Go.putfieldN S2 (wd33 hw) Via.refl Fc E (Or.inr ⟨(wd29 hw), rfl, rfl⟩) (wd13 hw) (ty := .byte) (by decide) (v' := (.int (0 : Int32))) rfl rfl hz (Or.inl (List.mem_singleton.mpr rfl)) d_jdk_42_method_151_code_11 (pc' := 14) rfl ?_
  intro T3 h3 L3 S3 W3
  have F3 := Fc.same W3
  replace F2 := F2.other W3 (Or.inr (slot_ne (Or.inr (wd28 hw)) (Or.inr (wd29 hw)) (by decide) (t := (.array .byte)) (t' := .byte) (by decide) (by decide)))
  replace E := E.wr W3
  exact Go.vreturn S3 rfl d_jdk_42_method_151_code_14 (by decide) (by decide) (⟨rfl, F3, F2⟩)
set_option maxRecDepth 65536 in
set_option maxHeartbeats 4000000 in
theorem rm_valueOf {l : Launch} {Z : State} {a0 : Array Value} (hw : HW Z a0) (ch : Int32) (cs : Int32) {h0 : Heap} (hE : Ext Z.heap h0) (hc : ¬ 255 < ch) (Cs : Sta Z Z.heap "java/lang/String" "COMPACT_STRINGS" "Z" (.int cs)) (Cn : ¬ cs = 0) :
    OMeets l Z (⟨"java/lang/String", "valueOf", "(C)Ljava/lang/String;"⟩ : MethodName) jdk_42_method_139_code 1 (some (.object "java/lang/String")) ({ frames := 2, cells := 2, slots := 5, locals := 27 } : Room) #[(.int ch)] h0 [] (fun v h => ∃ o t kb, v = some (.ref o) ∧ StrAt Z h o t kb [own_b ch]) := by
  refine OMeets.body (plainFor_of_name pn1) hE #[.val (.int ch)] (fun m => by first | rfl | (simp [entryFrame, mkF, argsToLocals, Value.category, maxLocals]; done)) ?_
  intro p e s m below meth co T S
  refine Go.getstatic S (host := "") (Or.inl (wd37 hw)) Via.refl Cs d_jdk_42_method_139_code_0 (pc' := 3) rfl ?_
  intro T1 S1
  refine Go.if_eq S1 d_jdk_42_method_139_code_3 (pt := 26) (by decide) (pc' := 6) rfl ?_ ?_
  · intro c3; exact absurd c3 Cn
  · intro c3
    refine Go.iloadN S1 d_jdk_42_method_139_code_6 rfl (pc' := 7) rfl ?_
    refine Go.invokestatic S1 (y := ⟨"java/lang/StringLatin1", "canEncode", "(C)Z"⟩) (rm_canEnc hw ch S1.ext hc) (wd38 hw) (wd39 hw) (wd40 hw) (wd41 hw) (by decide) d_jdk_42_method_139_code_7 rfl pd5 (argsL := [(.int ch)]) rfl rfl rfl (by decide) (W := 0) rfl (by decide) (by decide) (by decide) all0 (pc' := 10) rfl ?_
    intro v2 T2 h2 L2 S2 K2 q2
    obtain ⟨rfl, rfl⟩ := q2
    show Go _ _ _ _ T2 (mkF m 10 #[.val (.int ch)] [(.int (1 : Int32))])
    refine Go.if_eq S2 d_jdk_42_method_139_code_10 (pt := 26) (by decide) (pc' := 13) rfl ?_ ?_
    · intro c10; exact absurd c10 (by decide)
    · intro c10
      refine Go.new S2 (wd42 hw) (wd13 hw) (wd14 hw) d_jdk_42_method_139_code_13 (by decide) (by decide) (pc' := 16) rfl ?_
      intro T3 h3 a3 S3 E3 hg3 hz3 hk3 X3 D3
      have F3_value : Fld Z h3 a3 "java/lang/String" "value" "[B" .null := D3 (Or.inr (wd28 hw)) (ty := (.array .byte)) (by decide)
      have F3_coder : Fld Z h3 a3 "java/lang/String" "coder" "B" (.int (0 : Int32)) := D3 (Or.inr (wd29 hw)) (ty := .byte) (by decide)
      refine Go.dup S3 d_jdk_42_method_139_code_16 rfl (pc' := 17) rfl ?_
      refine Go.iloadN S3 d_jdk_42_method_139_code_17 rfl (pc' := 18) rfl ?_
      have hlt4 := X3.lt
      refine Go.invokestatic S3 (y := ⟨"java/lang/StringLatin1", "toBytes", "(C)[B"⟩) (rm_toBytes hw ch S3.ext) (wd43 hw) (wd44 hw) (wd40 hw) (wd45 hw) (by decide) d_jdk_42_method_139_code_18 rfl pd6 (argsL := [(.int ch)]) rfl rfl rfl (by decide) (W := 2) rfl (by decide) (by decide) (by decide) all0 (pc' := 21) rfl ?_
      intro v4 T4 h4 L4 S4 K4 q4
      obtain ⟨d4, kd4, rfl, hkd4, V4⟩ := q4
      replace X3 := X3.keep K4
      replace F3_value := F3_value.keep K4 nin0
      replace F3_coder := F3_coder.keep K4 nin0
      show Go _ _ _ _ T4 (mkF m 21 #[.val (.int ch)] [(.ref d4), (.ref a3), (.ref a3)])
      have nd4 : d4 ≠ a3 := fun q => absurd hkd4 (by rw [q]; exact Nat.not_le.mpr hlt4)
      refine Go.iconst S4 (v := 0) d_jdk_42_method_139_code_21 rfl (pc' := 22) rfl ?_
      refine Go.invokespecial S4 (y := ⟨"java/lang/String", "<init>", "([BB)V"⟩) (rm_sinitB hw a3 d4 S4.ext hz3 X3 F3_value F3_coder) rfl rfl (wd46 hw) (wd47 hw) (wd14 hw) (wd48 hw) (by decide) d_jdk_42_method_139_code_22 rfl pd7 (argsL := [(.ref d4), (.int (0 : Int32))]) rfl rfl rfl (by decide) (W := 1) rfl (by decide) (by decide) (by decide) (allS (Or.inr hk3) all0) (pc' := 25) rfl ?_
      intro v5 T5 h5 L5 S5 K5 q5
      obtain ⟨rfl, Gc5, Gv5⟩ := q5
      replace X3 := X3.keep K5
      replace V4 := V4.keep K5 (ninS nd4 nin0)
      show Go _ _ _ _ T5 (mkF m 25 #[.val (.int ch)] [(.ref a3)])
      exact Go.areturn S5 rfl rfl rfl d_jdk_42_method_139_code_25 (by decide) (by decide) (⟨a3, d4, kd4, rfl, ⟨X3, Gc5, Gv5, V4, by simp⟩⟩)
theorem own_sat {Z : State} {a0 : Array Value} (hw : HW Z a0) : ∀ a ∈ Bundle.stringAtoms, a.before a0 Z = true := by
  intro a ha
  simp only [Bundle.stringAtoms, List.mem_cons, List.not_mem_nil, or_false] at ha
  rcases ha with rfl | rfl | rfl | rfl | rfl | rfl | rfl
  · exact (wd14 hw)
  · exact (wd13 hw)
  · exact (wd27 hw)
  · exact (wd28 hw)
  · exact (wd29 hw)
  · exact (wd30 hw)
  · exact (wd31 hw)
/-- "" is not interned yet, or String's own entry of it is loaded -/
def Elit (Z : State) (vm : Vm) (h : Heap) : Prop := IB Z vm [] ∨ ∃ a t kb, LitV Z vm "java/lang/String" 7 a ∧ StrAt Z h a t kb []
theorem Elit.warm {Z sb : State} {vm : Vm} {h : Heap} (E : Elit Z sb.vm h) (q : sb.WarmedH vm) : Elit Z vm h := by
  rcases E with I | ⟨a, t, kb, L, A⟩
  · exact Or.inl (IB.warm I q)
  · exact Or.inr ⟨a, t, kb, L.warm q, A⟩
theorem Elit.keep {Z : State} {vm : Vm} {h h' : Heap} (E : Elit Z vm h) (K : Keep h h' []) : Elit Z vm h' := by
  rcases E with I | ⟨a, t, kb, L, A⟩
  · exact Or.inl I
  · exact Or.inr ⟨a, t, kb, L, A.keep K nin0 nin0⟩
set_option maxRecDepth 65536 in
set_option maxHeartbeats 4000000 in
theorem rm_sinitE4 {l : Launch} {Z : State} {a0 : Array Value} (hw : HW Z a0) (o : Addr) (a : Addr)  {h0 : Heap} (hE : Ext Z.heap h0) (hz : Z.heap.size ≤ o) (E : Exa Z h0 o "java/lang/String") (Fv : Fld Z h0 o "java/lang/String" "value" "[B" .null) (Fc : Fld Z h0 o "java/lang/String" "coder" "B" (.int 0)) (hh : Jvm.Lit.constHeld Z "java/lang/String" 7) (hcw : Jvm.Lit.compactW.before a0 Z = true) :
    OMeetsW l Z (⟨"java/lang/String", "<init>", "([CIILjava/lang/Void;)V"⟩ : MethodName) jdk_42_method_149_code 6 none ({ frames := 1, cells := 2, slots := 4, locals := 12 } : Room) #[(.ref o), (.ref a), (.int (0 : Int32)), (.int (0 : Int32)), .null] h0 [o] (fun vm => Elit Z vm h0) (fun v h vm => (v = none ∧ ∃ t kb, StrAt Z h o t kb []) ∧ Elit Z vm h) := by
  refine OMeetsW.body (plainFor_of_name pn1) hE #[.val (.ref o), .val (.ref a), .val (.int (0 : Int32)), .val (.int (0 : Int32)), .val .null, .unset] (fun m => by first | rfl | (simp [entryFrame, mkF, argsToLocals, Value.category, maxLocals]; done)) ?_
  intro p e s m below meth co T S hvp hsh
  have N := Sn.start s h0.size
  have hn : h0.size ≤ h0.size := Nat.le_refl _
  refine Go.aloadN S d_jdk_42_method_149_code_0 rfl rfl (pc' := 1) rfl ?_
  refine Go.initObject S (wd23 hw) (wd24 hw) (wd25 hw) d_jdk_42_method_149_code_1 rfl (by decide) (W := 0) rfl (by decide) (pc' := 4) rfl ?_
  intro T1 S1
  refine Go.iloadN S1 d_jdk_42_method_149_code_4 rfl (pc' := 5) rfl ?_
  refine Go.if_ne S1 d_jdk_42_method_149_code_5 (pt := 27) (by decide) (pc' := 8) rfl ?_ ?_
  · intro c5; exact absurd (by decide) c5
  · intro c5
    refine Go.aloadN S1 d_jdk_42_method_149_code_8 rfl rfl (pc' := 9) rfl ?_
    rcases hvp with hvp | ⟨la, lt, lk, L, A⟩
    ·
      refine Go.ldcFirst S1 N hn (text := "") (cap := 0) (vs := []) (z := 0) (wd26 hw) (own_sat hw) (Fr.nil _) (by rw [hsh]; exact hE) hvp (by decide) hh hcw ⟨by decide, by first | rfl | decide⟩ (by decide) rfl d_jdk_42_method_149_code_9 (by decide) (by decide) (by decide) (by decide) (pc' := 11) rfl ?_
      intro a2 b2 kb2 sb2 T2 h2 n2 S2 N2 hn2 E2 X2 Fc2 Fv2 V2 I2 L2
      replace E := E.ext E2
      replace Fv := Fv.ext E2
      replace Fc := Fc.ext E2
      replace hn := hn2
      have nao2 : a2 ≠ o := Fld.ne Fv2 Fv nofun
      have nbo2 : b2 ≠ o := Arv.nex V2 (wd13 hw) E
      refine Go.getfield S2 (host := "") (Or.inl (wd32 hw)) Via.refl Fv2 d_jdk_42_method_149_code_11 (pc' := 14) rfl ?_
      intro T3 S3
      refine Go.putfield S3 (host := "") (Or.inl (wd32 hw)) Via.refl Fv E (Or.inr ⟨(wd28 hw), rfl, rfl⟩) (wd13 hw) (ty := (.array .byte)) (by decide) rfl rfl hz (Or.inl (List.mem_singleton.mpr rfl)) d_jdk_42_method_149_code_14 (pc' := 17) rfl ?_
      intro T4 h4 L4 S4 W4
      have F4 := Fv.same W4
      replace Fc := Fc.other W4 (Or.inr (slot_ne (Or.inr (wd29 hw)) (Or.inr (wd28 hw)) (by decide) (t := .byte) (t' := (.array .byte)) (by decide) (by decide)))
      replace hn := Nat.le_trans hn (Nat.le_of_eq W4.size.symm)
      replace E := E.wr W4
      replace X2 := X2.wr W4
      replace Fc2 := Fc2.other W4 (Or.inl (nao2))
      replace Fv2 := Fv2.other W4 (Or.inl (nao2))
      replace V2 := V2.other W4 (nbo2)
      refine Go.aloadN S4 d_jdk_42_method_149_code_17 rfl rfl (pc' := 18) rfl ?_
      refine Go.ldcAgain S4 (wd26 hw) L2 d_jdk_42_method_149_code_18 (pc' := 20) rfl ?_
      refine Go.getfield S4 (host := "") (Or.inl (wd33 hw)) Via.refl Fc2 d_jdk_42_method_149_code_20 (pc' := 23) rfl ?_
      intro T5 S5
      refine Go.putfieldN S5 (wd33 hw) Via.refl Fc E (Or.inr ⟨(wd29 hw), rfl, rfl⟩) (wd13 hw) (ty := .byte) (by decide) (v' := (.int (0 : Int32))) rfl rfl hz (Or.inl (List.mem_singleton.mpr rfl)) d_jdk_42_method_149_code_23 (pc' := 26) rfl ?_
      intro T6 h6 L6 S6 W6
      have F6 := Fc.same W6
      replace F4 := F4.other W6 (Or.inr (slot_ne (Or.inr (wd28 hw)) (Or.inr (wd29 hw)) (by decide) (t := (.array .byte)) (t' := .byte) (by decide) (by decide)))
      replace hn := Nat.le_trans hn (Nat.le_of_eq W6.size.symm)
      replace E := E.wr W6
      replace X2 := X2.wr W6
      replace Fc2 := Fc2.other W6 (Or.inl (nao2))
      replace Fv2 := Fv2.other W6 (Or.inl (nao2))
      replace V2 := V2.other W6 (nbo2)
      exact Go.vreturnW S6 N2 hn rfl d_jdk_42_method_149_code_26 (by decide) (by decide) (⟨⟨rfl, b2, kb2, E, F6, F4, V2, by decide⟩, Elit.warm (sb := sb2) (Or.inr ⟨a2, b2, kb2, LitV.of L2, X2, Fc2, Fv2, V2, by decide⟩) S6.X.warmed⟩)
    · have nla : la ≠ o := Fld.ne A.2.2.1 Fv nofun
      have nlt : lt ≠ o := Arv.nex A.2.2.2.1 (wd13 hw) E
      refine Go.ldcAgain S1 (wd26 hw) L.lit d_jdk_42_method_149_code_9 (pc' := 11) rfl ?_
      refine Go.getfield S1 (host := "") (Or.inl (wd32 hw)) Via.refl A.2.2.1 d_jdk_42_method_149_code_11 (pc' := 14) rfl ?_
      intro T7 S7
      refine Go.putfield S7 (host := "") (Or.inl (wd32 hw)) Via.refl Fv E (Or.inr ⟨(wd28 hw), rfl, rfl⟩) (wd13 hw) (ty := (.array .byte)) (by decide) rfl rfl hz (Or.inl (List.mem_singleton.mpr rfl)) d_jdk_42_method_149_code_14 (pc' := 17) rfl ?_
      intro T8 h8 L8 S8 W8
      have F8 := Fv.same W8
      replace Fc := Fc.other W8 (Or.inr (slot_ne (Or.inr (wd29 hw)) (Or.inr (wd28 hw)) (by decide) (t := .byte) (t' := (.array .byte)) (by decide) (by decide)))
      replace hn := Nat.le_trans hn (Nat.le_of_eq W8.size.symm)
      replace E := E.wr W8
      replace A := A.other W8 (nla) (nlt)
      refine Go.aloadN S8 d_jdk_42_method_149_code_17 rfl rfl (pc' := 18) rfl ?_
      refine Go.ldcAgain S8 (wd26 hw) (LitV.lit (sb := s) L) d_jdk_42_method_149_code_18 (pc' := 20) rfl ?_
      refine Go.getfield S8 (host := "") (Or.inl (wd33 hw)) Via.refl A.2.1 d_jdk_42_method_149_code_20 (pc' := 23) rfl ?_
      intro T9 S9
      refine Go.putfieldN S9 (wd33 hw) Via.refl Fc E (Or.inr ⟨(wd29 hw), rfl, rfl⟩) (wd13 hw) (ty := .byte) (by decide) (v' := (.int (0 : Int32))) rfl rfl hz (Or.inl (List.mem_singleton.mpr rfl)) d_jdk_42_method_149_code_23 (pc' := 26) rfl ?_
      intro T10 h10 L10 S10 W10
      have F10 := Fc.same W10
      replace F8 := F8.other W10 (Or.inr (slot_ne (Or.inr (wd28 hw)) (Or.inr (wd29 hw)) (by decide) (t := (.array .byte)) (t' := .byte) (by decide) (by decide)))
      replace hn := Nat.le_trans hn (Nat.le_of_eq W10.size.symm)
      replace E := E.wr W10
      replace A := A.other W10 (nla) (nlt)
      exact Go.vreturnW S10 N hn rfl d_jdk_42_method_149_code_26 (by decide) (by decide) (⟨⟨rfl, lt, lk, E, F10, F8, A.2.2.2.1, by decide⟩, Elit.warm (sb := s) (Or.inr ⟨la, lt, lk, L, A⟩) S10.X.warmed⟩)
set_option maxRecDepth 65536 in
set_option maxHeartbeats 4000000 in
theorem rm_sinitE {l : Launch} {Z : State} {a0 : Array Value} (hw : HW Z a0) (o : Addr) (a : Addr) (ka : ClassId) {h0 : Heap} (hE : Ext Z.heap h0) (hz : Z.heap.size ≤ o) (E : Exa Z h0 o "java/lang/String") (Fv : Fld Z h0 o "java/lang/String" "value" "[B" .null) (Fc : Fld Z h0 o "java/lang/String" "coder" "B" (.int 0)) (hh : Jvm.Lit.constHeld Z "java/lang/String" 7) (hcw : Jvm.Lit.compactW.before a0 Z = true) (V1 : Arv Z h0 a ka .char 0 [] (.int 0)) :
    OMeetsW l Z (⟨"java/lang/String", "<init>", "([C)V"⟩ : MethodName) jdk_42_method_3_code 2 none ({ frames := 2, cells := 2, slots := 4, locals := 29 } : Room) #[(.ref o), (.ref a)] h0 [o] (fun vm => Elit Z vm h0) (fun v h vm => (v = none ∧ ∃ t kb, StrAt Z h o t kb []) ∧ Elit Z vm h) := by
  refine OMeetsW.body (plainFor_of_name pn1) hE #[.val (.ref o), .val (.ref a)] (fun m => by first | rfl | (simp [entryFrame, mkF, argsToLocals, Value.category, maxLocals]; done)) ?_
  intro p e s m below meth co T S hvp hsh
  have N := Sn.start s h0.size
  have hn : h0.size ≤ h0.size := Nat.le_refl _
  refine Go.aloadN S d_jdk_42_method_3_code_0 rfl rfl (pc' := 1) rfl ?_
  refine Go.aloadN S d_jdk_42_method_3_code_1 rfl rfl (pc' := 2) rfl ?_
  refine Go.iconst S (v := 0) d_jdk_42_method_3_code_2 rfl (pc' := 3) rfl ?_
  refine Go.aloadN S d_jdk_42_method_3_code_3 rfl rfl (pc' := 4) rfl ?_
  refine Go.arraylength S V1 d_jdk_42_method_3_code_4 (pc' := 5) rfl ?_
  refine Go.aconst_null S d_jdk_42_method_3_code_5 (pc' := 6) rfl ?_
  refine Go.invokespecialW S (y := ⟨"java/lang/String", "<init>", "([CIILjava/lang/Void;)V"⟩) (rm_sinitE4 hw o a S.ext hz E Fv Fc hh hcw) N hn (fun vm hv => Elit.warm (h := h0) hvp hv) rfl rfl (wd19 hw) (wd20 hw) (wd14 hw) (wd22 hw) (by decide) d_jdk_42_method_3_code_6 rfl pd4 (argsL := [(.ref a), (.int (0 : Int32)), (.int (0 : Int32)), .null]) rfl rfl rfl (by decide) (W := 0) rfl (by decide) (by decide) (by decide) (allS (Or.inl (List.mem_singleton.mpr rfl)) all0) (pc' := 9) rfl ?_
  intro v1 sb1 T1 h1 L1 S1 N1 K1 q1
  obtain ⟨⟨rfl, t, kb, A⟩, El⟩ := q1
  replace hn : h1.size ≤ h1.size := Nat.le_refl _
  show Go _ _ _ _ T1 (mkF m 9 #[.val (.ref o), .val (.ref a)] [])
  exact Go.vreturnW S1 N1 hn rfl d_jdk_42_method_3_code_9 (by decide) (by decide) (⟨⟨rfl, t, kb, A⟩, Elit.warm (sb := sb1) El S1.X.warmed⟩)
theorem own_nsRoot {Z : State} {a0 : Array Value} {O K : String} {n : Nat} (w : (Jvm.Cond.noSuperclass O).before a0 Z = true) (wi : (Jvm.Cond.instantiable K n).before a0 Z = true) (hn : O ≠ K) : NS Z O K := by
  obtain ⟨t, kt, f1, -⟩ := Cond.instantiable_spec wi
  obtain ⟨o, ko, g1, g2, g3, -, -⟩ := Cond.noSuperclass_spec w
  have ne := ids_ne g1 f1 hn
  refine ⟨o, t, g1, f1, fun fuel => ?_⟩
  cases fuel with
  | zero => rfl
  | succ f => rw [Vm.isSubclassAux]; simp [ne, g2, g3]
theorem own_nsNo {Z : State} {a0 : Array Value} {C K : String} {nc n : Nat} (wc : (Jvm.Cond.instantiable C nc).before a0 Z = true) (wi : (Jvm.Cond.instantiable K n).before a0 Z = true) (ns : NS Z C K) (hn : C ≠ K) : ∃ c t, Z.vm.findClass C = some c ∧ Z.vm.findClass K = some t ∧ Z.vm.assignable c t = false := by
  obtain ⟨c, t, h1, h2, h3⟩ := ns
  obtain ⟨c', kc, e1, e2, e3, e4, -⟩ := Cond.instantiable_spec wc
  obtain ⟨t', kt, f1, f2, f3, f4, -⟩ := Cond.instantiable_spec wi
  cases h1.symm.trans e1
  cases h2.symm.trans f1
  have ne := ids_ne h1 h2 hn
  have hi : kt.isInterface = false := (Bool.or_eq_false_iff.mp f4).1
  refine ⟨c, t, h1, h2, ?_⟩
  show Z.vm.assignableAux (255 + 1) c t = false
  rw [Vm.assignableAux]
  simp [ne, e2, f2, e3, f3, hi, Vm.isSubclass, h3]
theorem own_notT {Z : State} {a0 : Array Value} (hw : HW Z a0) : ∃ c t, Z.vm.findClass "java/lang/String" = some c ∧ Z.vm.findClass "com/example/opas/opas/Template" = some t ∧ Z.vm.assignable c t = false :=
  own_nsNo (wd13 hw) (wd50 hw) (NS.step (wd90 hw) (own_nsRoot (wd91 hw) (wd50 hw) (by decide)) (by decide)) (by decide)
def own_len (bits : Int64) (part : Int32) : Int32 := (((bits.toUInt64 >>> ((part * 18) &&& 0x3f).toInt64.toUInt64).toInt64 &&& 3) % 3).toInt32
def own_ch (bits : Int64) (part k : Int32) : Int32 := ((bits.toUInt64 >>> (((part * 18 + 2) + 8 * k) &&& 0x3f).toInt64.toUInt64).toInt64 &&& 255).toInt32
def own_mk (bits : Int64) (part : Int32) : List Int32 := if own_len bits part = 0 then [] else if own_len bits part = 1 then [own_b (own_ch bits part 0)] else [own_ch bits part 0, own_ch bits part 1].map own_b
theorem own_len3 (bits : Int64) (part : Int32) : own_len bits part = 0 ∨ own_len bits part = 1 ∨ own_len bits part = 2 := by
  unfold own_len
  generalize (bits.toUInt64 >>> ((part * 18) &&& 0x3f).toInt64.toUInt64).toInt64 = z
  have a := c_maskL z 3 2 (by decide) (by decide)
  have b := (c_lrem (z &&& 3) 3 3 rfl).1
  rw [lrem_mod] at b
  have d := c_l2i ((z &&& 3) % 3)
  have r := rng32 ((z &&& 3) % 3).toInt32
  have e0 : (0 : Int32).toInt = 0 := rfl
  have e1 : (1 : Int32).toInt = 1 := rfl
  have e2 : (2 : Int32).toInt = 2 := rfl
  simp only [← Int32.toInt_inj, e0, e1, e2]
  omega
theorem own_chr (bits : Int64) (part k : Int32) : ¬ own_ch bits part k < 0 ∧ ¬ 255 < own_ch bits part k := by
  unfold own_ch
  generalize (bits.toUInt64 >>> (((part * 18 + 2) + 8 * k) &&& 0x3f).toInt64.toUInt64).toInt64 = z
  have a := c_maskL z 255 8 (by decide) (by decide)
  have d := c_l2i (z &&& 255)
  have r := rng32 (z &&& 255).toInt32
  have e0 : (0 : Int32).toInt = 0 := rfl
  have e255 : (255 : Int32).toInt = 255 := rfl
  simp only [Int32.lt_iff_toInt_lt, e0, e255]
  omega
theorem own_nc {z : Int32} (h : ¬ z < 0 ∧ ¬ 255 < z) : nar .char z = z := by
  have d := c_i2c z
  have e0 : (0 : Int32).toInt = 0 := rfl
  have e255 : (255 : Int32).toInt = 255 := rfl
  obtain ⟨h0, h1⟩ := h
  rw [Int32.lt_iff_toInt_lt] at h0 h1
  rw [← Int32.toInt_inj]
  show (z.toUInt32.toUInt16.toUInt32.toInt32).toInt = _
  omega
theorem own_nc2 (bits : Int64) (part k : Int32) : nar .char ((own_ch bits part k).toUInt32.toUInt16.toUInt32.toInt32) = own_ch bits part k := by
  have q := own_nc (own_chr bits part k)
  have q' : (own_ch bits part k).toUInt32.toUInt16.toUInt32.toInt32 = own_ch bits part k := q
  rw [q']
  exact q
theorem own_binj {z w : Int32} (h : ¬ z < 0 ∧ ¬ 255 < z) (k : ¬ w < 0 ∧ ¬ 255 < w) : own_b z = own_b w ↔ z = w := by
  have a := c_i2b z
  have b := c_i2b w
  have e0 : (0 : Int32).toInt = 0 := rfl
  have e255 : (255 : Int32).toInt = 255 := rfl
  obtain ⟨h0, h1⟩ := h
  obtain ⟨k0, k1⟩ := k
  rw [Int32.lt_iff_toInt_lt] at h0 h1 k0 k1
  rw [← Int32.toInt_inj, ← Int32.toInt_inj]
  show (z.toInt8.toInt32).toInt = (w.toInt8.toInt32).toInt ↔ _
  omega
theorem own_same (a b : Int64) (part : Int32) : own_mk a part = own_mk b part ↔ own_len a part = own_len b part ∧ (own_len a part < 1 ∨ own_ch a part 0 = own_ch b part 0) ∧ (own_len a part < 2 ∨ own_ch a part 1 = own_ch b part 1) := by
  have i0 := own_binj (own_chr a part 0) (own_chr b part 0)
  have i1 := own_binj (own_chr a part 1) (own_chr b part 1)
  have n01 : ¬ (1 : Int32) = 0 := by decide
  have n02 : ¬ (2 : Int32) = 0 := by decide
  have n12 : ¬ (2 : Int32) = 1 := by decide
  have n10 : ¬ (0 : Int32) = 1 := by decide
  have n20 : ¬ (0 : Int32) = 2 := by decide
  have n21 : ¬ (1 : Int32) = 2 := by decide
  have l01 : (0 : Int32) < 1 := by decide
  have l02 : (0 : Int32) < 2 := by decide
  have l11 : ¬ (1 : Int32) < 1 := by decide
  have l12 : (1 : Int32) < 2 := by decide
  have l21 : ¬ (2 : Int32) < 1 := by decide
  have l22 : ¬ (2 : Int32) < 2 := by decide
  unfold own_mk
  rcases own_len3 a part with ha | ha | ha <;> rcases own_len3 b part with hb | hb | hb <;> rw [ha, hb] <;> simp [i0, i1]
theorem own_i0 {p : Prop} [Decidable p] (h : (if p then 1 else 0 : Int32) = 0) : ¬ p := fun q => by rw [if_pos q] at h; exact absurd h (by decide)
theorem own_i1 {p : Prop} [Decidable p] (h : ¬ (if p then 1 else 0 : Int32) = 0) : p := Classical.byContradiction fun q => h (by rw [if_neg q])
set_option maxRecDepth 65536 in
set_option maxHeartbeats 4000000 in
theorem rm_len {l : Launch} {Z : State} {a0 : Array Value} (hw : HW Z a0) (bits : Int64) (part : Int32)  {h0 : Heap} (hE : Ext Z.heap h0) :
    OMeets l Z (⟨"com/example/opas/opas/TemplateEqualsPinLaw", "len", "(JI)I"⟩ : MethodName) method_2_code 3 (some .int) ({ frames := 0, cells := 0, slots := 0, locals := 0 } : Room) #[(.long bits), (.int part)] h0 [] (fun v h => v = some (.int (own_len bits part)) ∧ h0 = h) := by
  refine OMeets.body (plainFor_of_name pn3) hE #[.val (.long bits), .second, .val (.int part)] (fun m => by first | rfl | (simp [entryFrame, mkF, argsToLocals, Value.category, maxLocals]; done)) ?_
  intro p e s m below meth co T S
  refine Go.lloadN S d_method_2_code_0 rfl (pc' := 1) rfl ?_
  refine Go.iloadN S d_method_2_code_1 rfl (pc' := 2) rfl ?_
  refine Go.bipush S (v := 18) d_method_2_code_2 rfl (pc' := 4) rfl ?_
  refine Go.imul S d_method_2_code_4 (pc' := 5) rfl ?_
  refine Go.lushr S d_method_2_code_5 (pc' := 6) rfl ?_
  refine Go.ldc2 S (wd7 hw) d_method_2_code_6 (pc' := 9) rfl ?_
  refine Go.land S d_method_2_code_9 (pc' := 10) rfl ?_
  refine Go.ldc2 S (wd7 hw) d_method_2_code_10 (pc' := 13) rfl ?_
  refine Go.lrem S d_method_2_code_13 (by decide) (pc' := 14) rfl ?_
  refine Go.l2i S d_method_2_code_14 (pc' := 15) rfl ?_
  exact Go.ireturn S rfl d_method_2_code_15 (by decide) (by decide) (⟨rfl, rfl⟩)
set_option maxRecDepth 65536 in
set_option maxHeartbeats 4000000 in
theorem rm_ch {l : Launch} {Z : State} {a0 : Array Value} (hw : HW Z a0) (bits : Int64) (part : Int32) (ix : Int32)  {h0 : Heap} (hE : Ext Z.heap h0) :
    OMeets l Z (⟨"com/example/opas/opas/TemplateEqualsPinLaw", "ch", "(JII)C"⟩ : MethodName) method_3_code 4 (some .char) ({ frames := 0, cells := 0, slots := 0, locals := 0 } : Room) #[(.long bits), (.int part), (.int ix)] h0 [] (fun v h => v = some (.int (own_ch bits part ix)) ∧ h0 = h) := by
  refine OMeets.body (plainFor_of_name pn3) hE #[.val (.long bits), .second, .val (.int part), .val (.int ix)] (fun m => by first | rfl | (simp [entryFrame, mkF, argsToLocals, Value.category, maxLocals]; done)) ?_
  intro p e s m below meth co T S
  refine Go.lloadN S d_method_3_code_0 rfl (pc' := 1) rfl ?_
  refine Go.iloadN S d_method_3_code_1 rfl (pc' := 2) rfl ?_
  refine Go.bipush S (v := 18) d_method_3_code_2 rfl (pc' := 4) rfl ?_
  refine Go.imul S d_method_3_code_4 (pc' := 5) rfl ?_
  refine Go.iconst S (v := 2) d_method_3_code_5 rfl (pc' := 6) rfl ?_
  refine Go.iadd S d_method_3_code_6 (pc' := 7) rfl ?_
  refine Go.bipush S (v := 8) d_method_3_code_7 rfl (pc' := 9) rfl ?_
  refine Go.iloadN S d_method_3_code_9 rfl (pc' := 10) rfl ?_
  refine Go.imul S d_method_3_code_10 (pc' := 11) rfl ?_
  refine Go.iadd S d_method_3_code_11 (pc' := 12) rfl ?_
  refine Go.lushr S d_method_3_code_12 (pc' := 13) rfl ?_
  refine Go.ldc2 S (wd11 hw) d_method_3_code_13 (pc' := 16) rfl ?_
  refine Go.land S d_method_3_code_16 (pc' := 17) rfl ?_
  refine Go.l2i S d_method_3_code_17 (pc' := 18) rfl ?_
  refine Go.i2c S d_method_3_code_18 (pc' := 19) rfl ?_
  exact Go.zreturn S rfl (by decide) d_method_3_code_19 (z' := (own_ch bits part ix)) (own_nc2 bits part ix) (by decide) (by decide) (⟨rfl, rfl⟩)
set_option maxRecDepth 65536 in
set_option maxHeartbeats 4000000 in
theorem rm_same {l : Launch} {Z : State} {a0 : Array Value} (hw : HW Z a0) (a : Int64) (b : Int64) (part : Int32)  {h0 : Heap} (hE : Ext Z.heap h0) :
    OMeets l Z (⟨"com/example/opas/opas/TemplateEqualsPinLaw", "same", "(JJI)Z"⟩ : MethodName) method_5_code 7 (some .boolean) ({ frames := 1, cells := 0, slots := 0, locals := 25 } : Room) #[(.long a), (.long b), (.int part)] h0 [] (fun v h => v = some (.int (if own_mk a part = own_mk b part then 1 else 0 : Int32)) ∧ h0 = h) := by
  refine OMeets.body (plainFor_of_name pn3) hE #[.val (.long a), .second, .val (.long b), .second, .val (.int part), .unset, .unset] (fun m => by first | rfl | (simp [entryFrame, mkF, argsToLocals, Value.category, maxLocals]; done)) ?_
  intro p e s m below meth co T S
  refine Go.lloadN S d_method_5_code_0 rfl (pc' := 1) rfl ?_
  refine Go.iload S d_method_5_code_1 rfl (pc' := 3) rfl ?_
  refine Go.invokestatic S (y := ⟨"com/example/opas/opas/TemplateEqualsPinLaw", "len", "(JI)I"⟩) (rm_len hw a part S.ext) (wd4 hw) (wd5 hw) (wd2 hw) (wd6 hw) (by decide) d_method_5_code_3 rfl pd8 (argsL := [(.long a), (.int part)]) rfl rfl rfl (by decide) (W := 0) rfl (by decide) (by decide) (by decide) all0 (pc' := 6) rfl ?_
  intro v1 T1 h1 L1 S1 K1 q1
  obtain ⟨rfl, rfl⟩ := q1
  show Go _ _ _ _ T1 (mkF m 6 #[.val (.long a), .second, .val (.long b), .second, .val (.int part), .unset, .unset] [(.int (own_len a part))])
  refine Go.istore S1 d_method_5_code_6 (Ls' := #[.val (.long a), .second, .val (.long b), .second, .val (.int part), .val (.int (own_len a part)), .unset]) rfl (pc' := 8) rfl ?_
  refine Go.lloadN S1 d_method_5_code_8 rfl (pc' := 9) rfl ?_
  refine Go.iload S1 d_method_5_code_9 rfl (pc' := 11) rfl ?_
  refine Go.invokestatic S1 (y := ⟨"com/example/opas/opas/TemplateEqualsPinLaw", "len", "(JI)I"⟩) (rm_len hw b part S1.ext) (wd4 hw) (wd5 hw) (wd2 hw) (wd6 hw) (by decide) d_method_5_code_11 rfl pd8 (argsL := [(.long b), (.int part)]) rfl rfl rfl (by decide) (W := 0) rfl (by decide) (by decide) (by decide) all0 (pc' := 14) rfl ?_
  intro v2 T2 h2 L2 S2 K2 q2
  obtain ⟨rfl, rfl⟩ := q2
  show Go _ _ _ _ T2 (mkF m 14 #[.val (.long a), .second, .val (.long b), .second, .val (.int part), .val (.int (own_len a part)), .unset] [(.int (own_len b part))])
  refine Go.istore S2 d_method_5_code_14 (Ls' := #[.val (.long a), .second, .val (.long b), .second, .val (.int part), .val (.int (own_len a part)), .val (.int (own_len b part))]) rfl (pc' := 16) rfl ?_
  refine Go.iload S2 d_method_5_code_16 rfl (pc' := 18) rfl ?_
  refine Go.iload S2 d_method_5_code_18 rfl (pc' := 20) rfl ?_
  refine Go.icmp_ne S2 d_method_5_code_20 (pt := 73) (by decide) (pc' := 23) rfl ?_ ?_
  · intro c20
    refine Go.iconst S2 (v := 0) d_method_5_code_73 rfl (pc' := 74) rfl ?_
    exact Go.zreturn S2 rfl (by decide) d_method_5_code_74 (z' := (0 : Int32)) rfl (by decide) (by decide) (⟨by rw [if_neg (fun q => c20 ((own_same a b part).mp q).1)], rfl⟩)
  · intro c20
    refine Go.iload S2 d_method_5_code_23 rfl (pc' := 25) rfl ?_
    refine Go.iconst S2 (v := 1) d_method_5_code_25 rfl (pc' := 26) rfl ?_
    refine Go.icmp_lt S2 d_method_5_code_26 (pt := 46) (by decide) (pc' := 29) rfl ?_ ?_
    · intro c26
      refine Go.iload S2 d_method_5_code_46 rfl (pc' := 48) rfl ?_
      refine Go.iconst S2 (v := 2) d_method_5_code_48 rfl (pc' := 49) rfl ?_
      refine Go.icmp_lt S2 d_method_5_code_49 (pt := 69) (by decide) (pc' := 52) rfl ?_ ?_
      · intro c49
        refine Go.iconst S2 (v := 1) d_method_5_code_69 rfl (pc' := 70) rfl ?_
        refine Go.goto S2 d_method_5_code_70 (pc' := 74) (by decide) ?_
        exact Go.zreturn S2 rfl (by decide) d_method_5_code_74 (z' := (1 : Int32)) rfl (by decide) (by decide) (⟨by rw [if_pos ((own_same a b part).mpr ⟨c20, (Or.inl c26), (Or.inl c49)⟩)], rfl⟩)
      · intro c49
        refine Go.lloadN S2 d_method_5_code_52 rfl (pc' := 53) rfl ?_
        refine Go.iload S2 d_method_5_code_53 rfl (pc' := 55) rfl ?_
        refine Go.iconst S2 (v := 1) d_method_5_code_55 rfl (pc' := 56) rfl ?_
        refine Go.invokestatic S2 (y := ⟨"com/example/opas/opas/TemplateEqualsPinLaw", "ch", "(JII)C"⟩) (rm_ch hw a part 1 S2.ext) (wd8 hw) (wd9 hw) (wd2 hw) (wd10 hw) (by decide) d_method_5_code_56 rfl pd9 (argsL := [(.long a), (.int part), (.int (1 : Int32))]) rfl rfl rfl (by decide) (W := 0) rfl (by decide) (by decide) (by decide) all0 (pc' := 59) rfl ?_
        intro v3 T3 h3 L3 S3 K3 q3
        obtain ⟨rfl, rfl⟩ := q3
        show Go _ _ _ _ T3 (mkF m 59 #[.val (.long a), .second, .val (.long b), .second, .val (.int part), .val (.int (own_len a part)), .val (.int (own_len b part))] [(.int (own_ch a part 1))])
        refine Go.lloadN S3 d_method_5_code_59 rfl (pc' := 60) rfl ?_
        refine Go.iload S3 d_method_5_code_60 rfl (pc' := 62) rfl ?_
        refine Go.iconst S3 (v := 1) d_method_5_code_62 rfl (pc' := 63) rfl ?_
        refine Go.invokestatic S3 (y := ⟨"com/example/opas/opas/TemplateEqualsPinLaw", "ch", "(JII)C"⟩) (rm_ch hw b part 1 S3.ext) (wd8 hw) (wd9 hw) (wd2 hw) (wd10 hw) (by decide) d_method_5_code_63 rfl pd9 (argsL := [(.long b), (.int part), (.int (1 : Int32))]) rfl rfl rfl (by decide) (W := 1) rfl (by decide) (by decide) (by decide) all0 (pc' := 66) rfl ?_
        intro v4 T4 h4 L4 S4 K4 q4
        obtain ⟨rfl, rfl⟩ := q4
        show Go _ _ _ _ T4 (mkF m 66 #[.val (.long a), .second, .val (.long b), .second, .val (.int part), .val (.int (own_len a part)), .val (.int (own_len b part))] [(.int (own_ch b part 1)), (.int (own_ch a part 1))])
        refine Go.icmp_ne S4 d_method_5_code_66 (pt := 73) (by decide) (pc' := 69) rfl ?_ ?_
        · intro c66
          refine Go.iconst S4 (v := 0) d_method_5_code_73 rfl (pc' := 74) rfl ?_
          exact Go.zreturn S4 rfl (by decide) d_method_5_code_74 (z' := (0 : Int32)) rfl (by decide) (by decide) (⟨by rw [if_neg (fun q => ((own_same a b part).mp q).2.2.elim c49 c66)], rfl⟩)
        · intro c66
          refine Go.iconst S4 (v := 1) d_method_5_code_69 rfl (pc' := 70) rfl ?_
          refine Go.goto S4 d_method_5_code_70 (pc' := 74) (by decide) ?_
          exact Go.zreturn S4 rfl (by decide) d_method_5_code_74 (z' := (1 : Int32)) rfl (by decide) (by decide) (⟨by rw [if_pos ((own_same a b part).mpr ⟨c20, (Or.inl c26), (Or.inr c66)⟩)], rfl⟩)
    · intro c26
      refine Go.lloadN S2 d_method_5_code_29 rfl (pc' := 30) rfl ?_
      refine Go.iload S2 d_method_5_code_30 rfl (pc' := 32) rfl ?_
      refine Go.iconst S2 (v := 0) d_method_5_code_32 rfl (pc' := 33) rfl ?_
      refine Go.invokestatic S2 (y := ⟨"com/example/opas/opas/TemplateEqualsPinLaw", "ch", "(JII)C"⟩) (rm_ch hw a part 0 S2.ext) (wd8 hw) (wd9 hw) (wd2 hw) (wd10 hw) (by decide) d_method_5_code_33 rfl pd9 (argsL := [(.long a), (.int part), (.int (0 : Int32))]) rfl rfl rfl (by decide) (W := 0) rfl (by decide) (by decide) (by decide) all0 (pc' := 36) rfl ?_
      intro v5 T5 h5 L5 S5 K5 q5
      obtain ⟨rfl, rfl⟩ := q5
      show Go _ _ _ _ T5 (mkF m 36 #[.val (.long a), .second, .val (.long b), .second, .val (.int part), .val (.int (own_len a part)), .val (.int (own_len b part))] [(.int (own_ch a part 0))])
      refine Go.lloadN S5 d_method_5_code_36 rfl (pc' := 37) rfl ?_
      refine Go.iload S5 d_method_5_code_37 rfl (pc' := 39) rfl ?_
      refine Go.iconst S5 (v := 0) d_method_5_code_39 rfl (pc' := 40) rfl ?_
      refine Go.invokestatic S5 (y := ⟨"com/example/opas/opas/TemplateEqualsPinLaw", "ch", "(JII)C"⟩) (rm_ch hw b part 0 S5.ext) (wd8 hw) (wd9 hw) (wd2 hw) (wd10 hw) (by decide) d_method_5_code_40 rfl pd9 (argsL := [(.long b), (.int part), (.int (0 : Int32))]) rfl rfl rfl (by decide) (W := 1) rfl (by decide) (by decide) (by decide) all0 (pc' := 43) rfl ?_
      intro v6 T6 h6 L6 S6 K6 q6
      obtain ⟨rfl, rfl⟩ := q6
      show Go _ _ _ _ T6 (mkF m 43 #[.val (.long a), .second, .val (.long b), .second, .val (.int part), .val (.int (own_len a part)), .val (.int (own_len b part))] [(.int (own_ch b part 0)), (.int (own_ch a part 0))])
      refine Go.icmp_ne S6 d_method_5_code_43 (pt := 73) (by decide) (pc' := 46) rfl ?_ ?_
      · intro c43
        refine Go.iconst S6 (v := 0) d_method_5_code_73 rfl (pc' := 74) rfl ?_
        exact Go.zreturn S6 rfl (by decide) d_method_5_code_74 (z' := (0 : Int32)) rfl (by decide) (by decide) (⟨by rw [if_neg (fun q => ((own_same a b part).mp q).2.1.elim c26 c43)], rfl⟩)
      · intro c43
        refine Go.iload S6 d_method_5_code_46 rfl (pc' := 48) rfl ?_
        refine Go.iconst S6 (v := 2) d_method_5_code_48 rfl (pc' := 49) rfl ?_
        refine Go.icmp_lt S6 d_method_5_code_49 (pt := 69) (by decide) (pc' := 52) rfl ?_ ?_
        · intro c49
          refine Go.iconst S6 (v := 1) d_method_5_code_69 rfl (pc' := 70) rfl ?_
          refine Go.goto S6 d_method_5_code_70 (pc' := 74) (by decide) ?_
          exact Go.zreturn S6 rfl (by decide) d_method_5_code_74 (z' := (1 : Int32)) rfl (by decide) (by decide) (⟨by rw [if_pos ((own_same a b part).mpr ⟨c20, (Or.inr c43), (Or.inl c49)⟩)], rfl⟩)
        · intro c49
          refine Go.lloadN S6 d_method_5_code_52 rfl (pc' := 53) rfl ?_
          refine Go.iload S6 d_method_5_code_53 rfl (pc' := 55) rfl ?_
          refine Go.iconst S6 (v := 1) d_method_5_code_55 rfl (pc' := 56) rfl ?_
          refine Go.invokestatic S6 (y := ⟨"com/example/opas/opas/TemplateEqualsPinLaw", "ch", "(JII)C"⟩) (rm_ch hw a part 1 S6.ext) (wd8 hw) (wd9 hw) (wd2 hw) (wd10 hw) (by decide) d_method_5_code_56 rfl pd9 (argsL := [(.long a), (.int part), (.int (1 : Int32))]) rfl rfl rfl (by decide) (W := 0) rfl (by decide) (by decide) (by decide) all0 (pc' := 59) rfl ?_
          intro v7 T7 h7 L7 S7 K7 q7
          obtain ⟨rfl, rfl⟩ := q7
          show Go _ _ _ _ T7 (mkF m 59 #[.val (.long a), .second, .val (.long b), .second, .val (.int part), .val (.int (own_len a part)), .val (.int (own_len b part))] [(.int (own_ch a part 1))])
          refine Go.lloadN S7 d_method_5_code_59 rfl (pc' := 60) rfl ?_
          refine Go.iload S7 d_method_5_code_60 rfl (pc' := 62) rfl ?_
          refine Go.iconst S7 (v := 1) d_method_5_code_62 rfl (pc' := 63) rfl ?_
          refine Go.invokestatic S7 (y := ⟨"com/example/opas/opas/TemplateEqualsPinLaw", "ch", "(JII)C"⟩) (rm_ch hw b part 1 S7.ext) (wd8 hw) (wd9 hw) (wd2 hw) (wd10 hw) (by decide) d_method_5_code_63 rfl pd9 (argsL := [(.long b), (.int part), (.int (1 : Int32))]) rfl rfl rfl (by decide) (W := 1) rfl (by decide) (by decide) (by decide) all0 (pc' := 66) rfl ?_
          intro v8 T8 h8 L8 S8 K8 q8
          obtain ⟨rfl, rfl⟩ := q8
          show Go _ _ _ _ T8 (mkF m 66 #[.val (.long a), .second, .val (.long b), .second, .val (.int part), .val (.int (own_len a part)), .val (.int (own_len b part))] [(.int (own_ch b part 1)), (.int (own_ch a part 1))])
          refine Go.icmp_ne S8 d_method_5_code_66 (pt := 73) (by decide) (pc' := 69) rfl ?_ ?_
          · intro c66
            refine Go.iconst S8 (v := 0) d_method_5_code_73 rfl (pc' := 74) rfl ?_
            exact Go.zreturn S8 rfl (by decide) d_method_5_code_74 (z' := (0 : Int32)) rfl (by decide) (by decide) (⟨by rw [if_neg (fun q => ((own_same a b part).mp q).2.2.elim c49 c66)], rfl⟩)
          · intro c66
            refine Go.iconst S8 (v := 1) d_method_5_code_69 rfl (pc' := 70) rfl ?_
            refine Go.goto S8 d_method_5_code_70 (pc' := 74) (by decide) ?_
            exact Go.zreturn S8 rfl (by decide) d_method_5_code_74 (z' := (1 : Int32)) rfl (by decide) (by decide) (⟨by rw [if_pos ((own_same a b part).mpr ⟨c20, (Or.inr c43), (Or.inr c66)⟩)], rfl⟩)
set_option maxRecDepth 65536 in
set_option maxHeartbeats 4000000 in
theorem rm_mk {l : Launch} {Z : State} {a0 : Array Value} (hw : HW Z a0) (bits : Int64) (part : Int32) (cs : Int32) {h0 : Heap} (hE : Ext Z.heap h0) (Cs : Sta Z Z.heap "java/lang/String" "COMPACT_STRINGS" "Z" (.int cs)) (Cn : ¬ cs = 0) (hh : Jvm.Lit.constHeld Z "java/lang/String" 7) (hcw : Jvm.Lit.compactW.before a0 Z = true) :
    OMeetsW l Z (⟨"com/example/opas/opas/TemplateEqualsPinLaw", "mk", "(JI)Ljava/lang/String;"⟩ : MethodName) method_4_code 6 (some (.object "java/lang/String")) ({ frames := 4, cells := 4, slots := 10, locals := 72 } : Room) #[(.long bits), (.int part)] h0 [] (fun vm => Elit Z vm h0) (fun v h vm => (∃ o t kb, v = some (.ref o) ∧ StrAt Z h o t kb (own_mk bits part)) ∧ Elit Z vm h) := by
  refine OMeetsW.body (plainFor_of_name pn3) hE #[.val (.long bits), .second, .val (.int part), .unset, .unset, .unset] (fun m => by first | rfl | (simp [entryFrame, mkF, argsToLocals, Value.category, maxLocals]; done)) ?_
  intro p e s m below meth co T S hvp hsh
  have N := Sn.start s h0.size
  have hn : h0.size ≤ h0.size := Nat.le_refl _
  refine Go.lloadN S d_method_4_code_0 rfl (pc' := 1) rfl ?_
  refine Go.iloadN S d_method_4_code_1 rfl (pc' := 2) rfl ?_
  refine Go.invokestatic S (y := ⟨"com/example/opas/opas/TemplateEqualsPinLaw", "len", "(JI)I"⟩) (rm_len hw bits part S.ext) (wd4 hw) (wd5 hw) (wd2 hw) (wd6 hw) (by decide) d_method_4_code_2 rfl pd8 (argsL := [(.long bits), (.int part)]) rfl rfl rfl (by decide) (W := 0) rfl (by decide) (by decide) (by decide) all0 (pc' := 5) rfl ?_
  intro v1 T1 h1 L1 S1 K1 q1
  obtain ⟨rfl, rfl⟩ := q1
  show Go _ _ _ _ T1 (mkF m 5 #[.val (.long bits), .second, .val (.int part), .unset, .unset, .unset] [(.int (own_len bits part))])
  refine Go.istoreN S1 d_method_4_code_5 (Ls' := #[.val (.long bits), .second, .val (.int part), .val (.int (own_len bits part)), .unset, .unset]) rfl (pc' := 6) rfl ?_
  refine Go.lloadN S1 d_method_4_code_6 rfl (pc' := 7) rfl ?_
  refine Go.iloadN S1 d_method_4_code_7 rfl (pc' := 8) rfl ?_
  refine Go.iconst S1 (v := 0) d_method_4_code_8 rfl (pc' := 9) rfl ?_
  refine Go.invokestatic S1 (y := ⟨"com/example/opas/opas/TemplateEqualsPinLaw", "ch", "(JII)C"⟩) (rm_ch hw bits part 0 S1.ext) (wd8 hw) (wd9 hw) (wd2 hw) (wd10 hw) (by decide) d_method_4_code_9 rfl pd9 (argsL := [(.long bits), (.int part), (.int (0 : Int32))]) rfl rfl rfl (by decide) (W := 0) rfl (by decide) (by decide) (by decide) all0 (pc' := 12) rfl ?_
  intro v2 T2 h2 L2 S2 K2 q2
  obtain ⟨rfl, rfl⟩ := q2
  show Go _ _ _ _ T2 (mkF m 12 #[.val (.long bits), .second, .val (.int part), .val (.int (own_len bits part)), .unset, .unset] [(.int (own_ch bits part 0))])
  refine Go.istore S2 d_method_4_code_12 (Ls' := #[.val (.long bits), .second, .val (.int part), .val (.int (own_len bits part)), .val (.int (own_ch bits part 0)), .unset]) rfl (pc' := 14) rfl ?_
  refine Go.lloadN S2 d_method_4_code_14 rfl (pc' := 15) rfl ?_
  refine Go.iloadN S2 d_method_4_code_15 rfl (pc' := 16) rfl ?_
  refine Go.iconst S2 (v := 1) d_method_4_code_16 rfl (pc' := 17) rfl ?_
  refine Go.invokestatic S2 (y := ⟨"com/example/opas/opas/TemplateEqualsPinLaw", "ch", "(JII)C"⟩) (rm_ch hw bits part 1 S2.ext) (wd8 hw) (wd9 hw) (wd2 hw) (wd10 hw) (by decide) d_method_4_code_17 rfl pd9 (argsL := [(.long bits), (.int part), (.int (1 : Int32))]) rfl rfl rfl (by decide) (W := 0) rfl (by decide) (by decide) (by decide) all0 (pc' := 20) rfl ?_
  intro v3 T3 h3 L3 S3 K3 q3
  obtain ⟨rfl, rfl⟩ := q3
  show Go _ _ _ _ T3 (mkF m 20 #[.val (.long bits), .second, .val (.int part), .val (.int (own_len bits part)), .val (.int (own_ch bits part 0)), .unset] [(.int (own_ch bits part 1))])
  refine Go.istore S3 d_method_4_code_20 (Ls' := #[.val (.long bits), .second, .val (.int part), .val (.int (own_len bits part)), .val (.int (own_ch bits part 0)), .val (.int (own_ch bits part 1))]) rfl (pc' := 22) rfl ?_
  refine Go.iloadN S3 d_method_4_code_22 rfl (pc' := 23) rfl ?_
  refine Go.if_ne S3 d_method_4_code_23 (pt := 37) (by decide) (pc' := 26) rfl ?_ ?_
  · intro c23
    refine Go.iloadN S3 d_method_4_code_37 rfl (pc' := 38) rfl ?_
    refine Go.iconst S3 (v := 1) d_method_4_code_38 rfl (pc' := 39) rfl ?_
    refine Go.icmp_ne S3 d_method_4_code_39 (pt := 48) (by decide) (pc' := 42) rfl ?_ ?_
    · intro c39
      refine Go.new S3 (wd12 hw) (wd13 hw) (wd14 hw) d_method_4_code_48 (by decide) (by decide) (pc' := 51) rfl ?_
      intro T4 h4 a4 S4 E4 hg4 hz4 hk4 X4 D4
      replace hn := Nat.le_trans hn E4.1
      have F4_value : Fld Z h4 a4 "java/lang/String" "value" "[B" .null := D4 (Or.inr (wd28 hw)) (ty := (.array .byte)) (by decide)
      have F4_coder : Fld Z h4 a4 "java/lang/String" "coder" "B" (.int (0 : Int32)) := D4 (Or.inr (wd29 hw)) (ty := .byte) (by decide)
      refine Go.dup S4 d_method_4_code_51 rfl (pc' := 52) rfl ?_
      refine Go.iconst S4 (v := 2) d_method_4_code_52 rfl (pc' := 53) rfl ?_
      refine Go.newarray S4 (ty := .char) (dv := (.int (0 : Int32))) rfl rfl (wd15 hw) d_method_4_code_53 (by decide) (cap := 2) (by decide) (by decide) (by decide) (by decide) (pc' := 55) rfl ?_
      intro T5 h5 a5 kA5 S5 E5 hg5 hz5 hk5 V5
      replace V5 : Arv Z h5 a5 kA5 .char (2 : Int32) [(.int (0 : Int32)), (.int (0 : Int32))] (.int (0 : Int32)) := V5
      have n_a4_a5 : a4 ≠ a5 := Nat.ne_of_lt (Nat.lt_of_lt_of_le X4.lt (Nat.le_of_eq hg5))
      replace hn := Nat.le_trans hn E5.1
      replace X4 := X4.ext E5
      replace F4_value := F4_value.ext E5
      replace F4_coder := F4_coder.ext E5
      refine Go.dup S5 d_method_4_code_55 rfl (pc' := 56) rfl ?_
      refine Go.iconst S5 (v := 0) d_method_4_code_56 rfl (pc' := 57) rfl ?_
      refine Go.iload S5 d_method_4_code_57 rfl (pc' := 59) rfl ?_
      refine Go.castore S5 V5 (by decide) (i := 0) (by decide) (Nat.le_of_ble_eq_true rfl) hz5 (Or.inr hk5) d_method_4_code_59 (pc' := 60) rfl ?_
      intro T6 h6 L6 S6 W6 V6
      rw [show nar .char (own_ch bits part 0) = (own_ch bits part 0) from own_nc (own_chr _ _ _)] at V6
      replace V6 : Arv Z h6 a5 kA5 .char (2 : Int32) [(.int (own_ch bits part 0)), (.int (0 : Int32))] (.int (0 : Int32)) := V6
      replace hn := Nat.le_trans hn (Nat.le_of_eq W6.size.symm)
      replace X4 := X4.wr W6
      replace F4_value := F4_value.other W6 (Or.inl (n_a4_a5))
      replace F4_coder := F4_coder.other W6 (Or.inl (n_a4_a5))
      refine Go.dup S6 d_method_4_code_60 rfl (pc' := 61) rfl ?_
      refine Go.iconst S6 (v := 1) d_method_4_code_61 rfl (pc' := 62) rfl ?_
      refine Go.iload S6 d_method_4_code_62 rfl (pc' := 64) rfl ?_
      refine Go.castore S6 V6 (by decide) (i := 1) (by decide) (Nat.le_of_ble_eq_true rfl) hz5 (Or.inr hk5) d_method_4_code_64 (pc' := 65) rfl ?_
      intro T7 h7 L7 S7 W7 V7
      rw [show nar .char (own_ch bits part 1) = (own_ch bits part 1) from own_nc (own_chr _ _ _)] at V7
      replace V7 : Arv Z h7 a5 kA5 .char (2 : Int32) [(.int (own_ch bits part 0)), (.int (own_ch bits part 1))] (.int (0 : Int32)) := V7
      replace hn := Nat.le_trans hn (Nat.le_of_eq W7.size.symm)
      replace X4 := X4.wr W7
      replace F4_value := F4_value.other W7 (Or.inl (n_a4_a5))
      replace F4_coder := F4_coder.other W7 (Or.inl (n_a4_a5))
      refine Go.invokespecial S7 (y := ⟨"java/lang/String", "<init>", "([C)V"⟩) (rm_sinit hw a4 a5 kA5 [own_ch bits part 0, own_ch bits part 1] cs (by simp) (by simp) (fun z hz => by simp only [List.mem_cons, List.not_mem_nil, or_false] at hz; rcases hz with rfl | rfl <;> exact (own_chr _ _ _).2) S7.ext hz4 X4 F4_value F4_coder (Ne.symm n_a4_a5) V7 Cs Cn) rfl rfl (wd16 hw) (wd17 hw) (wd14 hw) (wd18 hw) (by decide) d_method_4_code_65 rfl pd10 (argsL := [(.ref a5)]) rfl rfl rfl (by decide) (W := 1) rfl (by decide) (by decide) (by decide) (allS (Or.inr hk4) all0) (pc' := 68) rfl ?_
      intro v8 T8 h8 L8 S8 K8 q8
      obtain ⟨rfl, ts, kb, A, ht⟩ := q8
      replace hn := Nat.le_trans hn K8.1
      replace X4 := X4.keep K8
      replace V7 := V7.keep K8 (ninS (Ne.symm n_a4_a5) nin0)
      show Go _ _ _ _ T8 (mkF m 68 #[.val (.long bits), .second, .val (.int part), .val (.int (own_len bits part)), .val (.int (own_ch bits part 0)), .val (.int (own_ch bits part 1))] [(.ref a4)])
      exact Go.areturnW S8 N hn rfl rfl rfl d_method_4_code_68 (by decide) (by decide) (⟨⟨a4, ts, kb, rfl, by unfold own_mk; rw [if_neg c23, if_neg c39]; exact A⟩, Elit.warm (sb := s) (Elit.keep hvp S8.keep) S8.X.warmed⟩)
    · intro c39
      refine Go.iload S3 d_method_4_code_42 rfl (pc' := 44) rfl ?_
      refine Go.invokestatic S3 (y := ⟨"java/lang/String", "valueOf", "(C)Ljava/lang/String;"⟩) (rm_valueOf hw (own_ch bits part 0) cs S3.ext (own_chr bits part 0).2 Cs Cn) (wd34 hw) (wd35 hw) (wd14 hw) (wd36 hw) (by decide) d_method_4_code_44 rfl pd11 (argsL := [(.int (own_ch bits part 0))]) rfl rfl rfl (by decide) (W := 0) rfl (by decide) (by decide) (by decide) all0 (pc' := 47) rfl ?_
      intro v9 T9 h9 L9 S9 K9 q9
      obtain ⟨so, ts, kb, rfl, A⟩ := q9
      replace hn := Nat.le_trans hn K9.1
      show Go _ _ _ _ T9 (mkF m 47 #[.val (.long bits), .second, .val (.int part), .val (.int (own_len bits part)), .val (.int (own_ch bits part 0)), .val (.int (own_ch bits part 1))] [(.ref so)])
      exact Go.areturnW S9 N hn rfl rfl rfl d_method_4_code_47 (by decide) (by decide) (⟨⟨so, ts, kb, rfl, by unfold own_mk; rw [if_neg c23, if_pos c39]; exact A⟩, Elit.warm (sb := s) (Elit.keep hvp S9.keep) S9.X.warmed⟩)
  · intro c23
    refine Go.new S3 (wd12 hw) (wd13 hw) (wd14 hw) d_method_4_code_26 (by decide) (by decide) (pc' := 29) rfl ?_
    intro T10 h10 a10 S10 E10 hg10 hz10 hk10 X10 D10
    replace hn := Nat.le_trans hn E10.1
    have F10_value : Fld Z h10 a10 "java/lang/String" "value" "[B" .null := D10 (Or.inr (wd28 hw)) (ty := (.array .byte)) (by decide)
    have F10_coder : Fld Z h10 a10 "java/lang/String" "coder" "B" (.int (0 : Int32)) := D10 (Or.inr (wd29 hw)) (ty := .byte) (by decide)
    refine Go.dup S10 d_method_4_code_29 rfl (pc' := 30) rfl ?_
    refine Go.iconst S10 (v := 0) d_method_4_code_30 rfl (pc' := 31) rfl ?_
    refine Go.newarray S10 (ty := .char) (dv := (.int (0 : Int32))) rfl rfl (wd15 hw) d_method_4_code_31 (by decide) (cap := 0) (by decide) (by decide) (by decide) (by decide) (pc' := 33) rfl ?_
    intro T11 h11 a11 kA11 S11 E11 hg11 hz11 hk11 V11
    replace V11 : Arv Z h11 a11 kA11 .char (0 : Int32) [] (.int (0 : Int32)) := V11
    have n_a10_a11 : a10 ≠ a11 := Nat.ne_of_lt (Nat.lt_of_lt_of_le X10.lt (Nat.le_of_eq hg11))
    replace hn := Nat.le_trans hn E11.1
    replace X10 := X10.ext E11
    replace F10_value := F10_value.ext E11
    replace F10_coder := F10_coder.ext E11
    refine Go.invokespecialW S11 (y := ⟨"java/lang/String", "<init>", "([C)V"⟩) (rm_sinitE hw a10 a11 kA11 S11.ext hz10 X10 F10_value F10_coder hh hcw V11) N hn (fun vm hv => Elit.warm (Elit.keep hvp S11.keep) hv) rfl rfl (wd16 hw) (wd17 hw) (wd14 hw) (wd18 hw) (by decide) d_method_4_code_33 rfl pd10 (argsL := [(.ref a11)]) rfl rfl rfl (by decide) (W := 1) rfl (by decide) (by decide) (by decide) (allS (Or.inr hk10) all0) (pc' := 36) rfl ?_
    intro v12 sb12 T12 h12 L12 S12 N12 K12 q12
    obtain ⟨⟨rfl, ts, kb, A⟩, El⟩ := q12
    replace X10 := X10.keep K12
    replace V11 := V11.keep K12 (ninS (Ne.symm n_a10_a11) nin0)
    replace hn : h12.size ≤ h12.size := Nat.le_refl _
    show Go _ _ _ _ T12 (mkF m 36 #[.val (.long bits), .second, .val (.int part), .val (.int (own_len bits part)), .val (.int (own_ch bits part 0)), .val (.int (own_ch bits part 1))] [(.ref a10)])
    exact Go.areturnW S12 N12 hn rfl rfl rfl d_method_4_code_36 (by decide) (by decide) (⟨⟨a10, ts, kb, rfl, by unfold own_mk; rw [if_pos c23]; exact A⟩, Elit.warm (sb := sb12) El S12.X.warmed⟩)
set_option maxRecDepth 65536 in
set_option maxHeartbeats 4000000 in
theorem rm_tinit {l : Launch} {Z : State} {a0 : Array Value} (hw : HW Z a0) (o : Addr) (s1 : Addr) (s2 : Addr) (s3 : Addr)  {h0 : Heap} (hE : Ext Z.heap h0) (hz : Z.heap.size ≤ o) (E : Exa Z h0 o "com/example/opas/opas/Template") (F_before : Fld Z h0 o "com/example/opas/opas/Template" "before" "Ljava/lang/String;" .null) (F_kind : Fld Z h0 o "com/example/opas/opas/Template" "kind" "Ljava/lang/String;" .null) (F_after : Fld Z h0 o "com/example/opas/opas/Template" "after" "Ljava/lang/String;" .null) :
    OMeets l Z (⟨"com/example/opas/opas/Template", "<init>", "(Ljava/lang/String;Ljava/lang/String;Ljava/lang/String;)V"⟩ : MethodName) prog_26_method_1_code 4 none ({ frames := 1, cells := 0, slots := 0, locals := 12 } : Room) #[(.ref o), (.ref s1), (.ref s2), (.ref s3)] h0 [o] (fun v h => v = none ∧ Fld Z h o "com/example/opas/opas/Template" "before" "Ljava/lang/String;" (.ref s1) ∧ Fld Z h o "com/example/opas/opas/Template" "kind" "Ljava/lang/String;" (.ref s2) ∧ Fld Z h o "com/example/opas/opas/Template" "after" "Ljava/lang/String;" (.ref s3)) := by
  refine OMeets.body (plainFor_of_name pn4) hE #[.val (.ref o), .val (.ref s1), .val (.ref s2), .val (.ref s3)] (fun m => by first | rfl | (simp [entryFrame, mkF, argsToLocals, Value.category, maxLocals]; done)) ?_
  intro p e s m below meth co T S
  refine Go.aloadN S d_prog_26_method_1_code_0 rfl rfl (pc' := 1) rfl ?_
  refine Go.initObject S (wd55 hw) (wd24 hw) (wd25 hw) d_prog_26_method_1_code_1 rfl (by decide) (W := 0) rfl (by decide) (pc' := 4) rfl ?_
  intro T1 S1
  refine Go.aloadN S1 d_prog_26_method_1_code_4 rfl rfl (pc' := 5) rfl ?_
  refine Go.aloadN S1 d_prog_26_method_1_code_5 rfl rfl (pc' := 6) rfl ?_
  refine Go.putfield S1 (host := "") (Or.inl (wd56 hw)) Via.refl F_before E (Or.inr ⟨(wd57 hw), rfl, rfl⟩) (wd50 hw) (ty := (.object "java/lang/String")) (by decide) rfl rfl hz (Or.inl (List.mem_singleton.mpr rfl)) d_prog_26_method_1_code_6 (pc' := 9) rfl ?_
  intro T2 h2 L2 S2 W2
  have F2 := F_before.same W2
  replace F_kind := F_kind.other W2 (Or.inr (slot_ne (Or.inr (wd59 hw)) (Or.inr (wd57 hw)) (by decide) (t := (.object "java/lang/String")) (t' := (.object "java/lang/String")) (by decide) (by decide)))
  replace F_after := F_after.other W2 (Or.inr (slot_ne (Or.inr (wd61 hw)) (Or.inr (wd57 hw)) (by decide) (t := (.object "java/lang/String")) (t' := (.object "java/lang/String")) (by decide) (by decide)))
  replace E := E.wr W2
  refine Go.aloadN S2 d_prog_26_method_1_code_9 rfl rfl (pc' := 10) rfl ?_
  refine Go.aloadN S2 d_prog_26_method_1_code_10 rfl rfl (pc' := 11) rfl ?_
  refine Go.putfield S2 (host := "") (Or.inl (wd58 hw)) Via.refl F_kind E (Or.inr ⟨(wd59 hw), rfl, rfl⟩) (wd50 hw) (ty := (.object "java/lang/String")) (by decide) rfl rfl hz (Or.inl (List.mem_singleton.mpr rfl)) d_prog_26_method_1_code_11 (pc' := 14) rfl ?_
  intro T3 h3 L3 S3 W3
  have F3 := F_kind.same W3
  replace F_after := F_after.other W3 (Or.inr (slot_ne (Or.inr (wd61 hw)) (Or.inr (wd59 hw)) (by decide) (t := (.object "java/lang/String")) (t' := (.object "java/lang/String")) (by decide) (by decide)))
  replace F2 := F2.other W3 (Or.inr (slot_ne (Or.inr (wd57 hw)) (Or.inr (wd59 hw)) (by decide) (t := (.object "java/lang/String")) (t' := (.object "java/lang/String")) (by decide) (by decide)))
  replace E := E.wr W3
  refine Go.aloadN S3 d_prog_26_method_1_code_14 rfl rfl (pc' := 15) rfl ?_
  refine Go.aloadN S3 d_prog_26_method_1_code_15 rfl rfl (pc' := 16) rfl ?_
  refine Go.putfield S3 (host := "") (Or.inl (wd60 hw)) Via.refl F_after E (Or.inr ⟨(wd61 hw), rfl, rfl⟩) (wd50 hw) (ty := (.object "java/lang/String")) (by decide) rfl rfl hz (Or.inl (List.mem_singleton.mpr rfl)) d_prog_26_method_1_code_16 (pc' := 19) rfl ?_
  intro T4 h4 L4 S4 W4
  have F4 := F_after.same W4
  replace F2 := F2.other W4 (Or.inr (slot_ne (Or.inr (wd57 hw)) (Or.inr (wd61 hw)) (by decide) (t := (.object "java/lang/String")) (t' := (.object "java/lang/String")) (by decide) (by decide)))
  replace F3 := F3.other W4 (Or.inr (slot_ne (Or.inr (wd59 hw)) (Or.inr (wd61 hw)) (by decide) (t := (.object "java/lang/String")) (t' := (.object "java/lang/String")) (by decide) (by decide)))
  replace E := E.wr W4
  exact Go.vreturn S4 rfl d_prog_26_method_1_code_19 (by decide) (by decide) (⟨rfl, F2, F3, F4⟩)
set_option maxRecDepth 65536 in
set_option maxHeartbeats 4000000 in
theorem rm_teq {l : Launch} {Z : State} {a0 : Array Value} (hw : HW Z a0) (o1 : Addr) (o2 : Addr) (p1 p2 p3 q1 q2 q3 t1 t2 t3 u1 u2 u3 : Addr) (k1 k2 k3 g1 g2 g3 : ClassId) (x1 x2 x3 y1 y2 y3 : List Int32) (cs : Int32) {h0 : Heap} (hE : Ext Z.heap h0) (E2 : Exa Z h0 o2 "com/example/opas/opas/Template") (F1 : Fld Z h0 o1 "com/example/opas/opas/Template" "before" "Ljava/lang/String;" (.ref p1)) (F2 : Fld Z h0 o1 "com/example/opas/opas/Template" "kind" "Ljava/lang/String;" (.ref p2)) (F3 : Fld Z h0 o1 "com/example/opas/opas/Template" "after" "Ljava/lang/String;" (.ref p3)) (G1 : Fld Z h0 o2 "com/example/opas/opas/Template" "before" "Ljava/lang/String;" (.ref q1)) (G2 : Fld Z h0 o2 "com/example/opas/opas/Template" "kind" "Ljava/lang/String;" (.ref q2)) (G3 : Fld Z h0 o2 "com/example/opas/opas/Template" "after" "Ljava/lang/String;" (.ref q3)) (A1 : StrAt Z h0 p1 t1 k1 x1) (A2 : StrAt Z h0 p2 t2 k2 x2) (A3 : StrAt Z h0 p3 t3 k3 x3) (B1 : StrAt Z h0 q1 u1 g1 y1) (B2 : StrAt Z h0 q2 u2 g2 y2) (B3 : StrAt Z h0 q3 u3 g3 y3) (Cs : Sta Z Z.heap "java/lang/String" "COMPACT_STRINGS" "Z" (.int cs)) (Cn : ¬ cs = 0) :
    OMeets l Z (⟨"com/example/opas/opas/Template", "equals", "(Ljava/lang/Object;)Z"⟩ : MethodName) prog_26_method_6_code 3 (some .boolean) ({ frames := 2, cells := 0, slots := 0, locals := 29 } : Room) #[(.ref o1), (.ref o2)] h0 [] (fun v h => v = some (.int (if x1 = y1 ∧ x2 = y2 ∧ x3 = y3 then 1 else 0 : Int32)) ∧ h0 = h) := by
  refine OMeets.body (plainFor_of_name pn4) hE #[.val (.ref o1), .val (.ref o2), .unset] (fun m => by first | rfl | (simp [entryFrame, mkF, argsToLocals, Value.category, maxLocals]; done)) ?_
  intro p e s m below meth co T S
  refine Go.aloadN S d_prog_26_method_6_code_0 rfl rfl (pc' := 1) rfl ?_
  refine Go.instanceofY S (wd70 hw) (Ins.self E2) d_prog_26_method_6_code_1 (pc' := 4) rfl ?_
  intro T1 S1
  refine Go.if_eq S1 d_prog_26_method_6_code_4 (pt := 58) (by decide) (pc' := 7) rfl ?_ ?_
  · intro c4; exact absurd c4 (by decide)
  · intro c4
    refine Go.aloadN S1 d_prog_26_method_6_code_7 rfl rfl (pc' := 8) rfl ?_
    refine Go.checkcast S1 (wd70 hw) (Ins.self E2) d_prog_26_method_6_code_8 (pc' := 11) rfl ?_
    intro T2 S2
    refine Go.astoreN S2 d_prog_26_method_6_code_11 rfl (Ls' := #[.val (.ref o1), .val (.ref o2), .val (.ref o2)]) rfl (pc' := 12) rfl ?_
    refine Go.aloadN S2 d_prog_26_method_6_code_12 rfl rfl (pc' := 13) rfl ?_
    refine Go.getfield S2 (host := "") (Or.inl (wd56 hw)) Via.refl F1 d_prog_26_method_6_code_13 (pc' := 16) rfl ?_
    intro T3 S3
    refine Go.aloadN S3 d_prog_26_method_6_code_16 rfl rfl (pc' := 17) rfl ?_
    refine Go.getfield S3 (host := "") (Or.inl (wd56 hw)) Via.refl G1 d_prog_26_method_6_code_17 (pc' := 20) rfl ?_
    intro T4 S4
    refine Go.invokevirtual S4 (y := ⟨"java/lang/String", "equals", "(Ljava/lang/Object;)Z"⟩) (rm_streq hw p1 q1 t1 u1 k1 g1 x1 y1 cs S4.ext A1 B1 Cs Cn) (wd72 hw) (wd73 hw) (S4.nf (wd75 hw)) (wd75 hw) (wd74 hw) (wd14 hw) (wd76 hw) (by decide) A1.1 d_prog_26_method_6_code_20 rfl pd12 (argsL := [(.ref q1)]) rfl rfl rfl (by decide) (W := 0) rfl (by decide) (by decide) (by decide) all0 (pc' := 23) rfl ?_
    intro v5 T5 h5 L5 S5 K5 q5
    obtain ⟨rfl, rfl⟩ := q5
    show Go _ _ _ _ T5 (mkF m 23 #[.val (.ref o1), .val (.ref o2), .val (.ref o2)] [(.int (if x1 = y1 then 1 else 0 : Int32))])
    refine Go.if_eq S5 d_prog_26_method_6_code_23 (pt := 58) (by decide) (pc' := 26) rfl ?_ ?_
    · intro c23
      refine Go.iconst S5 (v := 0) d_prog_26_method_6_code_58 rfl (pc' := 59) rfl ?_
      exact Go.zreturn S5 rfl (by decide) d_prog_26_method_6_code_59 (z' := (0 : Int32)) rfl (by decide) (by decide) (⟨by rw [if_neg (fun q => own_i0 c23 q.1)], rfl⟩)
    · intro c23
      refine Go.aloadN S5 d_prog_26_method_6_code_26 rfl rfl (pc' := 27) rfl ?_
      refine Go.getfield S5 (host := "") (Or.inl (wd58 hw)) Via.refl F2 d_prog_26_method_6_code_27 (pc' := 30) rfl ?_
      intro T6 S6
      refine Go.aloadN S6 d_prog_26_method_6_code_30 rfl rfl (pc' := 31) rfl ?_
      refine Go.getfield S6 (host := "") (Or.inl (wd58 hw)) Via.refl G2 d_prog_26_method_6_code_31 (pc' := 34) rfl ?_
      intro T7 S7
      refine Go.invokevirtual S7 (y := ⟨"java/lang/String", "equals", "(Ljava/lang/Object;)Z"⟩) (rm_streq hw p2 q2 t2 u2 k2 g2 x2 y2 cs S7.ext A2 B2 Cs Cn) (wd72 hw) (wd73 hw) (S7.nf (wd75 hw)) (wd75 hw) (wd74 hw) (wd14 hw) (wd76 hw) (by decide) A2.1 d_prog_26_method_6_code_34 rfl pd12 (argsL := [(.ref q2)]) rfl rfl rfl (by decide) (W := 0) rfl (by decide) (by decide) (by decide) all0 (pc' := 37) rfl ?_
      intro v8 T8 h8 L8 S8 K8 q8
      obtain ⟨rfl, rfl⟩ := q8
      show Go _ _ _ _ T8 (mkF m 37 #[.val (.ref o1), .val (.ref o2), .val (.ref o2)] [(.int (if x2 = y2 then 1 else 0 : Int32))])
      refine Go.if_eq S8 d_prog_26_method_6_code_37 (pt := 58) (by decide) (pc' := 40) rfl ?_ ?_
      · intro c37
        refine Go.iconst S8 (v := 0) d_prog_26_method_6_code_58 rfl (pc' := 59) rfl ?_
        exact Go.zreturn S8 rfl (by decide) d_prog_26_method_6_code_59 (z' := (0 : Int32)) rfl (by decide) (by decide) (⟨by rw [if_neg (fun q => own_i0 c37 q.2.1)], rfl⟩)
      · intro c37
        refine Go.aloadN S8 d_prog_26_method_6_code_40 rfl rfl (pc' := 41) rfl ?_
        refine Go.getfield S8 (host := "") (Or.inl (wd60 hw)) Via.refl F3 d_prog_26_method_6_code_41 (pc' := 44) rfl ?_
        intro T9 S9
        refine Go.aloadN S9 d_prog_26_method_6_code_44 rfl rfl (pc' := 45) rfl ?_
        refine Go.getfield S9 (host := "") (Or.inl (wd60 hw)) Via.refl G3 d_prog_26_method_6_code_45 (pc' := 48) rfl ?_
        intro T10 S10
        refine Go.invokevirtual S10 (y := ⟨"java/lang/String", "equals", "(Ljava/lang/Object;)Z"⟩) (rm_streq hw p3 q3 t3 u3 k3 g3 x3 y3 cs S10.ext A3 B3 Cs Cn) (wd72 hw) (wd73 hw) (S10.nf (wd75 hw)) (wd75 hw) (wd74 hw) (wd14 hw) (wd76 hw) (by decide) A3.1 d_prog_26_method_6_code_48 rfl pd12 (argsL := [(.ref q3)]) rfl rfl rfl (by decide) (W := 0) rfl (by decide) (by decide) (by decide) all0 (pc' := 51) rfl ?_
        intro v11 T11 h11 L11 S11 K11 q11
        obtain ⟨rfl, rfl⟩ := q11
        show Go _ _ _ _ T11 (mkF m 51 #[.val (.ref o1), .val (.ref o2), .val (.ref o2)] [(.int (if x3 = y3 then 1 else 0 : Int32))])
        refine Go.if_eq S11 d_prog_26_method_6_code_51 (pt := 58) (by decide) (pc' := 54) rfl ?_ ?_
        · intro c51
          refine Go.iconst S11 (v := 0) d_prog_26_method_6_code_58 rfl (pc' := 59) rfl ?_
          exact Go.zreturn S11 rfl (by decide) d_prog_26_method_6_code_59 (z' := (0 : Int32)) rfl (by decide) (by decide) (⟨by rw [if_neg (fun q => own_i0 c51 q.2.2)], rfl⟩)
        · intro c51
          refine Go.iconst S11 (v := 1) d_prog_26_method_6_code_54 rfl (pc' := 55) rfl ?_
          refine Go.goto S11 d_prog_26_method_6_code_55 (pc' := 59) (by decide) ?_
          exact Go.zreturn S11 rfl (by decide) d_prog_26_method_6_code_59 (z' := (1 : Int32)) rfl (by decide) (by decide) (⟨by rw [if_pos ⟨own_i1 c23, own_i1 c37, own_i1 c51⟩], rfl⟩)
set_option maxRecDepth 65536 in
set_option maxHeartbeats 4000000 in
theorem rm_teqN {l : Launch} {Z : State} {a0 : Array Value} (hw : HW Z a0) (o1 : Addr)  {h0 : Heap} (hE : Ext Z.heap h0) :
    OMeets l Z (⟨"com/example/opas/opas/Template", "equals", "(Ljava/lang/Object;)Z"⟩ : MethodName) prog_26_method_6_code 3 (some .boolean) ({ frames := 0, cells := 0, slots := 0, locals := 0 } : Room) #[(.ref o1), .null] h0 [] (fun v h => v = some (.int 0) ∧ h0 = h) := by
  refine OMeets.body (plainFor_of_name pn4) hE #[.val (.ref o1), .val .null, .unset] (fun m => by first | rfl | (simp [entryFrame, mkF, argsToLocals, Value.category, maxLocals]; done)) ?_
  intro p e s m below meth co T S
  refine Go.aloadN S d_prog_26_method_6_code_0 rfl rfl (pc' := 1) rfl ?_
  refine Go.instanceofNull S  d_prog_26_method_6_code_1 (pc' := 4) rfl ?_
  refine Go.if_eq S d_prog_26_method_6_code_4 (pt := 58) (by decide) (pc' := 7) rfl ?_ ?_
  · intro c4
    refine Go.iconst S (v := 0) d_prog_26_method_6_code_58 rfl (pc' := 59) rfl ?_
    exact Go.zreturn S rfl (by decide) d_prog_26_method_6_code_59 (z' := (0 : Int32)) rfl (by decide) (by decide) (⟨rfl, rfl⟩)
  · intro c4; exact absurd (by decide) c4
set_option maxRecDepth 65536 in
set_option maxHeartbeats 4000000 in
theorem rm_teqS {l : Launch} {Z : State} {a0 : Array Value} (hw : HW Z a0) (o1 : Addr) (o2 : Addr)  {h0 : Heap} (hE : Ext Z.heap h0) (E2 : Exa Z h0 o2 "java/lang/String") :
    OMeets l Z (⟨"com/example/opas/opas/Template", "equals", "(Ljava/lang/Object;)Z"⟩ : MethodName) prog_26_method_6_code 3 (some .boolean) ({ frames := 0, cells := 0, slots := 0, locals := 0 } : Room) #[(.ref o1), (.ref o2)] h0 [] (fun v h => v = some (.int 0) ∧ h0 = h) := by
  refine OMeets.body (plainFor_of_name pn4) hE #[.val (.ref o1), .val (.ref o2), .unset] (fun m => by first | rfl | (simp [entryFrame, mkF, argsToLocals, Value.category, maxLocals]; done)) ?_
  intro p e s m below meth co T S
  refine Go.aloadN S d_prog_26_method_6_code_0 rfl rfl (pc' := 1) rfl ?_
  refine Go.instanceofN S (wd70 hw) E2 (own_notT hw) d_prog_26_method_6_code_1 (pc' := 4) rfl ?_
  intro T1 S1
  refine Go.if_eq S1 d_prog_26_method_6_code_4 (pt := 58) (by decide) (pc' := 7) rfl ?_ ?_
  · intro c4
    refine Go.iconst S1 (v := 0) d_prog_26_method_6_code_58 rfl (pc' := 59) rfl ?_
    exact Go.zreturn S1 rfl (by decide) d_prog_26_method_6_code_59 (z' := (0 : Int32)) rfl (by decide) (by decide) (⟨rfl, rfl⟩)
  · intro c4; exact absurd (by decide) c4
set_option maxRecDepth 65536 in
set_option maxHeartbeats 4000000 in
theorem j0_42 {p : Program} {l : Launch} {e : Env} {s sb : State} {m : MethodId} {args : Array Value} {below : List Frame} {meth : Method} {co : Code} {Z : State} {a0 : Array Value} (hw : HW Z a0) (ax ay src0 src1 src2 : Int64) (mode cs : Int32) {h0 h : Heap} {T : State} {locs : List Loc} {n : Nat} (S : St p l e room_1 sb m args below meth co Z x.cls code maxLocals ret x.name h0 [] T h locs 0 0) (N : Sn s sb n) (hn : n ≤ h.size) (El : Elit Z sb.vm h) (Cs : Sta Z Z.heap "java/lang/String" "COMPACT_STRINGS" "Z" (.int cs)) (Cn : ¬ cs = 0) (hh : Jvm.Lit.constHeld Z "java/lang/String" 7) (hcw : Jvm.Lit.compactW.before a0 Z = true) :
    Go p e below (PostW Z s h0 [] room_1.cells room_1.slots (fun v h vm => v = some (.int 1))) T (mkF m 42 #[.val (.long ax), .second, .val (.long ay), .second, .val (.int mode), .val (.long src0), .second, .val (.long src1), .second, .val (.long src2), .second, .unset, .unset, .unset, .unset, .unset, .unset, .unset, .unset, .unset, .unset, .unset, .unset] []) := by
  refine Go.lloadN S at_42 rfl (pc' := 43) rfl ?_
  refine Go.iconst S (v := 0) at_43 rfl (pc' := 44) rfl ?_
  refine Go.invokestaticW S (y := ⟨"com/example/opas/opas/TemplateEqualsPinLaw", "mk", "(JI)Ljava/lang/String;"⟩) (rm_mk hw ax 0 cs S.ext Cs Cn hh hcw) N hn (fun vm hv => Elit.warm (sb := sb) El hv) (wd0 hw) (wd1 hw) (wd2 hw) (wd3 hw) (by decide) at_44 rfl pd13 (argsL := [(.long ax), (.int (0 : Int32))]) rfl rfl rfl (by decide) (W := 0) rfl (by decide) (by decide) (by decide) all0 (pc' := 47) rfl ?_
  intro v1 sb1 T1 h1 L1 S1 N1 K1 q1
  obtain ⟨⟨s1, b1, k1, rfl, A1⟩, El'⟩ := q1
  replace hn : h1.size ≤ h1.size := Nat.le_refl _
  show Go _ _ _ _ T1 (mkF m 47 #[.val (.long ax), .second, .val (.long ay), .second, .val (.int mode), .val (.long src0), .second, .val (.long src1), .second, .val (.long src2), .second, .unset, .unset, .unset, .unset, .unset, .unset, .unset, .unset, .unset, .unset, .unset, .unset] [(.ref s1)])
  replace El := El'
  clear El'
  refine Go.astore S1 at_47 rfl (Ls' := #[.val (.long ax), .second, .val (.long ay), .second, .val (.int mode), .val (.long src0), .second, .val (.long src1), .second, .val (.long src2), .second, .val (.ref s1), .unset, .unset, .unset, .unset, .unset, .unset, .unset, .unset, .unset, .unset, .unset]) rfl (pc' := 49) rfl ?_
  refine Go.lloadN S1 at_49 rfl (pc' := 50) rfl ?_
  refine Go.iconst S1 (v := 1) at_50 rfl (pc' := 51) rfl ?_
  refine Go.invokestaticW S1 (y := ⟨"com/example/opas/opas/TemplateEqualsPinLaw", "mk", "(JI)Ljava/lang/String;"⟩) (rm_mk hw ax 1 cs S1.ext Cs Cn hh hcw) N1 hn (fun vm hv => Elit.warm (sb := sb1) El hv) (wd0 hw) (wd1 hw) (wd2 hw) (wd3 hw) (by decide) at_51 rfl pd13 (argsL := [(.long ax), (.int (1 : Int32))]) rfl rfl rfl (by decide) (W := 0) rfl (by decide) (by decide) (by decide) all0 (pc' := 54) rfl ?_
  intro v2 sb2 T2 h2 L2 S2 N2 K2 q2
  obtain ⟨⟨s2, b2, k2, rfl, A2⟩, El'⟩ := q2
  replace A1 := A1.keep K2 nin0 nin0
  replace hn : h2.size ≤ h2.size := Nat.le_refl _
  show Go _ _ _ _ T2 (mkF m 54 #[.val (.long ax), .second, .val (.long ay), .second, .val (.int mode), .val (.long src0), .second, .val (.long src1), .second, .val (.long src2), .second, .val (.ref s1), .unset, .unset, .unset, .unset, .unset, .unset, .unset, .unset, .unset, .unset, .unset] [(.ref s2)])
  replace El := El'
  clear El'
  refine Go.astore S2 at_54 rfl (Ls' := #[.val (.long ax), .second, .val (.long ay), .second, .val (.int mode), .val (.long src0), .second, .val (.long src1), .second, .val (.long src2), .second, .val (.ref s1), .val (.ref s2), .unset, .unset, .unset, .unset, .unset, .unset, .unset, .unset, .unset, .unset]) rfl (pc' := 56) rfl ?_
  refine Go.lloadN S2 at_56 rfl (pc' := 57) rfl ?_
  refine Go.iconst S2 (v := 2) at_57 rfl (pc' := 58) rfl ?_
  refine Go.invokestaticW S2 (y := ⟨"com/example/opas/opas/TemplateEqualsPinLaw", "mk", "(JI)Ljava/lang/String;"⟩) (rm_mk hw ax 2 cs S2.ext Cs Cn hh hcw) N2 hn (fun vm hv => Elit.warm (sb := sb2) El hv) (wd0 hw) (wd1 hw) (wd2 hw) (wd3 hw) (by decide) at_58 rfl pd13 (argsL := [(.long ax), (.int (2 : Int32))]) rfl rfl rfl (by decide) (W := 0) rfl (by decide) (by decide) (by decide) all0 (pc' := 61) rfl ?_
  intro v3 sb3 T3 h3 L3 S3 N3 K3 q3
  obtain ⟨⟨s3, b3, k3, rfl, A3⟩, El'⟩ := q3
  replace A1 := A1.keep K3 nin0 nin0
  replace A2 := A2.keep K3 nin0 nin0
  replace hn : h3.size ≤ h3.size := Nat.le_refl _
  show Go _ _ _ _ T3 (mkF m 61 #[.val (.long ax), .second, .val (.long ay), .second, .val (.int mode), .val (.long src0), .second, .val (.long src1), .second, .val (.long src2), .second, .val (.ref s1), .val (.ref s2), .unset, .unset, .unset, .unset, .unset, .unset, .unset, .unset, .unset, .unset] [(.ref s3)])
  replace El := El'
  clear El'
  refine Go.astore S3 at_61 rfl (Ls' := #[.val (.long ax), .second, .val (.long ay), .second, .val (.int mode), .val (.long src0), .second, .val (.long src1), .second, .val (.long src2), .second, .val (.ref s1), .val (.ref s2), .val (.ref s3), .unset, .unset, .unset, .unset, .unset, .unset, .unset, .unset, .unset]) rfl (pc' := 63) rfl ?_
  refine Go.lload S3 at_63 rfl (pc' := 65) rfl ?_
  refine Go.iconst S3 (v := 0) at_65 rfl (pc' := 66) rfl ?_
  refine Go.invokestaticW S3 (y := ⟨"com/example/opas/opas/TemplateEqualsPinLaw", "mk", "(JI)Ljava/lang/String;"⟩) (rm_mk hw src0 0 cs S3.ext Cs Cn hh hcw) N3 hn (fun vm hv => Elit.warm (sb := sb3) El hv) (wd0 hw) (wd1 hw) (wd2 hw) (wd3 hw) (by decide) at_66 rfl pd13 (argsL := [(.long src0), (.int (0 : Int32))]) rfl rfl rfl (by decide) (W := 0) rfl (by decide) (by decide) (by decide) all0 (pc' := 69) rfl ?_
  intro v4 sb4 T4 h4 L4 S4 N4 K4 q4
  obtain ⟨⟨s4, b4, k4, rfl, A4⟩, El'⟩ := q4
  replace A1 := A1.keep K4 nin0 nin0
  replace A2 := A2.keep K4 nin0 nin0
  replace A3 := A3.keep K4 nin0 nin0
  replace hn : h4.size ≤ h4.size := Nat.le_refl _
  show Go _ _ _ _ T4 (mkF m 69 #[.val (.long ax), .second, .val (.long ay), .second, .val (.int mode), .val (.long src0), .second, .val (.long src1), .second, .val (.long src2), .second, .val (.ref s1), .val (.ref s2), .val (.ref s3), .unset, .unset, .unset, .unset, .unset, .unset, .unset, .unset, .unset] [(.ref s4)])
  replace El := El'
  clear El'
  refine Go.astore S4 at_69 rfl (Ls' := #[.val (.long ax), .second, .val (.long ay), .second, .val (.int mode), .val (.long src0), .second, .val (.long src1), .second, .val (.long src2), .second, .val (.ref s1), .val (.ref s2), .val (.ref s3), .val (.ref s4), .unset, .unset, .unset, .unset, .unset, .unset, .unset, .unset]) rfl (pc' := 71) rfl ?_
  refine Go.lload S4 at_71 rfl (pc' := 73) rfl ?_
  refine Go.iconst S4 (v := 1) at_73 rfl (pc' := 74) rfl ?_
  refine Go.invokestaticW S4 (y := ⟨"com/example/opas/opas/TemplateEqualsPinLaw", "mk", "(JI)Ljava/lang/String;"⟩) (rm_mk hw src1 1 cs S4.ext Cs Cn hh hcw) N4 hn (fun vm hv => Elit.warm (sb := sb4) El hv) (wd0 hw) (wd1 hw) (wd2 hw) (wd3 hw) (by decide) at_74 rfl pd13 (argsL := [(.long src1), (.int (1 : Int32))]) rfl rfl rfl (by decide) (W := 0) rfl (by decide) (by decide) (by decide) all0 (pc' := 77) rfl ?_
  intro v5 sb5 T5 h5 L5 S5 N5 K5 q5
  obtain ⟨⟨s5, b5, k5, rfl, A5⟩, El'⟩ := q5
  replace A1 := A1.keep K5 nin0 nin0
  replace A2 := A2.keep K5 nin0 nin0
  replace A3 := A3.keep K5 nin0 nin0
  replace A4 := A4.keep K5 nin0 nin0
  replace hn : h5.size ≤ h5.size := Nat.le_refl _
  show Go _ _ _ _ T5 (mkF m 77 #[.val (.long ax), .second, .val (.long ay), .second, .val (.int mode), .val (.long src0), .second, .val (.long src1), .second, .val (.long src2), .second, .val (.ref s1), .val (.ref s2), .val (.ref s3), .val (.ref s4), .unset, .unset, .unset, .unset, .unset, .unset, .unset, .unset] [(.ref s5)])
  replace El := El'
  clear El'
  refine Go.astore S5 at_77 rfl (Ls' := #[.val (.long ax), .second, .val (.long ay), .second, .val (.int mode), .val (.long src0), .second, .val (.long src1), .second, .val (.long src2), .second, .val (.ref s1), .val (.ref s2), .val (.ref s3), .val (.ref s4), .val (.ref s5), .unset, .unset, .unset, .unset, .unset, .unset, .unset]) rfl (pc' := 79) rfl ?_
  refine Go.lload S5 at_79 rfl (pc' := 81) rfl ?_
  refine Go.iconst S5 (v := 2) at_81 rfl (pc' := 82) rfl ?_
  refine Go.invokestaticW S5 (y := ⟨"com/example/opas/opas/TemplateEqualsPinLaw", "mk", "(JI)Ljava/lang/String;"⟩) (rm_mk hw src2 2 cs S5.ext Cs Cn hh hcw) N5 hn (fun vm hv => Elit.warm (sb := sb5) El hv) (wd0 hw) (wd1 hw) (wd2 hw) (wd3 hw) (by decide) at_82 rfl pd13 (argsL := [(.long src2), (.int (2 : Int32))]) rfl rfl rfl (by decide) (W := 0) rfl (by decide) (by decide) (by decide) all0 (pc' := 85) rfl ?_
  intro v6 sb6 T6 h6 L6 S6 N6 K6 q6
  obtain ⟨⟨s6, b6, k6, rfl, A6⟩, El'⟩ := q6
  replace A1 := A1.keep K6 nin0 nin0
  replace A2 := A2.keep K6 nin0 nin0
  replace A3 := A3.keep K6 nin0 nin0
  replace A4 := A4.keep K6 nin0 nin0
  replace A5 := A5.keep K6 nin0 nin0
  replace hn : h6.size ≤ h6.size := Nat.le_refl _
  show Go _ _ _ _ T6 (mkF m 85 #[.val (.long ax), .second, .val (.long ay), .second, .val (.int mode), .val (.long src0), .second, .val (.long src1), .second, .val (.long src2), .second, .val (.ref s1), .val (.ref s2), .val (.ref s3), .val (.ref s4), .val (.ref s5), .unset, .unset, .unset, .unset, .unset, .unset, .unset] [(.ref s6)])
  replace El := El'
  clear El'
  refine Go.astore S6 at_85 rfl (Ls' := #[.val (.long ax), .second, .val (.long ay), .second, .val (.int mode), .val (.long src0), .second, .val (.long src1), .second, .val (.long src2), .second, .val (.ref s1), .val (.ref s2), .val (.ref s3), .val (.ref s4), .val (.ref s5), .val (.ref s6), .unset, .unset, .unset, .unset, .unset, .unset]) rfl (pc' := 87) rfl ?_
  refine Go.new S6 (wd49 hw) (wd50 hw) (wd51 hw) at_87 (by decide) (by decide) (pc' := 90) rfl ?_
  intro T7 h7 a7 S7 E7 hg7 hz7 hk7 X7 D7
  have n_s1_a7 : s1 ≠ a7 := Nat.ne_of_lt (Nat.lt_of_lt_of_le A1.lt (Nat.le_of_eq hg7))
  have n_b1_a7 : b1 ≠ a7 := Nat.ne_of_lt (Nat.lt_of_lt_of_le A1.lt2 (Nat.le_of_eq hg7))
  have n_s2_a7 : s2 ≠ a7 := Nat.ne_of_lt (Nat.lt_of_lt_of_le A2.lt (Nat.le_of_eq hg7))
  have n_b2_a7 : b2 ≠ a7 := Nat.ne_of_lt (Nat.lt_of_lt_of_le A2.lt2 (Nat.le_of_eq hg7))
  have n_s3_a7 : s3 ≠ a7 := Nat.ne_of_lt (Nat.lt_of_lt_of_le A3.lt (Nat.le_of_eq hg7))
  have n_b3_a7 : b3 ≠ a7 := Nat.ne_of_lt (Nat.lt_of_lt_of_le A3.lt2 (Nat.le_of_eq hg7))
  have n_s4_a7 : s4 ≠ a7 := Nat.ne_of_lt (Nat.lt_of_lt_of_le A4.lt (Nat.le_of_eq hg7))
  have n_b4_a7 : b4 ≠ a7 := Nat.ne_of_lt (Nat.lt_of_lt_of_le A4.lt2 (Nat.le_of_eq hg7))
  have n_s5_a7 : s5 ≠ a7 := Nat.ne_of_lt (Nat.lt_of_lt_of_le A5.lt (Nat.le_of_eq hg7))
  have n_b5_a7 : b5 ≠ a7 := Nat.ne_of_lt (Nat.lt_of_lt_of_le A5.lt2 (Nat.le_of_eq hg7))
  have n_s6_a7 : s6 ≠ a7 := Nat.ne_of_lt (Nat.lt_of_lt_of_le A6.lt (Nat.le_of_eq hg7))
  have n_b6_a7 : b6 ≠ a7 := Nat.ne_of_lt (Nat.lt_of_lt_of_le A6.lt2 (Nat.le_of_eq hg7))
  replace hn := Nat.le_trans hn E7.1
  replace A1 := A1.ext E7
  replace A2 := A2.ext E7
  replace A3 := A3.ext E7
  replace A4 := A4.ext E7
  replace A5 := A5.ext E7
  replace A6 := A6.ext E7
  have F7_before : Fld Z h7 a7 "com/example/opas/opas/Template" "before" "Ljava/lang/String;" .null := D7 (Or.inr (wd57 hw)) (ty := (.object "java/lang/String")) (by decide)
  have F7_kind : Fld Z h7 a7 "com/example/opas/opas/Template" "kind" "Ljava/lang/String;" .null := D7 (Or.inr (wd59 hw)) (ty := (.object "java/lang/String")) (by decide)
  have F7_after : Fld Z h7 a7 "com/example/opas/opas/Template" "after" "Ljava/lang/String;" .null := D7 (Or.inr (wd61 hw)) (ty := (.object "java/lang/String")) (by decide)
  refine Go.dup S7 at_90 rfl (pc' := 91) rfl ?_
  refine Go.aload S7 at_91 rfl rfl (pc' := 93) rfl ?_
  refine Go.aload S7 at_93 rfl rfl (pc' := 95) rfl ?_
  refine Go.aload S7 at_95 rfl rfl (pc' := 97) rfl ?_
  refine Go.invokespecial S7 (y := ⟨"com/example/opas/opas/Template", "<init>", "(Ljava/lang/String;Ljava/lang/String;Ljava/lang/String;)V"⟩) (rm_tinit hw a7 s1 s2 s3 S7.ext hz7 X7 F7_before F7_kind F7_after) rfl rfl (wd52 hw) (wd53 hw) (wd51 hw) (wd54 hw) (by decide) at_97 rfl pd14 (argsL := [(.ref s1), (.ref s2), (.ref s3)]) rfl rfl rfl (by decide) (W := 1) rfl (by decide) (by decide) (by decide) (allS (Or.inr hk7) all0) (pc' := 100) rfl ?_
  intro v8 T8 h8 L8 S8 K8 q8
  obtain ⟨rfl, Fbefore, Fkind, Fafter⟩ := q8
  replace hn := Nat.le_trans hn K8.1
  replace A1 := A1.keep K8 (ninS n_s1_a7 nin0) (ninS n_b1_a7 nin0)
  replace A2 := A2.keep K8 (ninS n_s2_a7 nin0) (ninS n_b2_a7 nin0)
  replace A3 := A3.keep K8 (ninS n_s3_a7 nin0) (ninS n_b3_a7 nin0)
  replace A4 := A4.keep K8 (ninS n_s4_a7 nin0) (ninS n_b4_a7 nin0)
  replace A5 := A5.keep K8 (ninS n_s5_a7 nin0) (ninS n_b5_a7 nin0)
  replace A6 := A6.keep K8 (ninS n_s6_a7 nin0) (ninS n_b6_a7 nin0)
  replace X7 := X7.keep K8
  show Go _ _ _ _ T8 (mkF m 100 #[.val (.long ax), .second, .val (.long ay), .second, .val (.int mode), .val (.long src0), .second, .val (.long src1), .second, .val (.long src2), .second, .val (.ref s1), .val (.ref s2), .val (.ref s3), .val (.ref s4), .val (.ref s5), .val (.ref s6), .unset, .unset, .unset, .unset, .unset, .unset] [(.ref a7)])
  refine Go.astore S8 at_100 rfl (Ls' := #[.val (.long ax), .second, .val (.long ay), .second, .val (.int mode), .val (.long src0), .second, .val (.long src1), .second, .val (.long src2), .second, .val (.ref s1), .val (.ref s2), .val (.ref s3), .val (.ref s4), .val (.ref s5), .val (.ref s6), .val (.ref a7), .unset, .unset, .unset, .unset, .unset]) rfl (pc' := 102) rfl ?_
  refine Go.new S8 (wd49 hw) (wd50 hw) (wd51 hw) at_102 (by decide) (by decide) (pc' := 105) rfl ?_
  intro T9 h9 a9 S9 E9 hg9 hz9 hk9 X9 D9
  have n_s1_a9 : s1 ≠ a9 := Nat.ne_of_lt (Nat.lt_of_lt_of_le A1.lt (Nat.le_of_eq hg9))
  have n_b1_a9 : b1 ≠ a9 := Nat.ne_of_lt (Nat.lt_of_lt_of_le A1.lt2 (Nat.le_of_eq hg9))
  have n_s2_a9 : s2 ≠ a9 := Nat.ne_of_lt (Nat.lt_of_lt_of_le A2.lt (Nat.le_of_eq hg9))
  have n_b2_a9 : b2 ≠ a9 := Nat.ne_of_lt (Nat.lt_of_lt_of_le A2.lt2 (Nat.le_of_eq hg9))
  have n_s3_a9 : s3 ≠ a9 := Nat.ne_of_lt (Nat.lt_of_lt_of_le A3.lt (Nat.le_of_eq hg9))
  have n_b3_a9 : b3 ≠ a9 := Nat.ne_of_lt (Nat.lt_of_lt_of_le A3.lt2 (Nat.le_of_eq hg9))
  have n_s4_a9 : s4 ≠ a9 := Nat.ne_of_lt (Nat.lt_of_lt_of_le A4.lt (Nat.le_of_eq hg9))
  have n_b4_a9 : b4 ≠ a9 := Nat.ne_of_lt (Nat.lt_of_lt_of_le A4.lt2 (Nat.le_of_eq hg9))
  have n_s5_a9 : s5 ≠ a9 := Nat.ne_of_lt (Nat.lt_of_lt_of_le A5.lt (Nat.le_of_eq hg9))
  have n_b5_a9 : b5 ≠ a9 := Nat.ne_of_lt (Nat.lt_of_lt_of_le A5.lt2 (Nat.le_of_eq hg9))
  have n_s6_a9 : s6 ≠ a9 := Nat.ne_of_lt (Nat.lt_of_lt_of_le A6.lt (Nat.le_of_eq hg9))
  have n_b6_a9 : b6 ≠ a9 := Nat.ne_of_lt (Nat.lt_of_lt_of_le A6.lt2 (Nat.le_of_eq hg9))
  have n_a7_a9 : a7 ≠ a9 := Nat.ne_of_lt (Nat.lt_of_lt_of_le X7.lt (Nat.le_of_eq hg9))
  replace hn := Nat.le_trans hn E9.1
  replace A1 := A1.ext E9
  replace A2 := A2.ext E9
  replace A3 := A3.ext E9
  replace A4 := A4.ext E9
  replace A5 := A5.ext E9
  replace A6 := A6.ext E9
  replace X7 := X7.ext E9
  replace Fbefore := Fbefore.ext E9
  replace Fkind := Fkind.ext E9
  replace Fafter := Fafter.ext E9
  have F9_before : Fld Z h9 a9 "com/example/opas/opas/Template" "before" "Ljava/lang/String;" .null := D9 (Or.inr (wd57 hw)) (ty := (.object "java/lang/String")) (by decide)
  have F9_kind : Fld Z h9 a9 "com/example/opas/opas/Template" "kind" "Ljava/lang/String;" .null := D9 (Or.inr (wd59 hw)) (ty := (.object "java/lang/String")) (by decide)
  have F9_after : Fld Z h9 a9 "com/example/opas/opas/Template" "after" "Ljava/lang/String;" .null := D9 (Or.inr (wd61 hw)) (ty := (.object "java/lang/String")) (by decide)
  refine Go.dup S9 at_105 rfl (pc' := 106) rfl ?_
  refine Go.aload S9 at_106 rfl rfl (pc' := 108) rfl ?_
  refine Go.aload S9 at_108 rfl rfl (pc' := 110) rfl ?_
  refine Go.aload S9 at_110 rfl rfl (pc' := 112) rfl ?_
  refine Go.invokespecial S9 (y := ⟨"com/example/opas/opas/Template", "<init>", "(Ljava/lang/String;Ljava/lang/String;Ljava/lang/String;)V"⟩) (rm_tinit hw a9 s4 s5 s6 S9.ext hz9 X9 F9_before F9_kind F9_after) rfl rfl (wd52 hw) (wd53 hw) (wd51 hw) (wd54 hw) (by decide) at_112 rfl pd14 (argsL := [(.ref s4), (.ref s5), (.ref s6)]) rfl rfl rfl (by decide) (W := 1) rfl (by decide) (by decide) (by decide) (allS (Or.inr hk9) all0) (pc' := 115) rfl ?_
  intro v10 T10 h10 L10 S10 K10 q10
  obtain ⟨rfl, Gbefore, Gkind, Gafter⟩ := q10
  replace hn := Nat.le_trans hn K10.1
  replace A1 := A1.keep K10 (ninS n_s1_a9 nin0) (ninS n_b1_a9 nin0)
  replace A2 := A2.keep K10 (ninS n_s2_a9 nin0) (ninS n_b2_a9 nin0)
  replace A3 := A3.keep K10 (ninS n_s3_a9 nin0) (ninS n_b3_a9 nin0)
  replace A4 := A4.keep K10 (ninS n_s4_a9 nin0) (ninS n_b4_a9 nin0)
  replace A5 := A5.keep K10 (ninS n_s5_a9 nin0) (ninS n_b5_a9 nin0)
  replace A6 := A6.keep K10 (ninS n_s6_a9 nin0) (ninS n_b6_a9 nin0)
  replace X7 := X7.keep K10
  replace Fbefore := Fbefore.keep K10 (ninS n_a7_a9 nin0)
  replace Fkind := Fkind.keep K10 (ninS n_a7_a9 nin0)
  replace Fafter := Fafter.keep K10 (ninS n_a7_a9 nin0)
  replace X9 := X9.keep K10
  show Go _ _ _ _ T10 (mkF m 115 #[.val (.long ax), .second, .val (.long ay), .second, .val (.int mode), .val (.long src0), .second, .val (.long src1), .second, .val (.long src2), .second, .val (.ref s1), .val (.ref s2), .val (.ref s3), .val (.ref s4), .val (.ref s5), .val (.ref s6), .val (.ref a7), .unset, .unset, .unset, .unset, .unset] [(.ref a9)])
  refine Go.astore S10 at_115 rfl (Ls' := #[.val (.long ax), .second, .val (.long ay), .second, .val (.int mode), .val (.long src0), .second, .val (.long src1), .second, .val (.long src2), .second, .val (.ref s1), .val (.ref s2), .val (.ref s3), .val (.ref s4), .val (.ref s5), .val (.ref s6), .val (.ref a7), .val (.ref a9), .unset, .unset, .unset, .unset]) rfl (pc' := 117) rfl ?_
  refine Go.lloadN S10 at_117 rfl (pc' := 118) rfl ?_
  refine Go.lload S10 at_118 rfl (pc' := 120) rfl ?_
  refine Go.iconst S10 (v := 0) at_120 rfl (pc' := 121) rfl ?_
  refine Go.invokestatic S10 (y := ⟨"com/example/opas/opas/TemplateEqualsPinLaw", "same", "(JJI)Z"⟩) (rm_same hw ax src0 0 S10.ext) (wd62 hw) (wd63 hw) (wd2 hw) (wd64 hw) (by decide) at_121 rfl pd15 (argsL := [(.long ax), (.long src0), (.int (0 : Int32))]) rfl rfl rfl (by decide) (W := 0) rfl (by decide) (by decide) (by decide) all0 (pc' := 124) rfl ?_
  intro v11 T11 h11 L11 S11 K11 q11
  obtain ⟨rfl, rfl⟩ := q11
  show Go _ _ _ _ T11 (mkF m 124 #[.val (.long ax), .second, .val (.long ay), .second, .val (.int mode), .val (.long src0), .second, .val (.long src1), .second, .val (.long src2), .second, .val (.ref s1), .val (.ref s2), .val (.ref s3), .val (.ref s4), .val (.ref s5), .val (.ref s6), .val (.ref a7), .val (.ref a9), .unset, .unset, .unset, .unset] [(.int (if own_mk ax 0 = own_mk src0 0 then 1 else 0 : Int32))])
  refine Go.if_eq S11 at_124 (pt := 151) (by decide) (pc' := 127) rfl ?_ ?_
  · intro c124
    refine Go.iconst S11 (v := 0) at_151 rfl (pc' := 152) rfl ?_
    refine Go.istore S11 at_152 (Ls' := #[.val (.long ax), .second, .val (.long ay), .second, .val (.int mode), .val (.long src0), .second, .val (.long src1), .second, .val (.long src2), .second, .val (.ref s1), .val (.ref s2), .val (.ref s3), .val (.ref s4), .val (.ref s5), .val (.ref s6), .val (.ref a7), .val (.ref a9), .val (.int (0 : Int32)), .unset, .unset, .unset]) rfl (pc' := 154) rfl ?_
    refine Go.iload S11 at_154 rfl (pc' := 156) rfl ?_
    refine Go.iconst S11 (v := 3) at_156 rfl (pc' := 157) rfl ?_
    refine Go.iushr S11 at_157 (pc' := 158) rfl ?_
    refine Go.bipush S11 (v := 7) at_158 rfl (pc' := 160) rfl ?_
    refine Go.iand S11 at_160 (pc' := 161) rfl ?_
    refine Go.istore S11 at_161 (Ls' := #[.val (.long ax), .second, .val (.long ay), .second, .val (.int mode), .val (.long src0), .second, .val (.long src1), .second, .val (.long src2), .second, .val (.ref s1), .val (.ref s2), .val (.ref s3), .val (.ref s4), .val (.ref s5), .val (.ref s6), .val (.ref a7), .val (.ref a9), .val (.int (0 : Int32)), .val (.int (((mode.toUInt32 >>> ((3 : Int32) &&& 31).toUInt32).toInt32) &&& (7 : Int32))), .unset, .unset]) rfl (pc' := 163) rfl ?_
    generalize h_sel : (((mode.toUInt32 >>> ((3 : Int32) &&& 31).toUInt32).toInt32) &&& (7 : Int32)) = sel
    refine Go.iload S11 at_163 rfl (pc' := 165) rfl ?_
    refine Go.iconst S11 (v := 4) at_165 rfl (pc' := 166) rfl ?_
    refine Go.icmp_gt S11 at_166 (pt := 223) (by decide) (pc' := 169) rfl ?_ ?_
    · intro c166
      refine Go.iload S11 at_223 rfl (pc' := 225) rfl ?_
      refine Go.iconst S11 (v := 5) at_225 rfl (pc' := 226) rfl ?_
      refine Go.icmp_ne S11 at_226 (pt := 237) (by decide) (pc' := 229) rfl ?_ ?_
      · intro c226
        refine Go.iload S11 at_237 rfl (pc' := 239) rfl ?_
        refine Go.bipush S11 (v := 6) at_239 rfl (pc' := 241) rfl ?_
        refine Go.icmp_ne S11 at_241 (pt := 259) (by decide) (pc' := 244) rfl ?_ ?_
        · intro c241
          refine Go.aload S11 at_259 rfl rfl (pc' := 261) rfl ?_
          refine Go.aload S11 at_261 rfl rfl (pc' := 263) rfl ?_
          refine Go.invokevirtual S11 (y := ⟨"com/example/opas/opas/Template", "equals", "(Ljava/lang/Object;)Z"⟩) (rm_teqS hw a7 s1 S11.ext A1.1) (wd65 hw) (wd66 hw) (S11.nf (wd68 hw)) (wd68 hw) (wd67 hw) (wd51 hw) (wd69 hw) (by decide) X7 at_263 rfl pd12 (argsL := [(.ref s1)]) rfl rfl rfl (by decide) (W := 0) rfl (by decide) (by decide) (by decide) all0 (pc' := 266) rfl ?_
          intro v12 T12 h12 L12 S12 K12 q12
          obtain ⟨rfl, rfl⟩ := q12
          show Go _ _ _ _ T12 (mkF m 266 #[.val (.long ax), .second, .val (.long ay), .second, .val (.int mode), .val (.long src0), .second, .val (.long src1), .second, .val (.long src2), .second, .val (.ref s1), .val (.ref s2), .val (.ref s3), .val (.ref s4), .val (.ref s5), .val (.ref s6), .val (.ref a7), .val (.ref a9), .val (.int (0 : Int32)), .val (.int sel), .unset, .unset] [(.int (0 : Int32))])
          refine Go.if_ne S12 at_266 (pt := 273) (by decide) (pc' := 269) rfl ?_ ?_
          · intro c266; exact absurd (by decide) c266
          · intro c266
            refine Go.iconst S12 (v := 1) at_269 rfl (pc' := 270) rfl ?_
            refine Go.goto S12 at_270 (pc' := 274) (by decide) ?_
            exact Go.zreturnW S12 N6 hn rfl (by decide) at_274 (z' := (1 : Int32)) rfl (by decide) (by decide) (rfl)
        · intro c241
          refine Go.aload S11 at_244 rfl rfl (pc' := 246) rfl ?_
          refine Go.aconst_null S11 at_246 (pc' := 247) rfl ?_
          refine Go.invokevirtual S11 (y := ⟨"com/example/opas/opas/Template", "equals", "(Ljava/lang/Object;)Z"⟩) (rm_teqN hw a7 S11.ext) (wd65 hw) (wd66 hw) (S11.nf (wd68 hw)) (wd68 hw) (wd67 hw) (wd51 hw) (wd69 hw) (by decide) X7 at_247 rfl pd12 (argsL := [.null]) rfl rfl rfl (by decide) (W := 0) rfl (by decide) (by decide) (by decide) all0 (pc' := 250) rfl ?_
          intro v13 T13 h13 L13 S13 K13 q13
          obtain ⟨rfl, rfl⟩ := q13
          show Go _ _ _ _ T13 (mkF m 250 #[.val (.long ax), .second, .val (.long ay), .second, .val (.int mode), .val (.long src0), .second, .val (.long src1), .second, .val (.long src2), .second, .val (.ref s1), .val (.ref s2), .val (.ref s3), .val (.ref s4), .val (.ref s5), .val (.ref s6), .val (.ref a7), .val (.ref a9), .val (.int (0 : Int32)), .val (.int sel), .unset, .unset] [(.int (0 : Int32))])
          refine Go.if_ne S13 at_250 (pt := 257) (by decide) (pc' := 253) rfl ?_ ?_
          · intro c250; exact absurd (by decide) c250
          · intro c250
            refine Go.iconst S13 (v := 1) at_253 rfl (pc' := 254) rfl ?_
            refine Go.goto S13 at_254 (pc' := 258) (by decide) ?_
            exact Go.zreturnW S13 N6 hn rfl (by decide) at_258 (z' := (1 : Int32)) rfl (by decide) (by decide) (rfl)
      · intro c226
        refine Go.aload S11 at_229 rfl rfl (pc' := 231) rfl ?_
        refine Go.aload S11 at_231 rfl rfl (pc' := 233) rfl ?_
        refine Go.invokevirtual S11 (y := ⟨"com/example/opas/opas/Template", "equals", "(Ljava/lang/Object;)Z"⟩) (rm_teq hw a7 a7 s1 s2 s3 s1 s2 s3 b1 b2 b3 b1 b2 b3 k1 k2 k3 k1 k2 k3 (own_mk ax 0) (own_mk ax 1) (own_mk ax 2) (own_mk ax 0) (own_mk ax 1) (own_mk ax 2) cs S11.ext X7 Fbefore Fkind Fafter Fbefore Fkind Fafter A1 A2 A3 A1 A2 A3 Cs Cn) (wd65 hw) (wd66 hw) (S11.nf (wd68 hw)) (wd68 hw) (wd67 hw) (wd51 hw) (wd69 hw) (by decide) X7 at_233 rfl pd12 (argsL := [(.ref a7)]) rfl rfl rfl (by decide) (W := 0) rfl (by decide) (by decide) (by decide) all0 (pc' := 236) rfl ?_
        intro v14 T14 h14 L14 S14 K14 q14
        rw [if_pos ⟨rfl, rfl, rfl⟩] at q14
        obtain ⟨rfl, rfl⟩ := q14
        show Go _ _ _ _ T14 (mkF m 236 #[.val (.long ax), .second, .val (.long ay), .second, .val (.int mode), .val (.long src0), .second, .val (.long src1), .second, .val (.long src2), .second, .val (.ref s1), .val (.ref s2), .val (.ref s3), .val (.ref s4), .val (.ref s5), .val (.ref s6), .val (.ref a7), .val (.ref a9), .val (.int (0 : Int32)), .val (.int sel), .unset, .unset] [(.int (1 : Int32))])
        exact Go.zreturnW S14 N6 hn rfl (by decide) at_236 (z' := (1 : Int32)) rfl (by decide) (by decide) (rfl)
    · intro c166
      refine Go.aload S11 at_169 rfl rfl (pc' := 171) rfl ?_
      refine Go.aload S11 at_171 rfl rfl (pc' := 173) rfl ?_
      refine Go.invokevirtual S11 (y := ⟨"com/example/opas/opas/Template", "equals", "(Ljava/lang/Object;)Z"⟩) (rm_teq hw a7 a9 s1 s2 s3 s4 s5 s6 b1 b2 b3 b4 b5 b6 k1 k2 k3 k4 k5 k6 (own_mk ax 0) (own_mk ax 1) (own_mk ax 2) (own_mk src0 0) (own_mk src1 1) (own_mk src2 2) cs S11.ext X9 Fbefore Fkind Fafter Gbefore Gkind Gafter A1 A2 A3 A4 A5 A6 Cs Cn) (wd65 hw) (wd66 hw) (S11.nf (wd68 hw)) (wd68 hw) (wd67 hw) (wd51 hw) (wd69 hw) (by decide) X7 at_173 rfl pd12 (argsL := [(.ref a9)]) rfl rfl rfl (by decide) (W := 0) rfl (by decide) (by decide) (by decide) all0 (pc' := 176) rfl ?_
      intro v15 T15 h15 L15 S15 K15 q15
      rw [if_neg (fun q => own_i0 c124 (q.1))] at q15
      obtain ⟨rfl, rfl⟩ := q15
      show Go _ _ _ _ T15 (mkF m 176 #[.val (.long ax), .second, .val (.long ay), .second, .val (.int mode), .val (.long src0), .second, .val (.long src1), .second, .val (.long src2), .second, .val (.ref s1), .val (.ref s2), .val (.ref s3), .val (.ref s4), .val (.ref s5), .val (.ref s6), .val (.ref a7), .val (.ref a9), .val (.int (0 : Int32)), .val (.int sel), .unset, .unset] [(.int (0 : Int32))])
      refine Go.iload S15 at_176 rfl (pc' := 178) rfl ?_
      refine Go.icmp_ne S15 at_178 (pt := 185) (by decide) (pc' := 181) rfl ?_ ?_
      · intro c178; exact absurd (by decide) c178
      · intro c178
        refine Go.iconst S15 (v := 1) at_181 rfl (pc' := 182) rfl ?_
        refine Go.goto S15 at_182 (pc' := 186) (by decide) ?_
        refine Go.istore S15 at_186 (Ls' := #[.val (.long ax), .second, .val (.long ay), .second, .val (.int mode), .val (.long src0), .second, .val (.long src1), .second, .val (.long src2), .second, .val (.ref s1), .val (.ref s2), .val (.ref s3), .val (.ref s4), .val (.ref s5), .val (.ref s6), .val (.ref a7), .val (.ref a9), .val (.int (0 : Int32)), .val (.int sel), .val (.int (1 : Int32)), .unset]) rfl (pc' := 188) rfl ?_
        refine Go.aload S15 at_188 rfl rfl (pc' := 190) rfl ?_
        refine Go.aload S15 at_190 rfl rfl (pc' := 192) rfl ?_
        refine Go.invokevirtual S15 (y := ⟨"com/example/opas/opas/Template", "equals", "(Ljava/lang/Object;)Z"⟩) (rm_teq hw a9 a7 s4 s5 s6 s1 s2 s3 b4 b5 b6 b1 b2 b3 k4 k5 k6 k1 k2 k3 (own_mk src0 0) (own_mk src1 1) (own_mk src2 2) (own_mk ax 0) (own_mk ax 1) (own_mk ax 2) cs S15.ext X7 Gbefore Gkind Gafter Fbefore Fkind Fafter A4 A5 A6 A1 A2 A3 Cs Cn) (wd65 hw) (wd66 hw) (S15.nf (wd68 hw)) (wd68 hw) (wd67 hw) (wd51 hw) (wd69 hw) (by decide) X9 at_192 rfl pd12 (argsL := [(.ref a7)]) rfl rfl rfl (by decide) (W := 0) rfl (by decide) (by decide) (by decide) all0 (pc' := 195) rfl ?_
        intro v16 T16 h16 L16 S16 K16 q16
        rw [if_neg (fun q => own_i0 c124 (q.1).symm)] at q16
        obtain ⟨rfl, rfl⟩ := q16
        show Go _ _ _ _ T16 (mkF m 195 #[.val (.long ax), .second, .val (.long ay), .second, .val (.int mode), .val (.long src0), .second, .val (.long src1), .second, .val (.long src2), .second, .val (.ref s1), .val (.ref s2), .val (.ref s3), .val (.ref s4), .val (.ref s5), .val (.ref s6), .val (.ref a7), .val (.ref a9), .val (.int (0 : Int32)), .val (.int sel), .val (.int (1 : Int32)), .unset] [(.int (0 : Int32))])
        refine Go.iload S16 at_195 rfl (pc' := 197) rfl ?_
        refine Go.icmp_ne S16 at_197 (pt := 204) (by decide) (pc' := 200) rfl ?_ ?_
        · intro c197; exact absurd (by decide) c197
        · intro c197
          refine Go.iconst S16 (v := 1) at_200 rfl (pc' := 201) rfl ?_
          refine Go.goto S16 at_201 (pc' := 205) (by decide) ?_
          refine Go.istore S16 at_205 (Ls' := #[.val (.long ax), .second, .val (.long ay), .second, .val (.int mode), .val (.long src0), .second, .val (.long src1), .second, .val (.long src2), .second, .val (.ref s1), .val (.ref s2), .val (.ref s3), .val (.ref s4), .val (.ref s5), .val (.ref s6), .val (.ref a7), .val (.ref a9), .val (.int (0 : Int32)), .val (.int sel), .val (.int (1 : Int32)), .val (.int (1 : Int32))]) rfl (pc' := 207) rfl ?_
          refine Go.iload S16 at_207 rfl (pc' := 209) rfl ?_
          refine Go.if_eq S16 at_209 (pt := 221) (by decide) (pc' := 212) rfl ?_ ?_
          · intro c209; exact absurd c209 (by decide)
          · intro c209
            refine Go.iload S16 at_212 rfl (pc' := 214) rfl ?_
            refine Go.if_eq S16 at_214 (pt := 221) (by decide) (pc' := 217) rfl ?_ ?_
            · intro c214; exact absurd c214 (by decide)
            · intro c214
              refine Go.iconst S16 (v := 1) at_217 rfl (pc' := 218) rfl ?_
              refine Go.goto S16 at_218 (pc' := 222) (by decide) ?_
              exact Go.zreturnW S16 N6 hn rfl (by decide) at_222 (z' := (1 : Int32)) rfl (by decide) (by decide) (rfl)
  · intro c124
    refine Go.lloadN S11 at_127 rfl (pc' := 128) rfl ?_
    refine Go.lload S11 at_128 rfl (pc' := 130) rfl ?_
    refine Go.iconst S11 (v := 1) at_130 rfl (pc' := 131) rfl ?_
    refine Go.invokestatic S11 (y := ⟨"com/example/opas/opas/TemplateEqualsPinLaw", "same", "(JJI)Z"⟩) (rm_same hw ax src1 1 S11.ext) (wd62 hw) (wd63 hw) (wd2 hw) (wd64 hw) (by decide) at_131 rfl pd15 (argsL := [(.long ax), (.long src1), (.int (1 : Int32))]) rfl rfl rfl (by decide) (W := 0) rfl (by decide) (by decide) (by decide) all0 (pc' := 134) rfl ?_
    intro v17 T17 h17 L17 S17 K17 q17
    obtain ⟨rfl, rfl⟩ := q17
    show Go _ _ _ _ T17 (mkF m 134 #[.val (.long ax), .second, .val (.long ay), .second, .val (.int mode), .val (.long src0), .second, .val (.long src1), .second, .val (.long src2), .second, .val (.ref s1), .val (.ref s2), .val (.ref s3), .val (.ref s4), .val (.ref s5), .val (.ref s6), .val (.ref a7), .val (.ref a9), .unset, .unset, .unset, .unset] [(.int (if own_mk ax 1 = own_mk src1 1 then 1 else 0 : Int32))])
    refine Go.if_eq S17 at_134 (pt := 151) (by decide) (pc' := 137) rfl ?_ ?_
    · intro c134
      refine Go.iconst S17 (v := 0) at_151 rfl (pc' := 152) rfl ?_
      refine Go.istore S17 at_152 (Ls' := #[.val (.long ax), .second, .val (.long ay), .second, .val (.int mode), .val (.long src0), .second, .val (.long src1), .second, .val (.long src2), .second, .val (.ref s1), .val (.ref s2), .val (.ref s3), .val (.ref s4), .val (.ref s5), .val (.ref s6), .val (.ref a7), .val (.ref a9), .val (.int (0 : Int32)), .unset, .unset, .unset]) rfl (pc' := 154) rfl ?_
      refine Go.iload S17 at_154 rfl (pc' := 156) rfl ?_
      refine Go.iconst S17 (v := 3) at_156 rfl (pc' := 157) rfl ?_
      refine Go.iushr S17 at_157 (pc' := 158) rfl ?_
      refine Go.bipush S17 (v := 7) at_158 rfl (pc' := 160) rfl ?_
      refine Go.iand S17 at_160 (pc' := 161) rfl ?_
      refine Go.istore S17 at_161 (Ls' := #[.val (.long ax), .second, .val (.long ay), .second, .val (.int mode), .val (.long src0), .second, .val (.long src1), .second, .val (.long src2), .second, .val (.ref s1), .val (.ref s2), .val (.ref s3), .val (.ref s4), .val (.ref s5), .val (.ref s6), .val (.ref a7), .val (.ref a9), .val (.int (0 : Int32)), .val (.int (((mode.toUInt32 >>> ((3 : Int32) &&& 31).toUInt32).toInt32) &&& (7 : Int32))), .unset, .unset]) rfl (pc' := 163) rfl ?_
      generalize h_sel : (((mode.toUInt32 >>> ((3 : Int32) &&& 31).toUInt32).toInt32) &&& (7 : Int32)) = sel
      refine Go.iload S17 at_163 rfl (pc' := 165) rfl ?_
      refine Go.iconst S17 (v := 4) at_165 rfl (pc' := 166) rfl ?_
      refine Go.icmp_gt S17 at_166 (pt := 223) (by decide) (pc' := 169) rfl ?_ ?_
      · intro c166
        refine Go.iload S17 at_223 rfl (pc' := 225) rfl ?_
        refine Go.iconst S17 (v := 5) at_225 rfl (pc' := 226) rfl ?_
        refine Go.icmp_ne S17 at_226 (pt := 237) (by decide) (pc' := 229) rfl ?_ ?_
        · intro c226
          refine Go.iload S17 at_237 rfl (pc' := 239) rfl ?_
          refine Go.bipush S17 (v := 6) at_239 rfl (pc' := 241) rfl ?_
          refine Go.icmp_ne S17 at_241 (pt := 259) (by decide) (pc' := 244) rfl ?_ ?_
          · intro c241
            refine Go.aload S17 at_259 rfl rfl (pc' := 261) rfl ?_
            refine Go.aload S17 at_261 rfl rfl (pc' := 263) rfl ?_
            refine Go.invokevirtual S17 (y := ⟨"com/example/opas/opas/Template", "equals", "(Ljava/lang/Object;)Z"⟩) (rm_teqS hw a7 s1 S17.ext A1.1) (wd65 hw) (wd66 hw) (S17.nf (wd68 hw)) (wd68 hw) (wd67 hw) (wd51 hw) (wd69 hw) (by decide) X7 at_263 rfl pd12 (argsL := [(.ref s1)]) rfl rfl rfl (by decide) (W := 0) rfl (by decide) (by decide) (by decide) all0 (pc' := 266) rfl ?_
            intro v18 T18 h18 L18 S18 K18 q18
            obtain ⟨rfl, rfl⟩ := q18
            show Go _ _ _ _ T18 (mkF m 266 #[.val (.long ax), .second, .val (.long ay), .second, .val (.int mode), .val (.long src0), .second, .val (.long src1), .second, .val (.long src2), .second, .val (.ref s1), .val (.ref s2), .val (.ref s3), .val (.ref s4), .val (.ref s5), .val (.ref s6), .val (.ref a7), .val (.ref a9), .val (.int (0 : Int32)), .val (.int sel), .unset, .unset] [(.int (0 : Int32))])
            refine Go.if_ne S18 at_266 (pt := 273) (by decide) (pc' := 269) rfl ?_ ?_
            · intro c266; exact absurd (by decide) c266
            · intro c266
              refine Go.iconst S18 (v := 1) at_269 rfl (pc' := 270) rfl ?_
              refine Go.goto S18 at_270 (pc' := 274) (by decide) ?_
              exact Go.zreturnW S18 N6 hn rfl (by decide) at_274 (z' := (1 : Int32)) rfl (by decide) (by decide) (rfl)
          · intro c241
            refine Go.aload S17 at_244 rfl rfl (pc' := 246) rfl ?_
            refine Go.aconst_null S17 at_246 (pc' := 247) rfl ?_
            refine Go.invokevirtual S17 (y := ⟨"com/example/opas/opas/Template", "equals", "(Ljava/lang/Object;)Z"⟩) (rm_teqN hw a7 S17.ext) (wd65 hw) (wd66 hw) (S17.nf (wd68 hw)) (wd68 hw) (wd67 hw) (wd51 hw) (wd69 hw) (by decide) X7 at_247 rfl pd12 (argsL := [.null]) rfl rfl rfl (by decide) (W := 0) rfl (by decide) (by decide) (by decide) all0 (pc' := 250) rfl ?_
            intro v19 T19 h19 L19 S19 K19 q19
            obtain ⟨rfl, rfl⟩ := q19
            show Go _ _ _ _ T19 (mkF m 250 #[.val (.long ax), .second, .val (.long ay), .second, .val (.int mode), .val (.long src0), .second, .val (.long src1), .second, .val (.long src2), .second, .val (.ref s1), .val (.ref s2), .val (.ref s3), .val (.ref s4), .val (.ref s5), .val (.ref s6), .val (.ref a7), .val (.ref a9), .val (.int (0 : Int32)), .val (.int sel), .unset, .unset] [(.int (0 : Int32))])
            refine Go.if_ne S19 at_250 (pt := 257) (by decide) (pc' := 253) rfl ?_ ?_
            · intro c250; exact absurd (by decide) c250
            · intro c250
              refine Go.iconst S19 (v := 1) at_253 rfl (pc' := 254) rfl ?_
              refine Go.goto S19 at_254 (pc' := 258) (by decide) ?_
              exact Go.zreturnW S19 N6 hn rfl (by decide) at_258 (z' := (1 : Int32)) rfl (by decide) (by decide) (rfl)
        · intro c226
          refine Go.aload S17 at_229 rfl rfl (pc' := 231) rfl ?_
          refine Go.aload S17 at_231 rfl rfl (pc' := 233) rfl ?_
          refine Go.invokevirtual S17 (y := ⟨"com/example/opas/opas/Template", "equals", "(Ljava/lang/Object;)Z"⟩) (rm_teq hw a7 a7 s1 s2 s3 s1 s2 s3 b1 b2 b3 b1 b2 b3 k1 k2 k3 k1 k2 k3 (own_mk ax 0) (own_mk ax 1) (own_mk ax 2) (own_mk ax 0) (own_mk ax 1) (own_mk ax 2) cs S17.ext X7 Fbefore Fkind Fafter Fbefore Fkind Fafter A1 A2 A3 A1 A2 A3 Cs Cn) (wd65 hw) (wd66 hw) (S17.nf (wd68 hw)) (wd68 hw) (wd67 hw) (wd51 hw) (wd69 hw) (by decide) X7 at_233 rfl pd12 (argsL := [(.ref a7)]) rfl rfl rfl (by decide) (W := 0) rfl (by decide) (by decide) (by decide) all0 (pc' := 236) rfl ?_
          intro v20 T20 h20 L20 S20 K20 q20
          rw [if_pos ⟨rfl, rfl, rfl⟩] at q20
          obtain ⟨rfl, rfl⟩ := q20
          show Go _ _ _ _ T20 (mkF m 236 #[.val (.long ax), .second, .val (.long ay), .second, .val (.int mode), .val (.long src0), .second, .val (.long src1), .second, .val (.long src2), .second, .val (.ref s1), .val (.ref s2), .val (.ref s3), .val (.ref s4), .val (.ref s5), .val (.ref s6), .val (.ref a7), .val (.ref a9), .val (.int (0 : Int32)), .val (.int sel), .unset, .unset] [(.int (1 : Int32))])
          exact Go.zreturnW S20 N6 hn rfl (by decide) at_236 (z' := (1 : Int32)) rfl (by decide) (by decide) (rfl)
      · intro c166
        refine Go.aload S17 at_169 rfl rfl (pc' := 171) rfl ?_
        refine Go.aload S17 at_171 rfl rfl (pc' := 173) rfl ?_
        refine Go.invokevirtual S17 (y := ⟨"com/example/opas/opas/Template", "equals", "(Ljava/lang/Object;)Z"⟩) (rm_teq hw a7 a9 s1 s2 s3 s4 s5 s6 b1 b2 b3 b4 b5 b6 k1 k2 k3 k4 k5 k6 (own_mk ax 0) (own_mk ax 1) (own_mk ax 2) (own_mk src0 0) (own_mk src1 1) (own_mk src2 2) cs S17.ext X9 Fbefore Fkind Fafter Gbefore Gkind Gafter A1 A2 A3 A4 A5 A6 Cs Cn) (wd65 hw) (wd66 hw) (S17.nf (wd68 hw)) (wd68 hw) (wd67 hw) (wd51 hw) (wd69 hw) (by decide) X7 at_173 rfl pd12 (argsL := [(.ref a9)]) rfl rfl rfl (by decide) (W := 0) rfl (by decide) (by decide) (by decide) all0 (pc' := 176) rfl ?_
        intro v21 T21 h21 L21 S21 K21 q21
        rw [if_neg (fun q => own_i0 c134 (q.2.1))] at q21
        obtain ⟨rfl, rfl⟩ := q21
        show Go _ _ _ _ T21 (mkF m 176 #[.val (.long ax), .second, .val (.long ay), .second, .val (.int mode), .val (.long src0), .second, .val (.long src1), .second, .val (.long src2), .second, .val (.ref s1), .val (.ref s2), .val (.ref s3), .val (.ref s4), .val (.ref s5), .val (.ref s6), .val (.ref a7), .val (.ref a9), .val (.int (0 : Int32)), .val (.int sel), .unset, .unset] [(.int (0 : Int32))])
        refine Go.iload S21 at_176 rfl (pc' := 178) rfl ?_
        refine Go.icmp_ne S21 at_178 (pt := 185) (by decide) (pc' := 181) rfl ?_ ?_
        · intro c178; exact absurd (by decide) c178
        · intro c178
          refine Go.iconst S21 (v := 1) at_181 rfl (pc' := 182) rfl ?_
          refine Go.goto S21 at_182 (pc' := 186) (by decide) ?_
          refine Go.istore S21 at_186 (Ls' := #[.val (.long ax), .second, .val (.long ay), .second, .val (.int mode), .val (.long src0), .second, .val (.long src1), .second, .val (.long src2), .second, .val (.ref s1), .val (.ref s2), .val (.ref s3), .val (.ref s4), .val (.ref s5), .val (.ref s6), .val (.ref a7), .val (.ref a9), .val (.int (0 : Int32)), .val (.int sel), .val (.int (1 : Int32)), .unset]) rfl (pc' := 188) rfl ?_
          refine Go.aload S21 at_188 rfl rfl (pc' := 190) rfl ?_
          refine Go.aload S21 at_190 rfl rfl (pc' := 192) rfl ?_
          refine Go.invokevirtual S21 (y := ⟨"com/example/opas/opas/Template", "equals", "(Ljava/lang/Object;)Z"⟩) (rm_teq hw a9 a7 s4 s5 s6 s1 s2 s3 b4 b5 b6 b1 b2 b3 k4 k5 k6 k1 k2 k3 (own_mk src0 0) (own_mk src1 1) (own_mk src2 2) (own_mk ax 0) (own_mk ax 1) (own_mk ax 2) cs S21.ext X7 Gbefore Gkind Gafter Fbefore Fkind Fafter A4 A5 A6 A1 A2 A3 Cs Cn) (wd65 hw) (wd66 hw) (S21.nf (wd68 hw)) (wd68 hw) (wd67 hw) (wd51 hw) (wd69 hw) (by decide) X9 at_192 rfl pd12 (argsL := [(.ref a7)]) rfl rfl rfl (by decide) (W := 0) rfl (by decide) (by decide) (by decide) all0 (pc' := 195) rfl ?_
          intro v22 T22 h22 L22 S22 K22 q22
          rw [if_neg (fun q => own_i0 c134 (q.2.1).symm)] at q22
          obtain ⟨rfl, rfl⟩ := q22
          show Go _ _ _ _ T22 (mkF m 195 #[.val (.long ax), .second, .val (.long ay), .second, .val (.int mode), .val (.long src0), .second, .val (.long src1), .second, .val (.long src2), .second, .val (.ref s1), .val (.ref s2), .val (.ref s3), .val (.ref s4), .val (.ref s5), .val (.ref s6), .val (.ref a7), .val (.ref a9), .val (.int (0 : Int32)), .val (.int sel), .val (.int (1 : Int32)), .unset] [(.int (0 : Int32))])
          refine Go.iload S22 at_195 rfl (pc' := 197) rfl ?_
          refine Go.icmp_ne S22 at_197 (pt := 204) (by decide) (pc' := 200) rfl ?_ ?_
          · intro c197; exact absurd (by decide) c197
          · intro c197
            refine Go.iconst S22 (v := 1) at_200 rfl (pc' := 201) rfl ?_
            refine Go.goto S22 at_201 (pc' := 205) (by decide) ?_
            refine Go.istore S22 at_205 (Ls' := #[.val (.long ax), .second, .val (.long ay), .second, .val (.int mode), .val (.long src0), .second, .val (.long src1), .second, .val (.long src2), .second, .val (.ref s1), .val (.ref s2), .val (.ref s3), .val (.ref s4), .val (.ref s5), .val (.ref s6), .val (.ref a7), .val (.ref a9), .val (.int (0 : Int32)), .val (.int sel), .val (.int (1 : Int32)), .val (.int (1 : Int32))]) rfl (pc' := 207) rfl ?_
            refine Go.iload S22 at_207 rfl (pc' := 209) rfl ?_
            refine Go.if_eq S22 at_209 (pt := 221) (by decide) (pc' := 212) rfl ?_ ?_
            · intro c209; exact absurd c209 (by decide)
            · intro c209
              refine Go.iload S22 at_212 rfl (pc' := 214) rfl ?_
              refine Go.if_eq S22 at_214 (pt := 221) (by decide) (pc' := 217) rfl ?_ ?_
              · intro c214; exact absurd c214 (by decide)
              · intro c214
                refine Go.iconst S22 (v := 1) at_217 rfl (pc' := 218) rfl ?_
                refine Go.goto S22 at_218 (pc' := 222) (by decide) ?_
                exact Go.zreturnW S22 N6 hn rfl (by decide) at_222 (z' := (1 : Int32)) rfl (by decide) (by decide) (rfl)
    · intro c134
      refine Go.lloadN S17 at_137 rfl (pc' := 138) rfl ?_
      refine Go.lload S17 at_138 rfl (pc' := 140) rfl ?_
      refine Go.iconst S17 (v := 2) at_140 rfl (pc' := 141) rfl ?_
      refine Go.invokestatic S17 (y := ⟨"com/example/opas/opas/TemplateEqualsPinLaw", "same", "(JJI)Z"⟩) (rm_same hw ax src2 2 S17.ext) (wd62 hw) (wd63 hw) (wd2 hw) (wd64 hw) (by decide) at_141 rfl pd15 (argsL := [(.long ax), (.long src2), (.int (2 : Int32))]) rfl rfl rfl (by decide) (W := 0) rfl (by decide) (by decide) (by decide) all0 (pc' := 144) rfl ?_
      intro v23 T23 h23 L23 S23 K23 q23
      obtain ⟨rfl, rfl⟩ := q23
      show Go _ _ _ _ T23 (mkF m 144 #[.val (.long ax), .second, .val (.long ay), .second, .val (.int mode), .val (.long src0), .second, .val (.long src1), .second, .val (.long src2), .second, .val (.ref s1), .val (.ref s2), .val (.ref s3), .val (.ref s4), .val (.ref s5), .val (.ref s6), .val (.ref a7), .val (.ref a9), .unset, .unset, .unset, .unset] [(.int (if own_mk ax 2 = own_mk src2 2 then 1 else 0 : Int32))])
      refine Go.if_eq S23 at_144 (pt := 151) (by decide) (pc' := 147) rfl ?_ ?_
      · intro c144
        refine Go.iconst S23 (v := 0) at_151 rfl (pc' := 152) rfl ?_
        refine Go.istore S23 at_152 (Ls' := #[.val (.long ax), .second, .val (.long ay), .second, .val (.int mode), .val (.long src0), .second, .val (.long src1), .second, .val (.long src2), .second, .val (.ref s1), .val (.ref s2), .val (.ref s3), .val (.ref s4), .val (.ref s5), .val (.ref s6), .val (.ref a7), .val (.ref a9), .val (.int (0 : Int32)), .unset, .unset, .unset]) rfl (pc' := 154) rfl ?_
        refine Go.iload S23 at_154 rfl (pc' := 156) rfl ?_
        refine Go.iconst S23 (v := 3) at_156 rfl (pc' := 157) rfl ?_
        refine Go.iushr S23 at_157 (pc' := 158) rfl ?_
        refine Go.bipush S23 (v := 7) at_158 rfl (pc' := 160) rfl ?_
        refine Go.iand S23 at_160 (pc' := 161) rfl ?_
        refine Go.istore S23 at_161 (Ls' := #[.val (.long ax), .second, .val (.long ay), .second, .val (.int mode), .val (.long src0), .second, .val (.long src1), .second, .val (.long src2), .second, .val (.ref s1), .val (.ref s2), .val (.ref s3), .val (.ref s4), .val (.ref s5), .val (.ref s6), .val (.ref a7), .val (.ref a9), .val (.int (0 : Int32)), .val (.int (((mode.toUInt32 >>> ((3 : Int32) &&& 31).toUInt32).toInt32) &&& (7 : Int32))), .unset, .unset]) rfl (pc' := 163) rfl ?_
        generalize h_sel : (((mode.toUInt32 >>> ((3 : Int32) &&& 31).toUInt32).toInt32) &&& (7 : Int32)) = sel
        refine Go.iload S23 at_163 rfl (pc' := 165) rfl ?_
        refine Go.iconst S23 (v := 4) at_165 rfl (pc' := 166) rfl ?_
        refine Go.icmp_gt S23 at_166 (pt := 223) (by decide) (pc' := 169) rfl ?_ ?_
        · intro c166
          refine Go.iload S23 at_223 rfl (pc' := 225) rfl ?_
          refine Go.iconst S23 (v := 5) at_225 rfl (pc' := 226) rfl ?_
          refine Go.icmp_ne S23 at_226 (pt := 237) (by decide) (pc' := 229) rfl ?_ ?_
          · intro c226
            refine Go.iload S23 at_237 rfl (pc' := 239) rfl ?_
            refine Go.bipush S23 (v := 6) at_239 rfl (pc' := 241) rfl ?_
            refine Go.icmp_ne S23 at_241 (pt := 259) (by decide) (pc' := 244) rfl ?_ ?_
            · intro c241
              refine Go.aload S23 at_259 rfl rfl (pc' := 261) rfl ?_
              refine Go.aload S23 at_261 rfl rfl (pc' := 263) rfl ?_
              refine Go.invokevirtual S23 (y := ⟨"com/example/opas/opas/Template", "equals", "(Ljava/lang/Object;)Z"⟩) (rm_teqS hw a7 s1 S23.ext A1.1) (wd65 hw) (wd66 hw) (S23.nf (wd68 hw)) (wd68 hw) (wd67 hw) (wd51 hw) (wd69 hw) (by decide) X7 at_263 rfl pd12 (argsL := [(.ref s1)]) rfl rfl rfl (by decide) (W := 0) rfl (by decide) (by decide) (by decide) all0 (pc' := 266) rfl ?_
              intro v24 T24 h24 L24 S24 K24 q24
              obtain ⟨rfl, rfl⟩ := q24
              show Go _ _ _ _ T24 (mkF m 266 #[.val (.long ax), .second, .val (.long ay), .second, .val (.int mode), .val (.long src0), .second, .val (.long src1), .second, .val (.long src2), .second, .val (.ref s1), .val (.ref s2), .val (.ref s3), .val (.ref s4), .val (.ref s5), .val (.ref s6), .val (.ref a7), .val (.ref a9), .val (.int (0 : Int32)), .val (.int sel), .unset, .unset] [(.int (0 : Int32))])
              refine Go.if_ne S24 at_266 (pt := 273) (by decide) (pc' := 269) rfl ?_ ?_
              · intro c266; exact absurd (by decide) c266
              · intro c266
                refine Go.iconst S24 (v := 1) at_269 rfl (pc' := 270) rfl ?_
                refine Go.goto S24 at_270 (pc' := 274) (by decide) ?_
                exact Go.zreturnW S24 N6 hn rfl (by decide) at_274 (z' := (1 : Int32)) rfl (by decide) (by decide) (rfl)
            · intro c241
              refine Go.aload S23 at_244 rfl rfl (pc' := 246) rfl ?_
              refine Go.aconst_null S23 at_246 (pc' := 247) rfl ?_
              refine Go.invokevirtual S23 (y := ⟨"com/example/opas/opas/Template", "equals", "(Ljava/lang/Object;)Z"⟩) (rm_teqN hw a7 S23.ext) (wd65 hw) (wd66 hw) (S23.nf (wd68 hw)) (wd68 hw) (wd67 hw) (wd51 hw) (wd69 hw) (by decide) X7 at_247 rfl pd12 (argsL := [.null]) rfl rfl rfl (by decide) (W := 0) rfl (by decide) (by decide) (by decide) all0 (pc' := 250) rfl ?_
              intro v25 T25 h25 L25 S25 K25 q25
              obtain ⟨rfl, rfl⟩ := q25
              show Go _ _ _ _ T25 (mkF m 250 #[.val (.long ax), .second, .val (.long ay), .second, .val (.int mode), .val (.long src0), .second, .val (.long src1), .second, .val (.long src2), .second, .val (.ref s1), .val (.ref s2), .val (.ref s3), .val (.ref s4), .val (.ref s5), .val (.ref s6), .val (.ref a7), .val (.ref a9), .val (.int (0 : Int32)), .val (.int sel), .unset, .unset] [(.int (0 : Int32))])
              refine Go.if_ne S25 at_250 (pt := 257) (by decide) (pc' := 253) rfl ?_ ?_
              · intro c250; exact absurd (by decide) c250
              · intro c250
                refine Go.iconst S25 (v := 1) at_253 rfl (pc' := 254) rfl ?_
                refine Go.goto S25 at_254 (pc' := 258) (by decide) ?_
                exact Go.zreturnW S25 N6 hn rfl (by decide) at_258 (z' := (1 : Int32)) rfl (by decide) (by decide) (rfl)
          · intro c226
            refine Go.aload S23 at_229 rfl rfl (pc' := 231) rfl ?_
            refine Go.aload S23 at_231 rfl rfl (pc' := 233) rfl ?_
            refine Go.invokevirtual S23 (y := ⟨"com/example/opas/opas/Template", "equals", "(Ljava/lang/Object;)Z"⟩) (rm_teq hw a7 a7 s1 s2 s3 s1 s2 s3 b1 b2 b3 b1 b2 b3 k1 k2 k3 k1 k2 k3 (own_mk ax 0) (own_mk ax 1) (own_mk ax 2) (own_mk ax 0) (own_mk ax 1) (own_mk ax 2) cs S23.ext X7 Fbefore Fkind Fafter Fbefore Fkind Fafter A1 A2 A3 A1 A2 A3 Cs Cn) (wd65 hw) (wd66 hw) (S23.nf (wd68 hw)) (wd68 hw) (wd67 hw) (wd51 hw) (wd69 hw) (by decide) X7 at_233 rfl pd12 (argsL := [(.ref a7)]) rfl rfl rfl (by decide) (W := 0) rfl (by decide) (by decide) (by decide) all0 (pc' := 236) rfl ?_
            intro v26 T26 h26 L26 S26 K26 q26
            rw [if_pos ⟨rfl, rfl, rfl⟩] at q26
            obtain ⟨rfl, rfl⟩ := q26
            show Go _ _ _ _ T26 (mkF m 236 #[.val (.long ax), .second, .val (.long ay), .second, .val (.int mode), .val (.long src0), .second, .val (.long src1), .second, .val (.long src2), .second, .val (.ref s1), .val (.ref s2), .val (.ref s3), .val (.ref s4), .val (.ref s5), .val (.ref s6), .val (.ref a7), .val (.ref a9), .val (.int (0 : Int32)), .val (.int sel), .unset, .unset] [(.int (1 : Int32))])
            exact Go.zreturnW S26 N6 hn rfl (by decide) at_236 (z' := (1 : Int32)) rfl (by decide) (by decide) (rfl)
        · intro c166
          refine Go.aload S23 at_169 rfl rfl (pc' := 171) rfl ?_
          refine Go.aload S23 at_171 rfl rfl (pc' := 173) rfl ?_
          refine Go.invokevirtual S23 (y := ⟨"com/example/opas/opas/Template", "equals", "(Ljava/lang/Object;)Z"⟩) (rm_teq hw a7 a9 s1 s2 s3 s4 s5 s6 b1 b2 b3 b4 b5 b6 k1 k2 k3 k4 k5 k6 (own_mk ax 0) (own_mk ax 1) (own_mk ax 2) (own_mk src0 0) (own_mk src1 1) (own_mk src2 2) cs S23.ext X9 Fbefore Fkind Fafter Gbefore Gkind Gafter A1 A2 A3 A4 A5 A6 Cs Cn) (wd65 hw) (wd66 hw) (S23.nf (wd68 hw)) (wd68 hw) (wd67 hw) (wd51 hw) (wd69 hw) (by decide) X7 at_173 rfl pd12 (argsL := [(.ref a9)]) rfl rfl rfl (by decide) (W := 0) rfl (by decide) (by decide) (by decide) all0 (pc' := 176) rfl ?_
          intro v27 T27 h27 L27 S27 K27 q27
          rw [if_neg (fun q => own_i0 c144 (q.2.2))] at q27
          obtain ⟨rfl, rfl⟩ := q27
          show Go _ _ _ _ T27 (mkF m 176 #[.val (.long ax), .second, .val (.long ay), .second, .val (.int mode), .val (.long src0), .second, .val (.long src1), .second, .val (.long src2), .second, .val (.ref s1), .val (.ref s2), .val (.ref s3), .val (.ref s4), .val (.ref s5), .val (.ref s6), .val (.ref a7), .val (.ref a9), .val (.int (0 : Int32)), .val (.int sel), .unset, .unset] [(.int (0 : Int32))])
          refine Go.iload S27 at_176 rfl (pc' := 178) rfl ?_
          refine Go.icmp_ne S27 at_178 (pt := 185) (by decide) (pc' := 181) rfl ?_ ?_
          · intro c178; exact absurd (by decide) c178
          · intro c178
            refine Go.iconst S27 (v := 1) at_181 rfl (pc' := 182) rfl ?_
            refine Go.goto S27 at_182 (pc' := 186) (by decide) ?_
            refine Go.istore S27 at_186 (Ls' := #[.val (.long ax), .second, .val (.long ay), .second, .val (.int mode), .val (.long src0), .second, .val (.long src1), .second, .val (.long src2), .second, .val (.ref s1), .val (.ref s2), .val (.ref s3), .val (.ref s4), .val (.ref s5), .val (.ref s6), .val (.ref a7), .val (.ref a9), .val (.int (0 : Int32)), .val (.int sel), .val (.int (1 : Int32)), .unset]) rfl (pc' := 188) rfl ?_
            refine Go.aload S27 at_188 rfl rfl (pc' := 190) rfl ?_
            refine Go.aload S27 at_190 rfl rfl (pc' := 192) rfl ?_
            refine Go.invokevirtual S27 (y := ⟨"com/example/opas/opas/Template", "equals", "(Ljava/lang/Object;)Z"⟩) (rm_teq hw a9 a7 s4 s5 s6 s1 s2 s3 b4 b5 b6 b1 b2 b3 k4 k5 k6 k1 k2 k3 (own_mk src0 0) (own_mk src1 1) (own_mk src2 2) (own_mk ax 0) (own_mk ax 1) (own_mk ax 2) cs S27.ext X7 Gbefore Gkind Gafter Fbefore Fkind Fafter A4 A5 A6 A1 A2 A3 Cs Cn) (wd65 hw) (wd66 hw) (S27.nf (wd68 hw)) (wd68 hw) (wd67 hw) (wd51 hw) (wd69 hw) (by decide) X9 at_192 rfl pd12 (argsL := [(.ref a7)]) rfl rfl rfl (by decide) (W := 0) rfl (by decide) (by decide) (by decide) all0 (pc' := 195) rfl ?_
            intro v28 T28 h28 L28 S28 K28 q28
            rw [if_neg (fun q => own_i0 c144 (q.2.2).symm)] at q28
            obtain ⟨rfl, rfl⟩ := q28
            show Go _ _ _ _ T28 (mkF m 195 #[.val (.long ax), .second, .val (.long ay), .second, .val (.int mode), .val (.long src0), .second, .val (.long src1), .second, .val (.long src2), .second, .val (.ref s1), .val (.ref s2), .val (.ref s3), .val (.ref s4), .val (.ref s5), .val (.ref s6), .val (.ref a7), .val (.ref a9), .val (.int (0 : Int32)), .val (.int sel), .val (.int (1 : Int32)), .unset] [(.int (0 : Int32))])
            refine Go.iload S28 at_195 rfl (pc' := 197) rfl ?_
            refine Go.icmp_ne S28 at_197 (pt := 204) (by decide) (pc' := 200) rfl ?_ ?_
            · intro c197; exact absurd (by decide) c197
            · intro c197
              refine Go.iconst S28 (v := 1) at_200 rfl (pc' := 201) rfl ?_
              refine Go.goto S28 at_201 (pc' := 205) (by decide) ?_
              refine Go.istore S28 at_205 (Ls' := #[.val (.long ax), .second, .val (.long ay), .second, .val (.int mode), .val (.long src0), .second, .val (.long src1), .second, .val (.long src2), .second, .val (.ref s1), .val (.ref s2), .val (.ref s3), .val (.ref s4), .val (.ref s5), .val (.ref s6), .val (.ref a7), .val (.ref a9), .val (.int (0 : Int32)), .val (.int sel), .val (.int (1 : Int32)), .val (.int (1 : Int32))]) rfl (pc' := 207) rfl ?_
              refine Go.iload S28 at_207 rfl (pc' := 209) rfl ?_
              refine Go.if_eq S28 at_209 (pt := 221) (by decide) (pc' := 212) rfl ?_ ?_
              · intro c209; exact absurd c209 (by decide)
              · intro c209
                refine Go.iload S28 at_212 rfl (pc' := 214) rfl ?_
                refine Go.if_eq S28 at_214 (pt := 221) (by decide) (pc' := 217) rfl ?_ ?_
                · intro c214; exact absurd c214 (by decide)
                · intro c214
                  refine Go.iconst S28 (v := 1) at_217 rfl (pc' := 218) rfl ?_
                  refine Go.goto S28 at_218 (pc' := 222) (by decide) ?_
                  exact Go.zreturnW S28 N6 hn rfl (by decide) at_222 (z' := (1 : Int32)) rfl (by decide) (by decide) (rfl)
      · intro c144
        refine Go.iconst S23 (v := 1) at_147 rfl (pc' := 148) rfl ?_
        refine Go.goto S23 at_148 (pc' := 152) (by decide) ?_
        refine Go.istore S23 at_152 (Ls' := #[.val (.long ax), .second, .val (.long ay), .second, .val (.int mode), .val (.long src0), .second, .val (.long src1), .second, .val (.long src2), .second, .val (.ref s1), .val (.ref s2), .val (.ref s3), .val (.ref s4), .val (.ref s5), .val (.ref s6), .val (.ref a7), .val (.ref a9), .val (.int (1 : Int32)), .unset, .unset, .unset]) rfl (pc' := 154) rfl ?_
        refine Go.iload S23 at_154 rfl (pc' := 156) rfl ?_
        refine Go.iconst S23 (v := 3) at_156 rfl (pc' := 157) rfl ?_
        refine Go.iushr S23 at_157 (pc' := 158) rfl ?_
        refine Go.bipush S23 (v := 7) at_158 rfl (pc' := 160) rfl ?_
        refine Go.iand S23 at_160 (pc' := 161) rfl ?_
        refine Go.istore S23 at_161 (Ls' := #[.val (.long ax), .second, .val (.long ay), .second, .val (.int mode), .val (.long src0), .second, .val (.long src1), .second, .val (.long src2), .second, .val (.ref s1), .val (.ref s2), .val (.ref s3), .val (.ref s4), .val (.ref s5), .val (.ref s6), .val (.ref a7), .val (.ref a9), .val (.int (1 : Int32)), .val (.int (((mode.toUInt32 >>> ((3 : Int32) &&& 31).toUInt32).toInt32) &&& (7 : Int32))), .unset, .unset]) rfl (pc' := 163) rfl ?_
        generalize h_sel : (((mode.toUInt32 >>> ((3 : Int32) &&& 31).toUInt32).toInt32) &&& (7 : Int32)) = sel
        refine Go.iload S23 at_163 rfl (pc' := 165) rfl ?_
        refine Go.iconst S23 (v := 4) at_165 rfl (pc' := 166) rfl ?_
        refine Go.icmp_gt S23 at_166 (pt := 223) (by decide) (pc' := 169) rfl ?_ ?_
        · intro c166
          refine Go.iload S23 at_223 rfl (pc' := 225) rfl ?_
          refine Go.iconst S23 (v := 5) at_225 rfl (pc' := 226) rfl ?_
          refine Go.icmp_ne S23 at_226 (pt := 237) (by decide) (pc' := 229) rfl ?_ ?_
          · intro c226
            refine Go.iload S23 at_237 rfl (pc' := 239) rfl ?_
            refine Go.bipush S23 (v := 6) at_239 rfl (pc' := 241) rfl ?_
            refine Go.icmp_ne S23 at_241 (pt := 259) (by decide) (pc' := 244) rfl ?_ ?_
            · intro c241
              refine Go.aload S23 at_259 rfl rfl (pc' := 261) rfl ?_
              refine Go.aload S23 at_261 rfl rfl (pc' := 263) rfl ?_
              refine Go.invokevirtual S23 (y := ⟨"com/example/opas/opas/Template", "equals", "(Ljava/lang/Object;)Z"⟩) (rm_teqS hw a7 s1 S23.ext A1.1) (wd65 hw) (wd66 hw) (S23.nf (wd68 hw)) (wd68 hw) (wd67 hw) (wd51 hw) (wd69 hw) (by decide) X7 at_263 rfl pd12 (argsL := [(.ref s1)]) rfl rfl rfl (by decide) (W := 0) rfl (by decide) (by decide) (by decide) all0 (pc' := 266) rfl ?_
              intro v29 T29 h29 L29 S29 K29 q29
              obtain ⟨rfl, rfl⟩ := q29
              show Go _ _ _ _ T29 (mkF m 266 #[.val (.long ax), .second, .val (.long ay), .second, .val (.int mode), .val (.long src0), .second, .val (.long src1), .second, .val (.long src2), .second, .val (.ref s1), .val (.ref s2), .val (.ref s3), .val (.ref s4), .val (.ref s5), .val (.ref s6), .val (.ref a7), .val (.ref a9), .val (.int (1 : Int32)), .val (.int sel), .unset, .unset] [(.int (0 : Int32))])
              refine Go.if_ne S29 at_266 (pt := 273) (by decide) (pc' := 269) rfl ?_ ?_
              · intro c266; exact absurd (by decide) c266
              · intro c266
                refine Go.iconst S29 (v := 1) at_269 rfl (pc' := 270) rfl ?_
                refine Go.goto S29 at_270 (pc' := 274) (by decide) ?_
                exact Go.zreturnW S29 N6 hn rfl (by decide) at_274 (z' := (1 : Int32)) rfl (by decide) (by decide) (rfl)
            · intro c241
              refine Go.aload S23 at_244 rfl rfl (pc' := 246) rfl ?_
              refine Go.aconst_null S23 at_246 (pc' := 247) rfl ?_
              refine Go.invokevirtual S23 (y := ⟨"com/example/opas/opas/Template", "equals", "(Ljava/lang/Object;)Z"⟩) (rm_teqN hw a7 S23.ext) (wd65 hw) (wd66 hw) (S23.nf (wd68 hw)) (wd68 hw) (wd67 hw) (wd51 hw) (wd69 hw) (by decide) X7 at_247 rfl pd12 (argsL := [.null]) rfl rfl rfl (by decide) (W := 0) rfl (by decide) (by decide) (by decide) all0 (pc' := 250) rfl ?_
              intro v30 T30 h30 L30 S30 K30 q30
              obtain ⟨rfl, rfl⟩ := q30
              show Go _ _ _ _ T30 (mkF m 250 #[.val (.long ax), .second, .val (.long ay), .second, .val (.int mode), .val (.long src0), .second, .val (.long src1), .second, .val (.long src2), .second, .val (.ref s1), .val (.ref s2), .val (.ref s3), .val (.ref s4), .val (.ref s5), .val (.ref s6), .val (.ref a7), .val (.ref a9), .val (.int (1 : Int32)), .val (.int sel), .unset, .unset] [(.int (0 : Int32))])
              refine Go.if_ne S30 at_250 (pt := 257) (by decide) (pc' := 253) rfl ?_ ?_
              · intro c250; exact absurd (by decide) c250
              · intro c250
                refine Go.iconst S30 (v := 1) at_253 rfl (pc' := 254) rfl ?_
                refine Go.goto S30 at_254 (pc' := 258) (by decide) ?_
                exact Go.zreturnW S30 N6 hn rfl (by decide) at_258 (z' := (1 : Int32)) rfl (by decide) (by decide) (rfl)
          · intro c226
            refine Go.aload S23 at_229 rfl rfl (pc' := 231) rfl ?_
            refine Go.aload S23 at_231 rfl rfl (pc' := 233) rfl ?_
            refine Go.invokevirtual S23 (y := ⟨"com/example/opas/opas/Template", "equals", "(Ljava/lang/Object;)Z"⟩) (rm_teq hw a7 a7 s1 s2 s3 s1 s2 s3 b1 b2 b3 b1 b2 b3 k1 k2 k3 k1 k2 k3 (own_mk ax 0) (own_mk ax 1) (own_mk ax 2) (own_mk ax 0) (own_mk ax 1) (own_mk ax 2) cs S23.ext X7 Fbefore Fkind Fafter Fbefore Fkind Fafter A1 A2 A3 A1 A2 A3 Cs Cn) (wd65 hw) (wd66 hw) (S23.nf (wd68 hw)) (wd68 hw) (wd67 hw) (wd51 hw) (wd69 hw) (by decide) X7 at_233 rfl pd12 (argsL := [(.ref a7)]) rfl rfl rfl (by decide) (W := 0) rfl (by decide) (by decide) (by decide) all0 (pc' := 236) rfl ?_
            intro v31 T31 h31 L31 S31 K31 q31
            rw [if_pos ⟨rfl, rfl, rfl⟩] at q31
            obtain ⟨rfl, rfl⟩ := q31
            show Go _ _ _ _ T31 (mkF m 236 #[.val (.long ax), .second, .val (.long ay), .second, .val (.int mode), .val (.long src0), .second, .val (.long src1), .second, .val (.long src2), .second, .val (.ref s1), .val (.ref s2), .val (.ref s3), .val (.ref s4), .val (.ref s5), .val (.ref s6), .val (.ref a7), .val (.ref a9), .val (.int (1 : Int32)), .val (.int sel), .unset, .unset] [(.int (1 : Int32))])
            exact Go.zreturnW S31 N6 hn rfl (by decide) at_236 (z' := (1 : Int32)) rfl (by decide) (by decide) (rfl)
        · intro c166
          refine Go.aload S23 at_169 rfl rfl (pc' := 171) rfl ?_
          refine Go.aload S23 at_171 rfl rfl (pc' := 173) rfl ?_
          refine Go.invokevirtual S23 (y := ⟨"com/example/opas/opas/Template", "equals", "(Ljava/lang/Object;)Z"⟩) (rm_teq hw a7 a9 s1 s2 s3 s4 s5 s6 b1 b2 b3 b4 b5 b6 k1 k2 k3 k4 k5 k6 (own_mk ax 0) (own_mk ax 1) (own_mk ax 2) (own_mk src0 0) (own_mk src1 1) (own_mk src2 2) cs S23.ext X9 Fbefore Fkind Fafter Gbefore Gkind Gafter A1 A2 A3 A4 A5 A6 Cs Cn) (wd65 hw) (wd66 hw) (S23.nf (wd68 hw)) (wd68 hw) (wd67 hw) (wd51 hw) (wd69 hw) (by decide) X7 at_173 rfl pd12 (argsL := [(.ref a9)]) rfl rfl rfl (by decide) (W := 0) rfl (by decide) (by decide) (by decide) all0 (pc' := 176) rfl ?_
          intro v32 T32 h32 L32 S32 K32 q32
          rw [if_pos ⟨(own_i1 c124), (own_i1 c134), (own_i1 c144)⟩] at q32
          obtain ⟨rfl, rfl⟩ := q32
          show Go _ _ _ _ T32 (mkF m 176 #[.val (.long ax), .second, .val (.long ay), .second, .val (.int mode), .val (.long src0), .second, .val (.long src1), .second, .val (.long src2), .second, .val (.ref s1), .val (.ref s2), .val (.ref s3), .val (.ref s4), .val (.ref s5), .val (.ref s6), .val (.ref a7), .val (.ref a9), .val (.int (1 : Int32)), .val (.int sel), .unset, .unset] [(.int (1 : Int32))])
          refine Go.iload S32 at_176 rfl (pc' := 178) rfl ?_
          refine Go.icmp_ne S32 at_178 (pt := 185) (by decide) (pc' := 181) rfl ?_ ?_
          · intro c178; exact absurd (by decide) c178
          · intro c178
            refine Go.iconst S32 (v := 1) at_181 rfl (pc' := 182) rfl ?_
            refine Go.goto S32 at_182 (pc' := 186) (by decide) ?_
            refine Go.istore S32 at_186 (Ls' := #[.val (.long ax), .second, .val (.long ay), .second, .val (.int mode), .val (.long src0), .second, .val (.long src1), .second, .val (.long src2), .second, .val (.ref s1), .val (.ref s2), .val (.ref s3), .val (.ref s4), .val (.ref s5), .val (.ref s6), .val (.ref a7), .val (.ref a9), .val (.int (1 : Int32)), .val (.int sel), .val (.int (1 : Int32)), .unset]) rfl (pc' := 188) rfl ?_
            refine Go.aload S32 at_188 rfl rfl (pc' := 190) rfl ?_
            refine Go.aload S32 at_190 rfl rfl (pc' := 192) rfl ?_
            refine Go.invokevirtual S32 (y := ⟨"com/example/opas/opas/Template", "equals", "(Ljava/lang/Object;)Z"⟩) (rm_teq hw a9 a7 s4 s5 s6 s1 s2 s3 b4 b5 b6 b1 b2 b3 k4 k5 k6 k1 k2 k3 (own_mk src0 0) (own_mk src1 1) (own_mk src2 2) (own_mk ax 0) (own_mk ax 1) (own_mk ax 2) cs S32.ext X7 Gbefore Gkind Gafter Fbefore Fkind Fafter A4 A5 A6 A1 A2 A3 Cs Cn) (wd65 hw) (wd66 hw) (S32.nf (wd68 hw)) (wd68 hw) (wd67 hw) (wd51 hw) (wd69 hw) (by decide) X9 at_192 rfl pd12 (argsL := [(.ref a7)]) rfl rfl rfl (by decide) (W := 0) rfl (by decide) (by decide) (by decide) all0 (pc' := 195) rfl ?_
            intro v33 T33 h33 L33 S33 K33 q33
            rw [if_pos ⟨(own_i1 c124).symm, (own_i1 c134).symm, (own_i1 c144).symm⟩] at q33
            obtain ⟨rfl, rfl⟩ := q33
            show Go _ _ _ _ T33 (mkF m 195 #[.val (.long ax), .second, .val (.long ay), .second, .val (.int mode), .val (.long src0), .second, .val (.long src1), .second, .val (.long src2), .second, .val (.ref s1), .val (.ref s2), .val (.ref s3), .val (.ref s4), .val (.ref s5), .val (.ref s6), .val (.ref a7), .val (.ref a9), .val (.int (1 : Int32)), .val (.int sel), .val (.int (1 : Int32)), .unset] [(.int (1 : Int32))])
            refine Go.iload S33 at_195 rfl (pc' := 197) rfl ?_
            refine Go.icmp_ne S33 at_197 (pt := 204) (by decide) (pc' := 200) rfl ?_ ?_
            · intro c197; exact absurd (by decide) c197
            · intro c197
              refine Go.iconst S33 (v := 1) at_200 rfl (pc' := 201) rfl ?_
              refine Go.goto S33 at_201 (pc' := 205) (by decide) ?_
              refine Go.istore S33 at_205 (Ls' := #[.val (.long ax), .second, .val (.long ay), .second, .val (.int mode), .val (.long src0), .second, .val (.long src1), .second, .val (.long src2), .second, .val (.ref s1), .val (.ref s2), .val (.ref s3), .val (.ref s4), .val (.ref s5), .val (.ref s6), .val (.ref a7), .val (.ref a9), .val (.int (1 : Int32)), .val (.int sel), .val (.int (1 : Int32)), .val (.int (1 : Int32))]) rfl (pc' := 207) rfl ?_
              refine Go.iload S33 at_207 rfl (pc' := 209) rfl ?_
              refine Go.if_eq S33 at_209 (pt := 221) (by decide) (pc' := 212) rfl ?_ ?_
              · intro c209; exact absurd c209 (by decide)
              · intro c209
                refine Go.iload S33 at_212 rfl (pc' := 214) rfl ?_
                refine Go.if_eq S33 at_214 (pt := 221) (by decide) (pc' := 217) rfl ?_ ?_
                · intro c214; exact absurd c214 (by decide)
                · intro c214
                  refine Go.iconst S33 (v := 1) at_217 rfl (pc' := 218) rfl ?_
                  refine Go.goto S33 at_218 (pc' := 222) (by decide) ?_
                  exact Go.zreturnW S33 N6 hn rfl (by decide) at_222 (z' := (1 : Int32)) rfl (by decide) (by decide) (rfl)
set_option maxRecDepth 65536 in
set_option maxHeartbeats 4000000 in
theorem rm_code {l : Launch} {Z : State} {a0 : Array Value} (hw : HW Z a0) (ax : Int64) (ay : Int64) (mode : Int32) (cs : Int32) {h0 : Heap} (hE : Ext Z.heap h0) (Cs : Sta Z Z.heap "java/lang/String" "COMPACT_STRINGS" "Z" (.int cs)) (Cn : ¬ cs = 0) (hh : Jvm.Lit.constHeld Z "java/lang/String" 7) (hcw : Jvm.Lit.compactW.before a0 Z = true) :
    OMeetsW l Z x code maxLocals ret room_1 #[(.long ax), (.long ay), (.int mode)] h0 [] (fun vm => Elit Z vm h0) (fun v h vm => v = some (.int 1)) := by
  refine OMeetsW.body (plainFor_of_name pn3) hE #[.val (.long ax), .second, .val (.long ay), .second, .val (.int mode), .unset, .unset, .unset, .unset, .unset, .unset, .unset, .unset, .unset, .unset, .unset, .unset, .unset, .unset, .unset, .unset, .unset, .unset] (fun m => by first | (simp [entryFrame, mkF, argsToLocals, Value.category, maxLocals]; done) | rfl) ?_
  intro p e s m below meth co T S hvp hsh
  have N := Sn.start s h0.size
  have hn : h0.size ≤ h0.size := Nat.le_refl _
  refine Go.iload S at_0 rfl (pc' := 2) rfl ?_
  refine Go.iconst S (v := 1) at_2 rfl (pc' := 3) rfl ?_
  refine Go.iand S at_3 (pc' := 4) rfl ?_
  refine Go.if_eq S at_4 (pt := 11) (by decide) (pc' := 7) rfl ?_ ?_
  · intro c4
    refine Go.lloadN S at_11 rfl (pc' := 12) rfl ?_
    refine Go.lstore S at_12 (Ls' := #[.val (.long ax), .second, .val (.long ay), .second, .val (.int mode), .val (.long ay), .second, .unset, .unset, .unset, .unset, .unset, .unset, .unset, .unset, .unset, .unset, .unset, .unset, .unset, .unset, .unset, .unset]) rfl (pc' := 14) rfl ?_
    refine Go.iload S at_14 rfl (pc' := 16) rfl ?_
    refine Go.iconst S (v := 2) at_16 rfl (pc' := 17) rfl ?_
    refine Go.iand S at_17 (pc' := 18) rfl ?_
    refine Go.if_eq S at_18 (pt := 25) (by decide) (pc' := 21) rfl ?_ ?_
    · intro c18
      refine Go.lloadN S at_25 rfl (pc' := 26) rfl ?_
      refine Go.lstore S at_26 (Ls' := #[.val (.long ax), .second, .val (.long ay), .second, .val (.int mode), .val (.long ay), .second, .val (.long ay), .second, .unset, .unset, .unset, .unset, .unset, .unset, .unset, .unset, .unset, .unset, .unset, .unset, .unset, .unset]) rfl (pc' := 28) rfl ?_
      refine Go.iload S at_28 rfl (pc' := 30) rfl ?_
      refine Go.iconst S (v := 4) at_30 rfl (pc' := 31) rfl ?_
      refine Go.iand S at_31 (pc' := 32) rfl ?_
      refine Go.if_eq S at_32 (pt := 39) (by decide) (pc' := 35) rfl ?_ ?_
      · intro c32
        refine Go.lloadN S at_39 rfl (pc' := 40) rfl ?_
        refine Go.lstore S at_40 (Ls' := #[.val (.long ax), .second, .val (.long ay), .second, .val (.int mode), .val (.long ay), .second, .val (.long ay), .second, .val (.long ay), .second, .unset, .unset, .unset, .unset, .unset, .unset, .unset, .unset, .unset, .unset, .unset, .unset]) rfl (pc' := 42) rfl ?_
        exact j0_42 hw ax ay ay ay ay mode cs S N hn hvp Cs Cn hh hcw
      · intro c32
        refine Go.lloadN S at_35 rfl (pc' := 36) rfl ?_
        refine Go.goto S at_36 (pc' := 40) (by decide) ?_
        refine Go.lstore S at_40 (Ls' := #[.val (.long ax), .second, .val (.long ay), .second, .val (.int mode), .val (.long ay), .second, .val (.long ay), .second, .val (.long ax), .second, .unset, .unset, .unset, .unset, .unset, .unset, .unset, .unset, .unset, .unset, .unset, .unset]) rfl (pc' := 42) rfl ?_
        exact j0_42 hw ax ay ay ay ax mode cs S N hn hvp Cs Cn hh hcw
    · intro c18
      refine Go.lloadN S at_21 rfl (pc' := 22) rfl ?_
      refine Go.goto S at_22 (pc' := 26) (by decide) ?_
      refine Go.lstore S at_26 (Ls' := #[.val (.long ax), .second, .val (.long ay), .second, .val (.int mode), .val (.long ay), .second, .val (.long ax), .second, .unset, .unset, .unset, .unset, .unset, .unset, .unset, .unset, .unset, .unset, .unset, .unset, .unset, .unset]) rfl (pc' := 28) rfl ?_
      refine Go.iload S at_28 rfl (pc' := 30) rfl ?_
      refine Go.iconst S (v := 4) at_30 rfl (pc' := 31) rfl ?_
      refine Go.iand S at_31 (pc' := 32) rfl ?_
      refine Go.if_eq S at_32 (pt := 39) (by decide) (pc' := 35) rfl ?_ ?_
      · intro c32
        refine Go.lloadN S at_39 rfl (pc' := 40) rfl ?_
        refine Go.lstore S at_40 (Ls' := #[.val (.long ax), .second, .val (.long ay), .second, .val (.int mode), .val (.long ay), .second, .val (.long ax), .second, .val (.long ay), .second, .unset, .unset, .unset, .unset, .unset, .unset, .unset, .unset, .unset, .unset, .unset, .unset]) rfl (pc' := 42) rfl ?_
        exact j0_42 hw ax ay ay ax ay mode cs S N hn hvp Cs Cn hh hcw
      · intro c32
        refine Go.lloadN S at_35 rfl (pc' := 36) rfl ?_
        refine Go.goto S at_36 (pc' := 40) (by decide) ?_
        refine Go.lstore S at_40 (Ls' := #[.val (.long ax), .second, .val (.long ay), .second, .val (.int mode), .val (.long ay), .second, .val (.long ax), .second, .val (.long ax), .second, .unset, .unset, .unset, .unset, .unset, .unset, .unset, .unset, .unset, .unset, .unset, .unset]) rfl (pc' := 42) rfl ?_
        exact j0_42 hw ax ay ay ax ax mode cs S N hn hvp Cs Cn hh hcw
  · intro c4
    refine Go.lloadN S at_7 rfl (pc' := 8) rfl ?_
    refine Go.goto S at_8 (pc' := 12) (by decide) ?_
    refine Go.lstore S at_12 (Ls' := #[.val (.long ax), .second, .val (.long ay), .second, .val (.int mode), .val (.long ax), .second, .unset, .unset, .unset, .unset, .unset, .unset, .unset, .unset, .unset, .unset, .unset, .unset, .unset, .unset, .unset, .unset]) rfl (pc' := 14) rfl ?_
    refine Go.iload S at_14 rfl (pc' := 16) rfl ?_
    refine Go.iconst S (v := 2) at_16 rfl (pc' := 17) rfl ?_
    refine Go.iand S at_17 (pc' := 18) rfl ?_
    refine Go.if_eq S at_18 (pt := 25) (by decide) (pc' := 21) rfl ?_ ?_
    · intro c18
      refine Go.lloadN S at_25 rfl (pc' := 26) rfl ?_
      refine Go.lstore S at_26 (Ls' := #[.val (.long ax), .second, .val (.long ay), .second, .val (.int mode), .val (.long ax), .second, .val (.long ay), .second, .unset, .unset, .unset, .unset, .unset, .unset, .unset, .unset, .unset, .unset, .unset, .unset, .unset, .unset]) rfl (pc' := 28) rfl ?_
      refine Go.iload S at_28 rfl (pc' := 30) rfl ?_
      refine Go.iconst S (v := 4) at_30 rfl (pc' := 31) rfl ?_
      refine Go.iand S at_31 (pc' := 32) rfl ?_
      refine Go.if_eq S at_32 (pt := 39) (by decide) (pc' := 35) rfl ?_ ?_
      · intro c32
        refine Go.lloadN S at_39 rfl (pc' := 40) rfl ?_
        refine Go.lstore S at_40 (Ls' := #[.val (.long ax), .second, .val (.long ay), .second, .val (.int mode), .val (.long ax), .second, .val (.long ay), .second, .val (.long ay), .second, .unset, .unset, .unset, .unset, .unset, .unset, .unset, .unset, .unset, .unset, .unset, .unset]) rfl (pc' := 42) rfl ?_
        exact j0_42 hw ax ay ax ay ay mode cs S N hn hvp Cs Cn hh hcw
      · intro c32
        refine Go.lloadN S at_35 rfl (pc' := 36) rfl ?_
        refine Go.goto S at_36 (pc' := 40) (by decide) ?_
        refine Go.lstore S at_40 (Ls' := #[.val (.long ax), .second, .val (.long ay), .second, .val (.int mode), .val (.long ax), .second, .val (.long ay), .second, .val (.long ax), .second, .unset, .unset, .unset, .unset, .unset, .unset, .unset, .unset, .unset, .unset, .unset, .unset]) rfl (pc' := 42) rfl ?_
        exact j0_42 hw ax ay ax ay ax mode cs S N hn hvp Cs Cn hh hcw
    · intro c18
      refine Go.lloadN S at_21 rfl (pc' := 22) rfl ?_
      refine Go.goto S at_22 (pc' := 26) (by decide) ?_
      refine Go.lstore S at_26 (Ls' := #[.val (.long ax), .second, .val (.long ay), .second, .val (.int mode), .val (.long ax), .second, .val (.long ax), .second, .unset, .unset, .unset, .unset, .unset, .unset, .unset, .unset, .unset, .unset, .unset, .unset, .unset, .unset]) rfl (pc' := 28) rfl ?_
      refine Go.iload S at_28 rfl (pc' := 30) rfl ?_
      refine Go.iconst S (v := 4) at_30 rfl (pc' := 31) rfl ?_
      refine Go.iand S at_31 (pc' := 32) rfl ?_
      refine Go.if_eq S at_32 (pt := 39) (by decide) (pc' := 35) rfl ?_ ?_
      · intro c32
        refine Go.lloadN S at_39 rfl (pc' := 40) rfl ?_
        refine Go.lstore S at_40 (Ls' := #[.val (.long ax), .second, .val (.long ay), .second, .val (.int mode), .val (.long ax), .second, .val (.long ax), .second, .val (.long ay), .second, .unset, .unset, .unset, .unset, .unset, .unset, .unset, .unset, .unset, .unset, .unset, .unset]) rfl (pc' := 42) rfl ?_
        exact j0_42 hw ax ay ax ax ay mode cs S N hn hvp Cs Cn hh hcw
      · intro c32
        refine Go.lloadN S at_35 rfl (pc' := 36) rfl ?_
        refine Go.goto S at_36 (pc' := 40) (by decide) ?_
        refine Go.lstore S at_40 (Ls' := #[.val (.long ax), .second, .val (.long ay), .second, .val (.int mode), .val (.long ax), .second, .val (.long ax), .second, .val (.long ax), .second, .unset, .unset, .unset, .unset, .unset, .unset, .unset, .unset, .unset, .unset, .unset, .unset]) rfl (pc' := 42) rfl ?_
        exact j0_42 hw ax ay ax ax ax mode cs S N hn hvp Cs Cn hh hcw
set_option maxRecDepth 65536 in
set_option maxHeartbeats 4000000 in
theorem comes_1 {Post : Tables → Env → Array Value → State → Outcome → State → Prop} (hpost : ∀ tb e args s v u, (limb_1_1.after args s (.returned v) u = true ∧ limb_1_2.after args s (.returned v) u = true ∧ True) → Jvm.Pilot.@@N@@.Jvm.D.FramedW s (.returned v) u (Jvm.fieldLocs frame_1_writes args s ++ Jvm.arrayLocs frame_1_arrays args s ++ Jvm.staticLocs frame_1_statics s) 56 1216 → Post tb e args s (.returned v) u) :
    ArmFor flags0 classFile x code maxLocals ret World_1 tables_1 room_1 Calls_1 rest_1 Pre_1 Post := by
  intro l hfl _ _ p e ha hc hk s m args below hf hA hF happ hP
  obtain ⟨hcalls, hrest, hpre⟩ := hP
  obtain ⟨-, -, -, hnamed, -, -, -, hat⟩ := (Spec.applies_iff hf).mp happ
  obtain ⟨hg, hn⟩ := and_e (Cond.before_iff.mp (show (Jvm.Cond.and given_1 narrow_1).before args s = true from hpre))
  obtain ⟨g1a, g1b⟩ := and_e hg
  obtain ⟨g2a, g2b⟩ := and_e g1b
  obtain ⟨g3a, g3b⟩ := and_e g2b
  obtain ⟨w0, w1, w2, rfl⟩ : ∃ w0 w1 w2 : Value, args = #[w0, w1, w2] := by
    have hs : args.size = 3 := by simpa [Cond.value, given_1] using g1a
    obtain ⟨L⟩ := args
    match L, hs with
    | [w0, w1, w2], _ => exact ⟨w0, w1, w2, rfl⟩
  have hw : HW s _ := fun d (hd : d ∈ tables_1) => atoms_spec (ws := Jvm.Cond.code x code maxLocals ret :: tables_1) hat d (List.mem_cons_of_mem _ hd)
  have hfit : Fit s := fun {y c} hc i hi => by
    obtain ⟨ha, rfl⟩ := Array.getElem?_eq_some_iff.mp hc
    have q := List.all_eq_true.mp ((Array.all_eq_true_iff_forall_mem.mp hF) _ (Array.getElem_mem ha)) i (List.mem_range.mpr hi)
    simpa [Array.getElem?_eq_getElem hi] using q
  obtain ⟨i0, ei0⟩ := isL_v g2a
  obtain rfl : w0 = (.long i0) := Option.some.inj ei0
  obtain ⟨i1, ei1⟩ := isL_v g3a
  obtain rfl : w1 = (.long i1) := Option.some.inj ei1
  obtain ⟨i2, ei2⟩ := is_v g3b
  obtain rfl : w2 = (.int i2) := Option.some.inj ei2
  obtain ⟨hsets, -⟩ := atoms_of _ (rest_1_c_eq ▸ (show rest_1_c.before _ s = true from hrest))
  obtain ⟨cs, evc⟩ := is_v (Cond.before_iff.mp (hsets _ (List.mem_of_getElem? (i := 1) rfl)))
  have Cs : Sta s s.heap "java/lang/String" "COMPACT_STRINGS" "Z" (.int cs) := Sta.start evc (Or.inl (hsets _ (List.mem_of_getElem? (i := 0) rfl)))
  have Cn : ¬ cs = 0 := fun q => by
    have z := not_v (Cond.before_iff.mp (hsets _ (List.mem_of_getElem? (i := 2) rfl)))
    have y := eq_i evc (Term.int_eval (0 : Int32)) (congrArg Value.int q)
    exact absurd (y.symm.trans z) (by decide)
  have hcw : Jvm.Lit.compactW.before _ s = true := hsets _ (List.mem_of_getElem? (i := 2) rfl)
  have hh : Jvm.Lit.constHeld s "java/lang/String" 7 := hcalls.1 ("java/lang/String", 7) (by simp [consts_1])
  obtain ⟨n, o, h1, h2, h3, _, L, rfl, ⟨N, -, -, rfl⟩, hq⟩ := rm_code (l := l) hw i0 i1 i2 cs (h0 := s.heap) ⟨Nat.le_refl _, fun _ _ q => q⟩ Cs Cn hh hcw tables_1 p e ha hc hk s m _ below hf ((Spec.applies_iff_loose hf).mp happ).1 ⟨rfl, State.Warmed39.refl s, rfl, Or.inl IB.start⟩ trivial
  refine ⟨n, _, h1, h2, h3, hpost _ _ _ _ _ _ ⟨Cond.after_iff.mpr rfl, Cond.after_iff.mpr (eq_i res_at (Term.int_eval (1)) rfl), trivial⟩ ⟨hq.1, hq.2.1, hq.2.2.1, (hq.2.2.2.sift fun y hy => Or.inr (N y hy)).mono (by decide) (by decide)⟩⟩
theorem main_1_1 : Claimed_1_1 := comes_1 fun _ _ _ _ _ _ h hF => ⟨h.1, hF⟩
theorem main_1_2 : Claimed_1_2 := comes_1 fun _ _ _ _ _ _ h hF => ⟨h.2.1, hF⟩
end Jvm.Pilot.@@N@@
namespace Jvm.Pilot.@@N@@
open Jvm Jvm.ClassFile Sem Op Lib Jvm.Free Jvm.Stand Jvm.Pilot.@@N@@.Jvm.D
/-! MADE BY PROGRAM (witnessworld.py) out of the Statement's table words and the real class files: 20 classes; the members and pool entries that the words name. The judged class is class 1, her method 5. -/
namespace start1
open Jvm.ClassFile
def u (s : String) : CpInfo := .utf8 (stringToUtf16 s)
/-- a pool by its gaps: so many unusable entries, then the entry; so many at the end -/
def gap : Nat → List CpInfo → List CpInfo
  | 0, r => r
  | n + 1, r => .unusable :: gap n r
def poolList (es : List (Nat × CpInfo)) (last : Nat) : List CpInfo := es.foldr (fun e r => gap e.1 (e.2 :: r)) (gap last [])
def pool (es : List (Nat × CpInfo)) (last : Nat) : Array CpInfo := ⟨poolList es last⟩
def fileOf (pool : Array CpInfo) (this : Nat) (attrs : Array Attribute := #[]) (ms : Array MethodInfo := #[]) (fl : Nat := 33) (sup : Nat := 0) (ifs : Array Nat := #[]) (fds : Array FieldInfo := #[]) : ClassFile where
  minorVersion := 0
  majorVersion := 65
  constantPool := pool
  accessFlags := fl
  thisClass := this
  superClass := sup
  interfaces := ifs
  fields := fds
  methods := ms
  attributes := attrs
def plain (name : String) (sup : Option ClassId) : Class where
  name := name
  kind := .ordinary
  loader := none
  accessFlags := 33
  super := sup
  interfaces := #[]
  cf := none
  fields := #[]
  methods := #[]
  instanceTypes := #[]
  staticTypes := #[]
  resolved := #[]
  callSites := []
  init := .initialized
  statics := none
  mirror := none

def pool0 : Array CpInfo := pool [(5, u "<init>"), (0, u "()V"), (1, .class_ 10), (1, u "java/lang/Object")] 113

def k0c0 : Code := { maxStack := 0, maxLocals := 1, code := object_method_1_code, exceptionTable := #[], attributes := #[] }
def k0m0 : Method := { name := "<init>", desc := "()V", sig := { parameters := [], returnType := none }, accessFlags := 1, code := some k0c0 }
/-- java/lang/Object -/
def k0 : Class := { plain "java/lang/Object" none with
  accessFlags := 33
  interfaces := #[]
  cf := some (fileOf pool0 8 #[] #[{ accessFlags := 1, nameIndex := 5, descriptorIndex := 6, attributes := #[] }] 33 0 #[] #[])
  fields := #[]
  methods := #[k0m0]
  instanceTypes := #[]
  staticTypes := #[]
  resolved := Array.replicate 124 none
  statics := none }

def pool1 : Array CpInfo := pool [(2, .class_ 4), (1, u "java/lang/Object"), (0, u "<init>"), (0, u "()V"), (0, .long 3), (1, .long 255), (1, .methodref 12 13), (0, .class_ 14), (0, .nameAndType 15 16), (0, u "com/example/opas/opas/TemplateEqualsPinLaw"), (0, u "len"), (0, u "(JI)I"), (0, .methodref 12 18), (0, .nameAndType 19 20), (0, u "ch"), (0, u "(JII)C"), (0, .class_ 22), (0, u "java/lang/String"), (0, .methodref 21 24), (0, .nameAndType 5 25), (0, u "([C)V"), (0, .methodref 21 27), (0, .nameAndType 28 29), (0, u "valueOf"), (0, u "(C)Ljava/lang/String;"), (0, .methodref 12 31), (0, .nameAndType 32 33), (0, u "mk"), (0, u "(JI)Ljava/lang/String;"), (0, .class_ 35), (0, u "com/example/opas/opas/Template"), (0, .methodref 34 37), (0, .nameAndType 5 38), (0, u "(Ljava/lang/String;Ljava/lang/String;Ljava/lang/String;)V"), (0, .methodref 12 40), (0, .nameAndType 41 42), (0, u "same"), (0, u "(JJI)Z"), (0, .methodref 34 44), (0, .nameAndType 45 46), (0, u "equals"), (0, u "(Ljava/lang/Object;)Z"), (3, u "law")] 2

def k1m0 : Method := { name := "<init>", desc := "()V", sig := { parameters := [], returnType := none }, accessFlags := 1, code := none }
def k1c1 : Code := { maxStack := 4, maxLocals := 3, code := method_2_code, exceptionTable := #[], attributes := #[] }
def k1m1 : Method := { name := "len", desc := "(JI)I", sig := { parameters := [.long, .int], returnType := some .int }, accessFlags := 10, code := some k1c1 }
def k1c2 : Code := { maxStack := 5, maxLocals := 4, code := method_3_code, exceptionTable := #[], attributes := #[] }
def k1m2 : Method := { name := "ch", desc := "(JII)C", sig := { parameters := [.long, .int, .int], returnType := some .char }, accessFlags := 10, code := some k1c2 }
def k1c3 : Code := { maxStack := 6, maxLocals := 6, code := method_4_code, exceptionTable := #[], attributes := #[] }
def k1m3 : Method := { name := "mk", desc := "(JI)Ljava/lang/String;", sig := { parameters := [.long, .int], returnType := some (.object "java/lang/String") }, accessFlags := 10, code := some k1c3 }
def k1c4 : Code := { maxStack := 5, maxLocals := 7, code := method_5_code, exceptionTable := #[], attributes := #[] }
def k1m4 : Method := { name := "same", desc := "(JJI)Z", sig := { parameters := [.long, .long, .int], returnType := some .boolean }, accessFlags := 10, code := some k1c4 }
def k1c5 : Code := { maxStack := 5, maxLocals := 23, code := code, exceptionTable := #[], attributes := #[] }
def k1m5 : Method := { name := "law", desc := "(JJI)Z", sig := { parameters := [.long, .long, .int], returnType := some .boolean }, accessFlags := 9, code := some k1c5 }
/-- com/example/opas/opas/TemplateEqualsPinLaw -/
def k1 : Class := { plain "com/example/opas/opas/TemplateEqualsPinLaw" (some 0) with
  accessFlags := 49
  interfaces := #[]
  cf := some (fileOf pool1 12 #[] #[{ accessFlags := 1, nameIndex := 5, descriptorIndex := 6, attributes := #[] }, { accessFlags := 10, nameIndex := 15, descriptorIndex := 16, attributes := #[] }, { accessFlags := 10, nameIndex := 19, descriptorIndex := 20, attributes := #[] }, { accessFlags := 10, nameIndex := 32, descriptorIndex := 33, attributes := #[] }, { accessFlags := 10, nameIndex := 41, descriptorIndex := 42, attributes := #[] }, { accessFlags := 9, nameIndex := 50, descriptorIndex := 42, attributes := #[] }] 49 2 #[] #[])
  fields := #[]
  methods := #[k1m0, k1m1, k1m2, k1m3, k1m4, k1m5]
  instanceTypes := #[]
  staticTypes := #[]
  resolved := Array.replicate 53 none
  statics := none }

def pool2 : Array CpInfo := pool [(1, .class_ 2), (0, u "java/io/Serializable"), (0, .class_ 4), (0, u "java/lang/Object")] 2

/-- java/io/Serializable -/
def k2 : Class := { plain "java/io/Serializable" (some 0) with
  accessFlags := 1537
  interfaces := #[]
  cf := some (fileOf pool2 1 #[] #[] 1537 3 #[] #[])
  fields := #[]
  methods := #[]
  instanceTypes := #[]
  staticTypes := #[]
  resolved := Array.replicate 7 none
  statics := none }

def pool3 : Array CpInfo := pool [(1, .class_ 2), (0, u "java/lang/Comparable"), (0, .class_ 4), (0, u "java/lang/Object")] 7

/-- java/lang/Comparable -/
def k3 : Class := { plain "java/lang/Comparable" (some 0) with
  accessFlags := 1537
  interfaces := #[]
  cf := some (fileOf pool3 1 #[] #[] 1537 3 #[] #[])
  fields := #[]
  methods := #[]
  instanceTypes := #[]
  staticTypes := #[]
  resolved := Array.replicate 12 none
  statics := none }

def pool4 : Array CpInfo := pool [(2, .class_ 4), (1, u "java/lang/CharSequence"), (42, .class_ 48), (0, u "java/lang/CharSequence$1CodePointIterator"), (10, .class_ 60), (0, u "java/lang/CharSequence$1CharIterator"), (5, .class_ 67), (0, u "java/lang/Object")] 63

/-- java/lang/CharSequence -/
def k4 : Class := { plain "java/lang/CharSequence" (some 0) with
  accessFlags := 1537
  interfaces := #[]
  cf := some (fileOf pool4 2 #[.nestMembers #[47, 59]] #[] 1537 66 #[] #[])
  fields := #[]
  methods := #[]
  instanceTypes := #[]
  staticTypes := #[]
  resolved := Array.replicate 131 none
  statics := none }

def pool5 : Array CpInfo := pool [(1, .class_ 2), (0, u "java/lang/constant/Constable"), (0, .class_ 4), (0, u "java/lang/Object")] 6

/-- java/lang/constant/Constable -/
def k5 : Class := { plain "java/lang/constant/Constable" (some 0) with
  accessFlags := 1537
  interfaces := #[]
  cf := some (fileOf pool5 1 #[] #[] 1537 3 #[] #[])
  fields := #[]
  methods := #[]
  instanceTypes := #[]
  staticTypes := #[]
  resolved := Array.replicate 11 none
  statics := none }

def pool6 : Array CpInfo := pool [(1, .class_ 2), (0, u "java/lang/constant/ConstantDesc"), (0, .class_ 4), (0, u "java/lang/Object")] 32

/-- java/lang/constant/ConstantDesc -/
def k6 : Class := { plain "java/lang/constant/ConstantDesc" (some 0) with
  accessFlags := 1537
  interfaces := #[]
  cf := some (fileOf pool6 1 #[] #[] 1537 3 #[] #[])
  fields := #[]
  methods := #[]
  instanceTypes := #[]
  staticTypes := #[]
  resolved := Array.replicate 37 none
  statics := none }

def pool7 : Array CpInfo := pool [(1, .methodref 2 3), (0, .class_ 4), (0, .nameAndType 5 6), (0, u "java/lang/Object"), (0, u "<init>"), (0, u "()V"), (0, .string 8), (0, u ""), (0, .fieldref 10 11), (0, .class_ 12), (0, .nameAndType 13 14), (0, u "java/lang/String"), (0, u "value"), (0, u "[B"), (0, .fieldref 10 16), (0, .nameAndType 17 18), (0, u "coder"), (0, u "B"), (2, u "hash"), (0, u "I"), (2, u "hashIsZero"), (0, u "Z"), (0, .methodref 10 28), (0, .nameAndType 5 29), (0, u "([CIILjava/lang/Void;)V"), (8, .fieldref 10 39), (0, .nameAndType 40 26), (0, u "COMPACT_STRINGS"), (1, .class_ 44), (1, u "java/lang/StringUTF16"), (0, u "compress"), (1, .methodref 42 48), (0, .nameAndType 49 50), (0, u "coderFromArrayLen"), (0, u "([BI)B"), (2, u "toBytes"), (53, .class_ 109), (1, u "java/lang/StringLatin1"), (67, .methodref 42 178), (0, .nameAndType 45 179), (0, u "([CII)[B"), (29, .methodref 10 210), (0, .nameAndType 5 211), (0, u "([BB)V"), (157, u "(C)Z"), (171, .methodref 107 542), (0, .nameAndType 543 544), (0, u "equals"), (0, u "([B[B)Z"), (28, u "(Ljava/lang/Object;)Z"), (1, .class_ 576), (0, u "java/lang/CharSequence"), (22, u "CASE_INSENSITIVE_ORDER"), (0, u "Ljava/util/Comparator;"), (181, u "valueOf"), (0, u "(C)Ljava/lang/String;"), (226, u "([C)V"), (4, .methodref 107 1016), (0, .nameAndType 1017 369), (0, u "canEncode"), (0, .methodref 107 1019), (0, .nameAndType 53 1020), (0, u "(C)[B"), (80, u "serialPersistentFields"), (0, u "[Ljava/io/ObjectStreamField;"), (0, .class_ 1104), (0, u "java/lang/String$CaseInsensitiveComparator"), (1, .class_ 1107), (0, u "java/io/Serializable"), (0, .class_ 1109), (0, u "java/lang/Comparable"), (0, .class_ 1111), (0, u "java/lang/constant/Constable"), (0, .class_ 1113), (0, u "java/lang/constant/ConstantDesc"), (2, u "serialVersionUID"), (0, u "J"), (3, u "REPL"), (0, u "C"), (2, u "LATIN1"), (1, u "UTF16")] 323

def k7m0 : Method := { name := "<init>", desc := "()V", sig := { parameters := [], returnType := none }, accessFlags := 1, code := none }
def k7c1 : Code := { maxStack := 5, maxLocals := 2, code := jdk_42_method_3_code, exceptionTable := #[], attributes := #[] }
def k7m1 : Method := { name := "<init>", desc := "([C)V", sig := { parameters := [(.array .char)], returnType := none }, accessFlags := 1, code := some k7c1 }
def k7c2 : Code := { maxStack := 2, maxLocals := 3, code := jdk_42_method_66_code, exceptionTable := #[], attributes := #[] }
def k7m2 : Method := { name := "equals", desc := "(Ljava/lang/Object;)Z", sig := { parameters := [(.object "java/lang/Object")], returnType := some .boolean }, accessFlags := 1, code := some k7c2 }
def k7c3 : Code := { maxStack := 4, maxLocals := 1, code := jdk_42_method_139_code, exceptionTable := #[], attributes := #[] }
def k7m3 : Method := { name := "valueOf", desc := "(C)Ljava/lang/String;", sig := { parameters := [.char], returnType := some (.object "java/lang/String") }, accessFlags := 9, code := some k7c3 }
def k7c4 : Code := { maxStack := 4, maxLocals := 6, code := jdk_42_method_149_code, exceptionTable := #[], attributes := #[] }
def k7m4 : Method := { name := "<init>", desc := "([CIILjava/lang/Void;)V", sig := { parameters := [(.array .char), .int, .int, (.object "java/lang/Void")], returnType := none }, accessFlags := 2, code := some k7c4 }
def k7c5 : Code := { maxStack := 2, maxLocals := 3, code := jdk_42_method_151_code, exceptionTable := #[], attributes := #[] }
def k7m5 : Method := { name := "<init>", desc := "([BB)V", sig := { parameters := [(.array .byte), .byte], returnType := none }, accessFlags := 0, code := some k7c5 }
/-- java/lang/String -/
def k7 : Class := { plain "java/lang/String" (some 0) with
  accessFlags := 49
  interfaces := #[2, 3, 4, 5, 6]
  cf := some (fileOf pool7 10 #[.nestMembers #[1103]] #[{ accessFlags := 1, nameIndex := 5, descriptorIndex := 6, attributes := #[] }, { accessFlags := 1, nameIndex := 5, descriptorIndex := 1010, attributes := #[] }, { accessFlags := 1, nameIndex := 543, descriptorIndex := 573, attributes := #[] }, { accessFlags := 9, nameIndex := 782, descriptorIndex := 783, attributes := #[] }, { accessFlags := 2, nameIndex := 5, descriptorIndex := 29, attributes := #[] }, { accessFlags := 0, nameIndex := 5, descriptorIndex := 211, attributes := #[] }] 49 2 #[1106, 1108, 575, 1110, 1112] #[{ accessFlags := 18, nameIndex := 13, descriptorIndex := 14, attributes := #[] }, { accessFlags := 18, nameIndex := 17, descriptorIndex := 18, attributes := #[] }, { accessFlags := 2, nameIndex := 21, descriptorIndex := 22, attributes := #[] }, { accessFlags := 2, nameIndex := 25, descriptorIndex := 26, attributes := #[] }, { accessFlags := 26, nameIndex := 1116, descriptorIndex := 1117, attributes := #[] }, { accessFlags := 24, nameIndex := 40, descriptorIndex := 26, attributes := #[] }, { accessFlags := 26, nameIndex := 1101, descriptorIndex := 1102, attributes := #[] }, { accessFlags := 26, nameIndex := 1121, descriptorIndex := 1122, attributes := #[] }, { accessFlags := 25, nameIndex := 599, descriptorIndex := 600, attributes := #[] }, { accessFlags := 24, nameIndex := 1125, descriptorIndex := 18, attributes := #[] }, { accessFlags := 24, nameIndex := 1127, descriptorIndex := 18, attributes := #[] }])
  fields := #[{ name := "value", type := (.array .byte), accessFlags := 18, slot := 0, constantValue := 0 }, { name := "coder", type := .byte, accessFlags := 18, slot := 1, constantValue := 0 }, { name := "hash", type := .int, accessFlags := 2, slot := 2, constantValue := 0 }, { name := "hashIsZero", type := .boolean, accessFlags := 2, slot := 3, constantValue := 0 }, { name := "serialVersionUID", type := .long, accessFlags := 26, slot := 0, constantValue := 0 }, { name := "COMPACT_STRINGS", type := .boolean, accessFlags := 24, slot := 1, constantValue := 0 }, { name := "serialPersistentFields", type := (.array (.object "java/io/ObjectStreamField")), accessFlags := 26, slot := 2, constantValue := 0 }, { name := "REPL", type := .char, accessFlags := 26, slot := 3, constantValue := 0 }, { name := "CASE_INSENSITIVE_ORDER", type := (.object "java/util/Comparator"), accessFlags := 25, slot := 4, constantValue := 0 }, { name := "LATIN1", type := .byte, accessFlags := 24, slot := 5, constantValue := 0 }, { name := "UTF16", type := .byte, accessFlags := 24, slot := 6, constantValue := 0 }]
  methods := #[k7m0, k7m1, k7m2, k7m3, k7m4, k7m5]
  instanceTypes := #[(.array .byte), .byte, .int, .boolean]
  staticTypes := #[.long, .boolean, (.array (.object "java/io/ObjectStreamField")), .char, (.object "java/util/Comparator"), .byte, .byte]
  resolved := Array.replicate 1451 none
  statics := some 0 }

def pool8 : Array CpInfo := pool [(4, .class_ 6), (1, u "java/lang/Object"), (0, u "<init>"), (0, u "()V"), (5, .class_ 16), (1, u "java/lang/StringLatin1"), (73, u "canEncode"), (14, u "(C)Z"), (15, u "$assertionsDisabled"), (0, u "Z"), (98, .class_ 223), (1, u "java/lang/StringLatin1$LinesSpliterator"), (57, u "equals"), (0, u "([B[B)Z"), (97, u "toBytes"), (1, u "(C)[B"), (7, .class_ 391), (0, u "java/lang/StringLatin1$CharsSpliterator")] 3

def k8m0 : Method := { name := "<init>", desc := "()V", sig := { parameters := [], returnType := none }, accessFlags := 0, code := none }
def k8c1 : Code := { maxStack := 2, maxLocals := 1, code := jdk_43_method_3_code, exceptionTable := #[], attributes := #[] }
def k8m1 : Method := { name := "canEncode", desc := "(C)Z", sig := { parameters := [.char], returnType := some .boolean }, accessFlags := 9, code := some k8c1 }
def k8c2 : Code := { maxStack := 3, maxLocals := 3, code := jdk_43_method_13_code, exceptionTable := #[], attributes := #[] }
def k8m2 : Method := { name := "equals", desc := "([B[B)Z", sig := { parameters := [(.array .byte), (.array .byte)], returnType := some .boolean }, accessFlags := 9, code := some k8c2 }
def k8c3 : Code := { maxStack := 4, maxLocals := 1, code := jdk_43_method_46_code, exceptionTable := #[], attributes := #[] }
def k8m3 : Method := { name := "toBytes", desc := "(C)[B", sig := { parameters := [.char], returnType := some (.array .byte) }, accessFlags := 9, code := some k8c3 }
/-- java/lang/StringLatin1 -/
def k8 : Class := { plain "java/lang/StringLatin1" (some 0) with
  accessFlags := 48
  interfaces := #[]
  cf := some (fileOf pool8 14 #[.nestMembers #[390, 221]] #[{ accessFlags := 0, nameIndex := 7, descriptorIndex := 8, attributes := #[] }, { accessFlags := 9, nameIndex := 90, descriptorIndex := 105, attributes := #[] }, { accessFlags := 9, nameIndex := 281, descriptorIndex := 282, attributes := #[] }, { accessFlags := 9, nameIndex := 380, descriptorIndex := 382, attributes := #[] }] 48 4 #[] #[{ accessFlags := 4120, nameIndex := 121, descriptorIndex := 122, attributes := #[] }])
  fields := #[{ name := "$assertionsDisabled", type := .boolean, accessFlags := 4120, slot := 0, constantValue := 0 }]
  methods := #[k8m0, k8m1, k8m2, k8m3]
  instanceTypes := #[]
  staticTypes := #[.boolean]
  resolved := Array.replicate 395 none
  statics := none }

def pool9 : Array CpInfo := pool [(1, .methodref 2 3), (0, .class_ 4), (0, .nameAndType 5 6), (0, u "java/lang/Object"), (0, u "<init>"), (0, u "()V"), (0, .fieldref 8 9), (0, .class_ 10), (0, .nameAndType 11 12), (0, u "com/example/opas/opas/Template"), (0, u "before"), (0, u "Ljava/lang/String;"), (0, .fieldref 8 14), (0, .nameAndType 15 12), (0, u "kind"), (0, .fieldref 8 17), (0, .nameAndType 18 12), (0, u "after"), (0, .class_ 20), (0, u "java/lang/String"), (26, .methodref 19 48), (0, .nameAndType 49 50), (0, u "equals"), (0, u "(Ljava/lang/Object;)Z"), (38, u "ORDER"), (0, u "Ljava/util/Comparator;"), (2, u "(Ljava/lang/String;Ljava/lang/String;Ljava/lang/String;)V")] 61

def k9c0 : Code := { maxStack := 2, maxLocals := 4, code := prog_26_method_1_code, exceptionTable := #[], attributes := #[] }
def k9m0 : Method := { name := "<init>", desc := "(Ljava/lang/String;Ljava/lang/String;Ljava/lang/String;)V", sig := { parameters := [(.object "java/lang/String"), (.object "java/lang/String"), (.object "java/lang/String")], returnType := none }, accessFlags := 0, code := some k9c0 }
def k9c1 : Code := { maxStack := 2, maxLocals := 3, code := prog_26_method_6_code, exceptionTable := #[], attributes := #[] }
def k9m1 : Method := { name := "equals", desc := "(Ljava/lang/Object;)Z", sig := { parameters := [(.object "java/lang/Object")], returnType := some .boolean }, accessFlags := 1, code := some k9c1 }
/-- com/example/opas/opas/Template -/
def k9 : Class := { plain "com/example/opas/opas/Template" (some 0) with
  accessFlags := 48
  interfaces := #[]
  cf := some (fileOf pool9 8 #[] #[{ accessFlags := 0, nameIndex := 5, descriptorIndex := 93, attributes := #[] }, { accessFlags := 1, nameIndex := 49, descriptorIndex := 50, attributes := #[] }] 48 2 #[] #[{ accessFlags := 24, nameIndex := 89, descriptorIndex := 90, attributes := #[] }, { accessFlags := 18, nameIndex := 11, descriptorIndex := 12, attributes := #[] }, { accessFlags := 18, nameIndex := 15, descriptorIndex := 12, attributes := #[] }, { accessFlags := 18, nameIndex := 18, descriptorIndex := 12, attributes := #[] }])
  fields := #[{ name := "ORDER", type := (.object "java/util/Comparator"), accessFlags := 24, slot := 0, constantValue := 0 }, { name := "before", type := (.object "java/lang/String"), accessFlags := 18, slot := 0, constantValue := 0 }, { name := "kind", type := (.object "java/lang/String"), accessFlags := 18, slot := 1, constantValue := 0 }, { name := "after", type := (.object "java/lang/String"), accessFlags := 18, slot := 2, constantValue := 0 }]
  methods := #[k9m0, k9m1]
  instanceTypes := #[(.object "java/lang/String"), (.object "java/lang/String"), (.object "java/lang/String")]
  staticTypes := #[(.object "java/util/Comparator")]
  resolved := Array.replicate 155 none
  statics := none }

def pool10 : Array CpInfo := pool [(6, .class_ 8), (1, u "java/lang/Object"), (0, u "<init>"), (0, u "()V"), (1, .class_ 14), (1, u "java/lang/StringUTF16"), (31, u "$assertionsDisabled"), (0, u "Z"), (13, u "HI_BYTE_SHIFT"), (0, u "I"), (2, u "LO_BYTE_SHIFT"), (49, .methodref 12 116), (0, .nameAndType 117 118), (0, u "compress"), (0, u "([CI[BII)I"), (3, u "([CII)[B"), (138, u "coderFromArrayLen"), (0, u "([BI)B"), (106, .class_ 371), (1, u "java/lang/StringUTF16$LinesSpliterator"), (58, u "MAX_LENGTH"), (196, .class_ 628), (0, u "java/lang/StringUTF16$CodePointsSpliterator"), (0, .class_ 630), (0, u "java/lang/StringUTF16$CharsSpliterator")] 4

def k10m0 : Method := { name := "<init>", desc := "()V", sig := { parameters := [], returnType := none }, accessFlags := 0, code := none }
def k10c1 : Code := { maxStack := 2, maxLocals := 2, code := jdk_52_method_15_code, exceptionTable := #[], attributes := #[] }
def k10m1 : Method := { name := "coderFromArrayLen", desc := "([BI)B", sig := { parameters := [(.array .byte), .int], returnType := some .byte }, accessFlags := 8, code := some k10c1 }
def k10c2 : Code := { maxStack := 5, maxLocals := 6, code := jdk_52_method_16_code, exceptionTable := #[], attributes := #[] }
def k10m2 : Method := { name := "compress", desc := "([CII)[B", sig := { parameters := [(.array .char), .int, .int], returnType := some (.array .byte) }, accessFlags := 9, code := some k10c2 }
def k10c3 : Code := { maxStack := 3, maxLocals := 7, code := jdk_52_method_21_code, exceptionTable := #[], attributes := #[] }
def k10m3 : Method := { name := "compress", desc := "([CI[BII)I", sig := { parameters := [(.array .char), .int, (.array .byte), .int, .int], returnType := some .int }, accessFlags := 9, code := some k10c3 }
/-- java/lang/StringUTF16 -/
def k10 : Class := { plain "java/lang/StringUTF16" (some 0) with
  accessFlags := 48
  interfaces := #[]
  cf := some (fileOf pool10 12 #[.nestMembers #[627, 629, 369]] #[{ accessFlags := 0, nameIndex := 9, descriptorIndex := 10, attributes := #[] }, { accessFlags := 8, nameIndex := 261, descriptorIndex := 262, attributes := #[] }, { accessFlags := 9, nameIndex := 117, descriptorIndex := 122, attributes := #[] }, { accessFlags := 9, nameIndex := 117, descriptorIndex := 118, attributes := #[] }] 48 6 #[] #[{ accessFlags := 26, nameIndex := 61, descriptorIndex := 62, attributes := #[] }, { accessFlags := 26, nameIndex := 65, descriptorIndex := 62, attributes := #[] }, { accessFlags := 24, nameIndex := 430, descriptorIndex := 62, attributes := #[] }, { accessFlags := 4120, nameIndex := 46, descriptorIndex := 47, attributes := #[] }])
  fields := #[{ name := "HI_BYTE_SHIFT", type := .int, accessFlags := 26, slot := 0, constantValue := 0 }, { name := "LO_BYTE_SHIFT", type := .int, accessFlags := 26, slot := 1, constantValue := 0 }, { name := "MAX_LENGTH", type := .int, accessFlags := 24, slot := 2, constantValue := 0 }, { name := "$assertionsDisabled", type := .boolean, accessFlags := 4120, slot := 3, constantValue := 0 }]
  methods := #[k10m0, k10m1, k10m2, k10m3]
  instanceTypes := #[]
  staticTypes := #[.int, .int, .int, .boolean]
  resolved := Array.replicate 635 none
  statics := none }

def pool11 : Array CpInfo := pool [(2, .class_ 4), (1, u "java/lang/Object"), (0, u "<init>"), (0, u "()V"), (17, .class_ 26), (1, u "jdk/internal/util/Preconditions"), (28, .class_ 56), (0, u "jdk/internal/util/Preconditions$4"), (57, .class_ 115), (0, u "jdk/internal/util/Preconditions$1"), (7, u "SIOOBE_FORMATTER"), (0, u "Ljava/util/function/BiFunction;"), (0, .class_ 126), (0, u "jdk/internal/util/Preconditions$2"), (3, u "AIOOBE_FORMATTER"), (0, .class_ 132), (0, u "jdk/internal/util/Preconditions$3"), (3, u "IOOBE_FORMATTER")] 57

def k11m0 : Method := { name := "<init>", desc := "()V", sig := { parameters := [], returnType := none }, accessFlags := 1, code := none }
/-- jdk/internal/util/Preconditions -/
def k11 : Class := { plain "jdk/internal/util/Preconditions" (some 0) with
  accessFlags := 33
  interfaces := #[]
  cf := some (fileOf pool11 24 #[.nestMembers #[55, 131, 125, 114]] #[{ accessFlags := 1, nameIndex := 5, descriptorIndex := 6, attributes := #[] }] 33 2 #[] #[{ accessFlags := 25, nameIndex := 123, descriptorIndex := 124, attributes := #[] }, { accessFlags := 25, nameIndex := 130, descriptorIndex := 124, attributes := #[] }, { accessFlags := 25, nameIndex := 136, descriptorIndex := 124, attributes := #[] }])
  fields := #[{ name := "SIOOBE_FORMATTER", type := (.object "java/util/function/BiFunction"), accessFlags := 25, slot := 0, constantValue := 0 }, { name := "AIOOBE_FORMATTER", type := (.object "java/util/function/BiFunction"), accessFlags := 25, slot := 1, constantValue := 0 }, { name := "IOOBE_FORMATTER", type := (.object "java/util/function/BiFunction"), accessFlags := 25, slot := 2, constantValue := 0 }]
  methods := #[k11m0]
  instanceTypes := #[]
  staticTypes := #[(.object "java/util/function/BiFunction"), (.object "java/util/function/BiFunction"), (.object "java/util/function/BiFunction")]
  resolved := Array.replicate 194 none
  statics := some 1 }

def pool12 : Array CpInfo := pool [(9, u "<init>"), (6, .class_ 18), (1, u "java/lang/Object"), (0, u "()V"), (1, .class_ 23), (1, u "jdk/internal/util/ArraysSupport"), (0, u "LOG2_ARRAY_LONG_INDEX_SCALE"), (0, u "I"), (2, u "U"), (0, u "Ljdk/internal/misc/Unsafe;"), (8, u "BIG_ENDIAN"), (0, u "Z"), (8, u "LOG2_BYTE_BIT_SIZE"), (4, u "LOG2_ARRAY_INT_INDEX_SCALE"), (54, u "JLA"), (0, u "Ljdk/internal/access/JavaLangAccess;"), (11, u "LOG2_ARRAY_BOOLEAN_INDEX_SCALE"), (9, u "LOG2_ARRAY_BYTE_INDEX_SCALE"), (5, u "LOG2_ARRAY_CHAR_INDEX_SCALE"), (5, u "LOG2_ARRAY_SHORT_INDEX_SCALE"), (18, u "LOG2_ARRAY_FLOAT_INDEX_SCALE"), (24, u "LOG2_ARRAY_DOUBLE_INDEX_SCALE"), (89, u "T_BOOLEAN"), (2, u "T_CHAR"), (1, u "T_FLOAT"), (1, u "T_DOUBLE"), (1, u "T_BYTE"), (1, u "T_SHORT"), (1, u "T_INT"), (1, u "T_LONG"), (1, u "SOFT_MAX_ARRAY_LENGTH")] 83

def k12m0 : Method := { name := "<init>", desc := "()V", sig := { parameters := [], returnType := none }, accessFlags := 2, code := none }
/-- jdk/internal/util/ArraysSupport -/
def k12 : Class := { plain "jdk/internal/util/ArraysSupport" (some 0) with
  accessFlags := 33
  interfaces := #[]
  cf := some (fileOf pool12 21 #[] #[{ accessFlags := 2, nameIndex := 9, descriptorIndex := 19, attributes := #[] }] 33 16 #[] #[{ accessFlags := 24, nameIndex := 28, descriptorIndex := 29, attributes := #[] }, { accessFlags := 26, nameIndex := 38, descriptorIndex := 39, attributes := #[] }, { accessFlags := 25, nameIndex := 121, descriptorIndex := 25, attributes := #[] }, { accessFlags := 25, nameIndex := 131, descriptorIndex := 25, attributes := #[] }, { accessFlags := 25, nameIndex := 137, descriptorIndex := 25, attributes := #[] }, { accessFlags := 25, nameIndex := 143, descriptorIndex := 25, attributes := #[] }, { accessFlags := 25, nameIndex := 53, descriptorIndex := 25, attributes := #[] }, { accessFlags := 25, nameIndex := 24, descriptorIndex := 25, attributes := #[] }, { accessFlags := 25, nameIndex := 162, descriptorIndex := 25, attributes := #[] }, { accessFlags := 25, nameIndex := 187, descriptorIndex := 25, attributes := #[] }, { accessFlags := 26, nameIndex := 48, descriptorIndex := 25, attributes := #[] }, { accessFlags := 25, nameIndex := 277, descriptorIndex := 25, attributes := #[] }, { accessFlags := 25, nameIndex := 280, descriptorIndex := 25, attributes := #[] }, { accessFlags := 25, nameIndex := 282, descriptorIndex := 25, attributes := #[] }, { accessFlags := 25, nameIndex := 284, descriptorIndex := 25, attributes := #[] }, { accessFlags := 25, nameIndex := 286, descriptorIndex := 25, attributes := #[] }, { accessFlags := 25, nameIndex := 288, descriptorIndex := 25, attributes := #[] }, { accessFlags := 25, nameIndex := 290, descriptorIndex := 25, attributes := #[] }, { accessFlags := 25, nameIndex := 292, descriptorIndex := 25, attributes := #[] }, { accessFlags := 26, nameIndex := 108, descriptorIndex := 109, attributes := #[] }, { accessFlags := 25, nameIndex := 294, descriptorIndex := 25, attributes := #[] }])
  fields := #[{ name := "U", type := (.object "jdk/internal/misc/Unsafe"), accessFlags := 24, slot := 0, constantValue := 0 }, { name := "BIG_ENDIAN", type := .boolean, accessFlags := 26, slot := 1, constantValue := 0 }, { name := "LOG2_ARRAY_BOOLEAN_INDEX_SCALE", type := .int, accessFlags := 25, slot := 2, constantValue := 0 }, { name := "LOG2_ARRAY_BYTE_INDEX_SCALE", type := .int, accessFlags := 25, slot := 3, constantValue := 0 }, { name := "LOG2_ARRAY_CHAR_INDEX_SCALE", type := .int, accessFlags := 25, slot := 4, constantValue := 0 }, { name := "LOG2_ARRAY_SHORT_INDEX_SCALE", type := .int, accessFlags := 25, slot := 5, constantValue := 0 }, { name := "LOG2_ARRAY_INT_INDEX_SCALE", type := .int, accessFlags := 25, slot := 6, constantValue := 0 }, { name := "LOG2_ARRAY_LONG_INDEX_SCALE", type := .int, accessFlags := 25, slot := 7, constantValue := 0 }, { name := "LOG2_ARRAY_FLOAT_INDEX_SCALE", type := .int, accessFlags := 25, slot := 8, constantValue := 0 }, { name := "LOG2_ARRAY_DOUBLE_INDEX_SCALE", type := .int, accessFlags := 25, slot := 9, constantValue := 0 }, { name := "LOG2_BYTE_BIT_SIZE", type := .int, accessFlags := 26, slot := 10, constantValue := 0 }, { name := "T_BOOLEAN", type := .int, accessFlags := 25, slot := 11, constantValue := 0 }, { name := "T_CHAR", type := .int, accessFlags := 25, slot := 12, constantValue := 0 }, { name := "T_FLOAT", type := .int, accessFlags := 25, slot := 13, constantValue := 0 }, { name := "T_DOUBLE", type := .int, accessFlags := 25, slot := 14, constantValue := 0 }, { name := "T_BYTE", type := .int, accessFlags := 25, slot := 15, constantValue := 0 }, { name := "T_SHORT", type := .int, accessFlags := 25, slot := 16, constantValue := 0 }, { name := "T_INT", type := .int, accessFlags := 25, slot := 17, constantValue := 0 }, { name := "T_LONG", type := .int, accessFlags := 25, slot := 18, constantValue := 0 }, { name := "JLA", type := (.object "jdk/internal/access/JavaLangAccess"), accessFlags := 26, slot := 19, constantValue := 0 }, { name := "SOFT_MAX_ARRAY_LENGTH", type := .int, accessFlags := 25, slot := 20, constantValue := 0 }]
  methods := #[k12m0]
  instanceTypes := #[]
  staticTypes := #[(.object "jdk/internal/misc/Unsafe"), .boolean, .int, .int, .int, .int, .int, .int, .int, .int, .int, .int, .int, .int, .int, .int, .int, .int, .int, (.object "jdk/internal/access/JavaLangAccess"), .int]
  resolved := Array.replicate 378 none
  statics := none }

def pool13 : Array CpInfo := pool [(1, u "java/lang/Cloneable"), (0, .class_ 1), (0, u "java/lang/Object"), (0, .class_ 3)] 3

/-- java/lang/Cloneable -/
def k13 : Class := { plain "java/lang/Cloneable" (some 0) with
  accessFlags := 1537
  interfaces := #[]
  cf := some (fileOf pool13 2 #[] #[] 1537 4 #[] #[])
  fields := #[]
  methods := #[]
  instanceTypes := #[]
  staticTypes := #[]
  resolved := Array.replicate 8 none
  statics := none }

/-- the primitive byte -/
def k14 : Class := { plain "byte" none with kind := .primitive 'B', accessFlags := 0x411 }
/-- [B -/
def k15 : Class := { plain "[B" (some 0) with kind := .array 14 .byte, interfaces := #[13, 2], accessFlags := 1041 }

/-- the primitive char -/
def k16 : Class := { plain "char" none with kind := .primitive 'C', accessFlags := 0x411 }
/-- [C -/
def k17 : Class := { plain "[C" (some 0) with kind := .array 16 .char, interfaces := #[13, 2], accessFlags := 1041 }

/-- the primitive int -/
def k18 : Class := { plain "int" none with kind := .primitive 'I', accessFlags := 0x411 }
/-- [I -/
def k19 : Class := { plain "[I" (some 0) with kind := .array 18 .int, interfaces := #[13, 2], accessFlags := 1041 }

def heap : Heap := #[{ cls := 7, slots := #[.long 0, .int 1, .null, .int 0, .null, .int 0, .int 0], vm := .statics 7 },
  { cls := 11, slots := #[.null, .null, .null], vm := .statics 11 }]
def classes : Array Class := #[k0, k1, k2, k3, k4, k5, k6, k7, k8, k9, k10, k11, k12, k13, k14, k15, k16, k17, k18, k19]
def interned : List (Array UInt16 × Addr) := []
def slotsUsed : Nat := 10
def theMethod : MethodId := ⟨1, 5⟩
def args0 : Array Value := #[.long 5, .long 7, .int 9]
def aboutOver (below : List Frame) : State where
  vm := { classes := classes, interned := interned.toArray }
  heap := heap
  slotsUsed := slotsUsed
  threads := #[{ frames := .invoking theMethod args0 :: below }]
def below0 : List Frame := [.native { method := ⟨0, 0⟩, args := #[] }]
def about1 : State := aboutOver below0
def p0 : Program := .bare "" "" ""
def e0 : Env := launch0.env 0 0 0
theorem w_frames : about1.frames = Frame.invoking theMethod args0 :: below0 := rfl
set_option maxRecDepth 65536 in
theorem w_args : argsFit about1.vm theMethod args0 = true := by decide +kernel
set_option maxRecDepth 65536 in
theorem w_heap : heapFits about1 = true := by decide +kernel
set_option maxRecDepth 65536 in
theorem w_runnable : about1.curStatus? = some .runnable := by decide +kernel
set_option maxRecDepth 65536 in
theorem w_alone : about1.alone = true := by decide +kernel
set_option maxRecDepth 65536 in
theorem w_named : about1.methodNamed? x = some theMethod := by decide +kernel
set_option maxRecDepth 65536 in
theorem w_hears : about1.hears theMethod below0 = true := by decide +kernel
set_option maxRecDepth 65536 in
theorem w_ripe : about1.ripe theMethod args0 below0 = true := by decide +kernel
theorem w_running : about1.status = .running := rfl
set_option maxRecDepth 65536 in
theorem w_room : about1.hasRoom e0.platform room_1 = true :=
  launch0.hasRoom_least _ room_1 (by decide +kernel) (by decide +kernel) (by decide +kernel) (by decide +kernel) (by decide +kernel) (by decide +kernel)
theorem allAtoms_all (ts : List Jvm.Cond) (a : Array Jvm.Value) (st : Jvm.State) : (allAtoms ts).before a st = ts.all (fun c => c.before a st) := by
  induction ts with
  | nil => rfl
  | cons c t ih =>
    show (Jvm.Cond.and c (allAtoms t)).before a st = _
    rw [Jvm.Cond.before_and, ih, List.all_cons]
def words1 : List Jvm.Cond := Jvm.Cond.code x code maxLocals ret :: tables_1
/-- a 'code' word, met by the world's own term for the bytes: nothing is compared byte by byte -/
theorem code_word {y : MethodName} {bytes : ByteArray} {mx : Nat} {rt : Option FieldType} {a : Array Value} {s : State} {m : MethodId} {meth : Method} {c : Code} (h1 : s.methodNamed? y = some m) (h2 : s.vm.method? m = some meth) (h3 : meth.code = some c) (h4 : c.code = bytes)
    (h5 : (c.maxLocals == mx && c.exceptionTable.isEmpty && decide (c.maxStack ≤ mostOperands) && decide (meth.sig.returnType = rt) && !meth.locks && decide (parseMethodDescriptor y.desc = some meth.sig)) = true) : (Jvm.Cond.code y bytes mx rt).before a s = true := by
  simp only [Bool.and_eq_true, beq_iff_eq, Bool.not_eq_true', decide_eq_true_eq] at h5
  obtain ⟨⟨⟨⟨⟨g1, g2⟩, g3⟩, g4⟩, g5⟩, g6⟩ := h5
  simp [Cond.before, Cond.holds, Cond.value, h1, h2, h3, h4, g1, g2, g3, g4, g5, g6]
def isCode : Jvm.Cond → Bool
  | .code _ _ _ _ => true
  | _ => false
theorem all_split {L : List Jvm.Cond} {P : Jvm.Cond → Bool} (h1 : L.all (fun c => isCode c || P c) = true) (h2 : ∀ c ∈ L.filter isCode, P c = true) : L.all P = true := by
  refine List.all_eq_true.mpr fun c hc => ?_
  have h := List.all_eq_true.mp h1 c hc
  rcases Bool.eq_false_or_eq_true (isCode c) with hi | hi
  · exact h2 c (List.mem_filter.mpr ⟨hc, hi⟩)
  · simpa [hi] using h
set_option maxRecDepth 65536 in
theorem w_c0 : (Jvm.Cond.code x code maxLocals ret).before args0 about1 = true := code_word (m := ⟨1, 5⟩) (meth := k1m5) (c := k1c5) (by decide +kernel) rfl rfl rfl (by decide +kernel)
set_option maxRecDepth 65536 in
theorem w_c1 : (Jvm.Cond.code ({ cls := "com/example/opas/opas/TemplateEqualsPinLaw", name := "mk", desc := "(JI)Ljava/lang/String;" } : Jvm.MethodName) method_4_code (6 : Nat) (Option.some (Jvm.ClassFile.FieldType.object "java/lang/String"))).before args0 about1 = true := code_word (m := ⟨1, 3⟩) (meth := k1m3) (c := k1c3) (by decide +kernel) rfl rfl rfl (by decide +kernel)
set_option maxRecDepth 65536 in
theorem w_c2 : (Jvm.Cond.code ({ cls := "com/example/opas/opas/TemplateEqualsPinLaw", name := "len", desc := "(JI)I" } : Jvm.MethodName) method_2_code (3 : Nat) (Option.some Jvm.ClassFile.FieldType.int)).before args0 about1 = true := code_word (m := ⟨1, 1⟩) (meth := k1m1) (c := k1c1) (by decide +kernel) rfl rfl rfl (by decide +kernel)
set_option maxRecDepth 65536 in
theorem w_c3 : (Jvm.Cond.code ({ cls := "com/example/opas/opas/TemplateEqualsPinLaw", name := "ch", desc := "(JII)C" } : Jvm.MethodName) method_3_code (4 : Nat) (Option.some Jvm.ClassFile.FieldType.char)).before args0 about1 = true := code_word (m := ⟨1, 2⟩) (meth := k1m2) (c := k1c2) (by decide +kernel) rfl rfl rfl (by decide +kernel)
set_option maxRecDepth 65536 in
theorem w_c4 : (Jvm.Cond.code ({ cls := "java/lang/String", name := "<init>", desc := "([C)V" } : Jvm.MethodName) jdk_42_method_3_code (2 : Nat) (Option.none : Option Jvm.ClassFile.FieldType)).before args0 about1 = true := code_word (m := ⟨7, 1⟩) (meth := k7m1) (c := k7c1) (by decide +kernel) rfl rfl rfl (by decide +kernel)
set_option maxRecDepth 65536 in
theorem w_c5 : (Jvm.Cond.code ({ cls := "java/lang/String", name := "<init>", desc := "([CIILjava/lang/Void;)V" } : Jvm.MethodName) jdk_42_method_149_code (6 : Nat) (Option.none : Option Jvm.ClassFile.FieldType)).before args0 about1 = true := code_word (m := ⟨7, 4⟩) (meth := k7m4) (c := k7c4) (by decide +kernel) rfl rfl rfl (by decide +kernel)
set_option maxRecDepth 65536 in
theorem w_c6 : (Jvm.Cond.code ({ cls := "java/lang/Object", name := "<init>", desc := "()V" } : Jvm.MethodName) object_method_1_code (1 : Nat) (Option.none : Option Jvm.ClassFile.FieldType)).before args0 about1 = true := code_word (m := ⟨0, 0⟩) (meth := k0m0) (c := k0c0) (by decide +kernel) rfl rfl rfl (by decide +kernel)
set_option maxRecDepth 65536 in
theorem w_c7 : (Jvm.Cond.code ({ cls := "java/lang/String", name := "valueOf", desc := "(C)Ljava/lang/String;" } : Jvm.MethodName) jdk_42_method_139_code (1 : Nat) (Option.some (Jvm.ClassFile.FieldType.object "java/lang/String"))).before args0 about1 = true := code_word (m := ⟨7, 3⟩) (meth := k7m3) (c := k7c3) (by decide +kernel) rfl rfl rfl (by decide +kernel)
set_option maxRecDepth 65536 in
theorem w_c8 : (Jvm.Cond.code ({ cls := "java/lang/StringLatin1", name := "canEncode", desc := "(C)Z" } : Jvm.MethodName) jdk_43_method_3_code (1 : Nat) (Option.some Jvm.ClassFile.FieldType.boolean)).before args0 about1 = true := code_word (m := ⟨8, 1⟩) (meth := k8m1) (c := k8c1) (by decide +kernel) rfl rfl rfl (by decide +kernel)
set_option maxRecDepth 65536 in
theorem w_c9 : (Jvm.Cond.code ({ cls := "java/lang/StringLatin1", name := "toBytes", desc := "(C)[B" } : Jvm.MethodName) jdk_43_method_46_code (1 : Nat) (Option.some (Jvm.ClassFile.FieldType.array Jvm.ClassFile.FieldType.byte))).before args0 about1 = true := code_word (m := ⟨8, 3⟩) (meth := k8m3) (c := k8c3) (by decide +kernel) rfl rfl rfl (by decide +kernel)
set_option maxRecDepth 65536 in
theorem w_c10 : (Jvm.Cond.code ({ cls := "java/lang/String", name := "<init>", desc := "([BB)V" } : Jvm.MethodName) jdk_42_method_151_code (3 : Nat) (Option.none : Option Jvm.ClassFile.FieldType)).before args0 about1 = true := code_word (m := ⟨7, 5⟩) (meth := k7m5) (c := k7c5) (by decide +kernel) rfl rfl rfl (by decide +kernel)
set_option maxRecDepth 65536 in
theorem w_c11 : (Jvm.Cond.code ({ cls := "com/example/opas/opas/Template", name := "<init>", desc := "(Ljava/lang/String;Ljava/lang/String;Ljava/lang/String;)V" } : Jvm.MethodName) prog_26_method_1_code (4 : Nat) (Option.none : Option Jvm.ClassFile.FieldType)).before args0 about1 = true := code_word (m := ⟨9, 0⟩) (meth := k9m0) (c := k9c0) (by decide +kernel) rfl rfl rfl (by decide +kernel)
set_option maxRecDepth 65536 in
theorem w_c12 : (Jvm.Cond.code ({ cls := "com/example/opas/opas/TemplateEqualsPinLaw", name := "same", desc := "(JJI)Z" } : Jvm.MethodName) method_5_code (7 : Nat) (Option.some Jvm.ClassFile.FieldType.boolean)).before args0 about1 = true := code_word (m := ⟨1, 4⟩) (meth := k1m4) (c := k1c4) (by decide +kernel) rfl rfl rfl (by decide +kernel)
set_option maxRecDepth 65536 in
theorem w_c13 : (Jvm.Cond.code ({ cls := "com/example/opas/opas/Template", name := "equals", desc := "(Ljava/lang/Object;)Z" } : Jvm.MethodName) prog_26_method_6_code (3 : Nat) (Option.some Jvm.ClassFile.FieldType.boolean)).before args0 about1 = true := code_word (m := ⟨9, 1⟩) (meth := k9m1) (c := k9c1) (by decide +kernel) rfl rfl rfl (by decide +kernel)
set_option maxRecDepth 65536 in
theorem w_c14 : (Jvm.Cond.code ({ cls := "java/lang/String", name := "equals", desc := "(Ljava/lang/Object;)Z" } : Jvm.MethodName) jdk_42_method_66_code (3 : Nat) (Option.some Jvm.ClassFile.FieldType.boolean)).before args0 about1 = true := code_word (m := ⟨7, 2⟩) (meth := k7m2) (c := k7c2) (by decide +kernel) rfl rfl rfl (by decide +kernel)
set_option maxRecDepth 65536 in
theorem w_c15 : (Jvm.Cond.code ({ cls := "java/lang/StringLatin1", name := "equals", desc := "([B[B)Z" } : Jvm.MethodName) jdk_43_method_13_code (3 : Nat) (Option.some Jvm.ClassFile.FieldType.boolean)).before args0 about1 = true := code_word (m := ⟨8, 2⟩) (meth := k8m2) (c := k8c2) (by decide +kernel) rfl rfl rfl (by decide +kernel)
set_option maxRecDepth 65536 in
theorem w_c16 : (Jvm.Cond.code ({ cls := "java/lang/StringUTF16", name := "compress", desc := "([CII)[B" } : Jvm.MethodName) jdk_52_method_16_code (6 : Nat) (Option.some (Jvm.ClassFile.FieldType.array Jvm.ClassFile.FieldType.byte))).before args0 about1 = true := code_word (m := ⟨10, 2⟩) (meth := k10m2) (c := k10c2) (by decide +kernel) rfl rfl rfl (by decide +kernel)
set_option maxRecDepth 65536 in
theorem w_c17 : (Jvm.Cond.code ({ cls := "java/lang/StringUTF16", name := "compress", desc := "([CI[BII)I" } : Jvm.MethodName) jdk_52_method_21_code (7 : Nat) (Option.some Jvm.ClassFile.FieldType.int)).before args0 about1 = true := code_word (m := ⟨10, 3⟩) (meth := k10m3) (c := k10c3) (by decide +kernel) rfl rfl rfl (by decide +kernel)
set_option maxRecDepth 65536 in
theorem w_c18 : (Jvm.Cond.code ({ cls := "java/lang/StringUTF16", name := "coderFromArrayLen", desc := "([BI)B" } : Jvm.MethodName) jdk_52_method_15_code (2 : Nat) (Option.some Jvm.ClassFile.FieldType.byte)).before args0 about1 = true := code_word (m := ⟨10, 1⟩) (meth := k10m1) (c := k10c1) (by decide +kernel) rfl rfl rfl (by decide +kernel)
def codes1 : List Jvm.Cond := [Jvm.Cond.code x code maxLocals ret, Jvm.Cond.code ({ cls := "com/example/opas/opas/TemplateEqualsPinLaw", name := "mk", desc := "(JI)Ljava/lang/String;" } : Jvm.MethodName) method_4_code (6 : Nat) (Option.some (Jvm.ClassFile.FieldType.object "java/lang/String")), Jvm.Cond.code ({ cls := "com/example/opas/opas/TemplateEqualsPinLaw", name := "len", desc := "(JI)I" } : Jvm.MethodName) method_2_code (3 : Nat) (Option.some Jvm.ClassFile.FieldType.int), Jvm.Cond.code ({ cls := "com/example/opas/opas/TemplateEqualsPinLaw", name := "ch", desc := "(JII)C" } : Jvm.MethodName) method_3_code (4 : Nat) (Option.some Jvm.ClassFile.FieldType.char), Jvm.Cond.code ({ cls := "java/lang/String", name := "<init>", desc := "([C)V" } : Jvm.MethodName) jdk_42_method_3_code (2 : Nat) (Option.none : Option Jvm.ClassFile.FieldType), Jvm.Cond.code ({ cls := "java/lang/String", name := "<init>", desc := "([CIILjava/lang/Void;)V" } : Jvm.MethodName) jdk_42_method_149_code (6 : Nat) (Option.none : Option Jvm.ClassFile.FieldType), Jvm.Cond.code ({ cls := "java/lang/Object", name := "<init>", desc := "()V" } : Jvm.MethodName) object_method_1_code (1 : Nat) (Option.none : Option Jvm.ClassFile.FieldType), Jvm.Cond.code ({ cls := "java/lang/String", name := "valueOf", desc := "(C)Ljava/lang/String;" } : Jvm.MethodName) jdk_42_method_139_code (1 : Nat) (Option.some (Jvm.ClassFile.FieldType.object "java/lang/String")), Jvm.Cond.code ({ cls := "java/lang/StringLatin1", name := "canEncode", desc := "(C)Z" } : Jvm.MethodName) jdk_43_method_3_code (1 : Nat) (Option.some Jvm.ClassFile.FieldType.boolean), Jvm.Cond.code ({ cls := "java/lang/StringLatin1", name := "toBytes", desc := "(C)[B" } : Jvm.MethodName) jdk_43_method_46_code (1 : Nat) (Option.some (Jvm.ClassFile.FieldType.array Jvm.ClassFile.FieldType.byte)), Jvm.Cond.code ({ cls := "java/lang/String", name := "<init>", desc := "([BB)V" } : Jvm.MethodName) jdk_42_method_151_code (3 : Nat) (Option.none : Option Jvm.ClassFile.FieldType), Jvm.Cond.code ({ cls := "com/example/opas/opas/Template", name := "<init>", desc := "(Ljava/lang/String;Ljava/lang/String;Ljava/lang/String;)V" } : Jvm.MethodName) prog_26_method_1_code (4 : Nat) (Option.none : Option Jvm.ClassFile.FieldType), Jvm.Cond.code ({ cls := "com/example/opas/opas/TemplateEqualsPinLaw", name := "same", desc := "(JJI)Z" } : Jvm.MethodName) method_5_code (7 : Nat) (Option.some Jvm.ClassFile.FieldType.boolean), Jvm.Cond.code ({ cls := "com/example/opas/opas/Template", name := "equals", desc := "(Ljava/lang/Object;)Z" } : Jvm.MethodName) prog_26_method_6_code (3 : Nat) (Option.some Jvm.ClassFile.FieldType.boolean), Jvm.Cond.code ({ cls := "java/lang/String", name := "equals", desc := "(Ljava/lang/Object;)Z" } : Jvm.MethodName) jdk_42_method_66_code (3 : Nat) (Option.some Jvm.ClassFile.FieldType.boolean), Jvm.Cond.code ({ cls := "java/lang/StringLatin1", name := "equals", desc := "([B[B)Z" } : Jvm.MethodName) jdk_43_method_13_code (3 : Nat) (Option.some Jvm.ClassFile.FieldType.boolean), Jvm.Cond.code ({ cls := "java/lang/StringUTF16", name := "compress", desc := "([CII)[B" } : Jvm.MethodName) jdk_52_method_16_code (6 : Nat) (Option.some (Jvm.ClassFile.FieldType.array Jvm.ClassFile.FieldType.byte)), Jvm.Cond.code ({ cls := "java/lang/StringUTF16", name := "compress", desc := "([CI[BII)I" } : Jvm.MethodName) jdk_52_method_21_code (7 : Nat) (Option.some Jvm.ClassFile.FieldType.int), Jvm.Cond.code ({ cls := "java/lang/StringUTF16", name := "coderFromArrayLen", desc := "([BI)B" } : Jvm.MethodName) jdk_52_method_15_code (2 : Nat) (Option.some Jvm.ClassFile.FieldType.byte)]
set_option maxRecDepth 65536 in
theorem codes_eq : words1.filter isCode = codes1 := rfl
theorem w_codes : ∀ c ∈ words1.filter isCode, c.before args0 about1 = true := by
  rw [codes_eq]
  intro c hc
  simp only [codes1, List.mem_cons, List.not_mem_nil, or_false] at hc
  rcases hc with rfl | rfl | rfl | rfl | rfl | rfl | rfl | rfl | rfl | rfl | rfl | rfl | rfl | rfl | rfl | rfl | rfl | rfl | rfl
  · exact w_c0
  · exact w_c1
  · exact w_c2
  · exact w_c3
  · exact w_c4
  · exact w_c5
  · exact w_c6
  · exact w_c7
  · exact w_c8
  · exact w_c9
  · exact w_c10
  · exact w_c11
  · exact w_c12
  · exact w_c13
  · exact w_c14
  · exact w_c15
  · exact w_c16
  · exact w_c17
  · exact w_c18
set_option maxRecDepth 65536 in
theorem w_t1 : (words1.take 24).all (fun c => isCode c || c.before args0 about1) = true := by decide +kernel
set_option maxRecDepth 65536 in
theorem w_t2 : ((words1.drop 24).take 24).all (fun c => isCode c || c.before args0 about1) = true := by decide +kernel
set_option maxRecDepth 65536 in
theorem w_t3 : (((words1.drop 24).drop 24).take 24).all (fun c => isCode c || c.before args0 about1) = true := by decide +kernel
set_option maxRecDepth 65536 in
theorem w_t4 : (((words1.drop 24).drop 24).drop 24).all (fun c => isCode c || c.before args0 about1) = true := by decide +kernel
theorem w_tables : (allAtoms (Jvm.Cond.code x code maxLocals ret :: tables_1)).before args0 about1 = true := by
  rw [allAtoms_all]
  show words1.all (fun c => c.before args0 about1) = true
  refine all_split ?_ w_codes
  rw [← List.take_append_drop 24 words1, List.all_append, w_t1, ← List.take_append_drop 24 (words1.drop 24), List.all_append, w_t2, ← List.take_append_drop 24 ((words1.drop 24).drop 24), List.all_append, w_t3, w_t4]
  rfl
set_option maxRecDepth 65536 in
theorem w_rest : rest_1_c.before args0 about1 = true := by decide +kernel
set_option maxRecDepth 65536 in
theorem w_case : (Jvm.Cond.and given_1 narrow_1).before args0 about1 = true := by decide +kernel
set_option maxRecDepth 65536 in
theorem w_consts : constsHeld consts_1 about1 := Jvm.Lit.constsHeldB_iff.mp (by decide +kernel)
theorem w_applies : (headSpec (Jvm.Cond.code x code maxLocals ret :: tables_1) room_1).applies x e0.platform about1 = true :=
  (Spec.applies_iff w_frames).mpr ⟨w_running, w_runnable, w_alone, w_named, w_hears, w_ripe, w_room, w_tables⟩
theorem atStart : AtStart classFile x code maxLocals ret World_1 tables_1 room_1 Calls_1 rest_1 Pre_1 launch0 p0 e0 about1 theMethod args0 below0 :=
  ⟨lists_1, trivial, launch0.admits_env _ _ _, launch0.least_env, fairChoices_fair.cas, fairChoices_fair.clock, w_frames, w_args, w_heap, w_applies, ⟨w_consts, trivial⟩, w_rest, w_case⟩
end start1
theorem witness_1 : WitnessClaimed_1 := ⟨start1.p0, start1.e0, start1.about1, start1.theMethod, start1.args0, start1.below0, start1.atStart⟩
end Jvm.Pilot.@@N@@
