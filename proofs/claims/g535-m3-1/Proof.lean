import JvmDerived
import JvmDerived.Pilot.@@N@@Statement
import JvmDerived.Pilot.@@N@@Code
set_option linter.unusedVariables false
set_option linter.unusedSimpArgs false
namespace Jvm.Own
open Sem ClassFile Op Lib Jvm.Stand Jvm.Free Jvm.LawKit Jvm.RoadKit
/-- the run goes on from the frame g over T and comes to an end of which P holds -/
def Go (p : Program) (e : Env) (below : List Frame) (P : Outcome → State → Prop) (T : State) (g : JFrame) : Prop :=
  ∃ U o, Steps p.tables e below (T.setTop g) U ∧ U.status = .running ∧ Ended U below o ∧ P o U
/-- what a body's end says: it returned v; it wrote in new cells alone, kept the heap h0 but for ws and the start's heap whole; Q of what it returned and of the heap -/
def PostOf (Z s : State) (h0 : Heap) (ws : List Addr) (kc ks : Nat) (Q : Option Value → Heap → Prop) (o : Outcome) (U : State) : Prop :=
  ∃ v L, o = .returned v ∧ (Fr Z.heap.size L ∧ Keep h0 U.heap ws ∧ Ext Z.heap U.heap ∧ Q v U.heap) ∧ FrameEnd s o U L kc ks
/-- a body's contract for the arguments as at the heap h0 -/
def OMeets (l : Launch) (Z : State) (y : MethodName) (bytes : ByteArray) (nl : Nat) (ret : Option FieldType) (R : Room) (as : Array Value) (h0 : Heap) (ws : List Addr) (Q : Option Value → Heap → Prop) : Prop :=
  ∀ wd : List Jvm.Cond, MetFree l y (head1 (Jvm.Cond.code y bytes nl ret :: wd) R) (fun a U => a = as ∧ Z.Warmed39 U.vm ∧ U.heap = h0) (fun _ _ _ _ _ => True)
    (fun _ U o U' => PostOf Z U h0 ws R.cells R.slots Q o U')
/-- where the run of one body stands: what is fixed, the library's Stand, the heap, what was written, what is kept -/
def St (p : Program) (l : Launch) (e : Env) (R : Room) (s : State) (m : MethodId) (args : Array Value) (below : List Frame) (meth : Method) (c : Code) (Z : State) (own : String) (bytes : ByteArray) (nl : Nat) (ret : Option FieldType) (nm : String)
    (h0 : Heap) (ws : List Addr) (T : State) (h : Heap) (locs : List Loc) (cells slots : Nat) : Prop :=
  (p.tables.exec = Jvm.exec ∧ c.code = bytes ∧ c.maxLocals = nl ∧ Z.Warmed39 s.vm ∧ s.vm.findClass own = some m.cls ∧ meth.sig.returnType = ret ∧ meth.locks = false ∧ meth.name = nm) ∧
  Stand p l e R s m args below meth c T locs cells slots ∧ T.heap = h ∧ Fr Z.heap.size locs ∧ Keep h0 h ws ∧ Ext Z.heap h
section Steps
variable {p : Program} {l : Launch} {e : Env} {R : Room} {s : State} {m : MethodId} {args : Array Value} {below : List Frame} {meth : Method} {c : Code} {Z : State} {own : String} {bytes : ByteArray} {nl : Nat} {ret : Option FieldType} {nm : String}
  {h0 : Heap} {ws : List Addr} {T : State} {h : Heap} {locs : List Loc} {cells slots : Nat} {P : Outcome → State → Prop} {pc pc' : Nat} {Ls Ls' : Array Slot} {st : List Value} {a0 : Array Value}
theorem off0 {a b : Nat} {o : Int} (h : (a : Int) + o = (b : Int)) : 0 ≤ (a : Int) + o := by omega
theorem off1 {a b : Nat} {o : Int} (h : (a : Int) + o = (b : Int)) : ((a : Int) + o).toNat = b := by omega
theorem Go.of {T' : State} {g g' : JFrame} (k : Go p e below P T' g') (f : ∀ t, Steps p.tables e below (T'.setTop g') t → Steps p.tables e below (T.setTop g) t) : Go p e below P T g := by
  obtain ⟨U, o, h1, h2⟩ := k
  exact ⟨U, o, f _ h1, h2⟩
theorem Go.imp {g : JFrame} {P' : Outcome → State → Prop} (k : Go p e below P T g) (f : ∀ o U, P o U → P' o U) : Go p e below P' T g := by
  obtain ⟨U, o, h1, h2, h3, h4⟩ := k
  exact ⟨U, o, h1, h2, h3, f _ _ h4⟩
theorem St.ex (S : St p l e R s m args below meth c Z own bytes nl ret nm h0 ws T h locs cells slots) : p.tables.exec = Jvm.exec := S.1.1
theorem St.hd (S : St p l e R s m args below meth c Z own bytes nl ret nm h0 ws T h locs cells slots) {r : Except DecodeError (Instr × Nat)} (h2 : decode bytes pc = r) : decode c.code pc = r := S.1.2.1 ▸ h2
theorem St.hnl (S : St p l e R s m args below meth c Z own bytes nl ret nm h0 ws T h locs cells slots) : c.maxLocals = nl := S.1.2.2.1
theorem St.hZ (S : St p l e R s m args below meth c Z own bytes nl ret nm h0 ws T h locs cells slots) : Z.Warmed39 s.vm := S.1.2.2.2.1
theorem St.hown (S : St p l e R s m args below meth c Z own bytes nl ret nm h0 ws T h locs cells slots) : s.vm.findClass own = some m.cls := S.1.2.2.2.2.1
theorem St.hret (S : St p l e R s m args below meth c Z own bytes nl ret nm h0 ws T h locs cells slots) : meth.sig.returnType = ret := S.1.2.2.2.2.2.1
theorem St.locks (S : St p l e R s m args below meth c Z own bytes nl ret nm h0 ws T h locs cells slots) : meth.locks = false := S.1.2.2.2.2.2.2.1
theorem St.hnm (S : St p l e R s m args below meth c Z own bytes nl ret nm h0 ws T h locs cells slots) : meth.name = nm := S.1.2.2.2.2.2.2.2
theorem St.X (S : St p l e R s m args below meth c Z own bytes nl ret nm h0 ws T h locs cells slots) : Stand p l e R s m args below meth c T locs cells slots := S.2.1
theorem St.eT (S : St p l e R s m args below meth c Z own bytes nl ret nm h0 ws T h locs cells slots) : T.heap = h := S.2.2.1
theorem St.fr (S : St p l e R s m args below meth c Z own bytes nl ret nm h0 ws T h locs cells slots) : Fr Z.heap.size locs := S.2.2.2.1
theorem St.keep (S : St p l e R s m args below meth c Z own bytes nl ret nm h0 ws T h locs cells slots) : Keep h0 h ws := S.2.2.2.2.1
theorem St.ext (S : St p l e R s m args below meth c Z own bytes nl ret nm h0 ws T h locs cells slots) : Ext Z.heap h := S.2.2.2.2.2
theorem St.more (S : St p l e R s m args below meth c Z own bytes nl ret nm h0 ws T h locs cells slots) {cells' slots' : Nat} (hc : cells ≤ cells') (hs : slots ≤ slots') : St p l e R s m args below meth c Z own bytes nl ret nm h0 ws T h locs cells' slots' := ⟨S.1, S.X.more hc hs, S.2.2⟩
theorem St.next (S : St p l e R s m args below meth c Z own bytes nl ret nm h0 ws T h locs cells slots) {T' : State} {h' : Heap} {locs' : List Loc} {cells' slots' : Nat} (X : Stand p l e R s m args below meth c T' locs' cells' slots') (e1 : T'.heap = h') (N : Fr Z.heap.size locs') (K : Keep h0 h' ws) (E : Ext Z.heap h') : St p l e R s m args below meth c Z own bytes nl ret nm h0 ws T' h' locs' cells' slots' := ⟨S.1, X, e1, N, K, E⟩
theorem Go.iloadN (S : St p l e R s m args below meth c Z own bytes nl ret nm h0 ws T h locs cells slots) {k : Fin 4} {v : Int32} (hd : decode bytes pc = .ok (.iload_n k, 1)) (hl : Ls[k.val]? = some (.val (.int v))) (hp : pc + 1 = pc') (k : Go p e below P T (mkF m pc' Ls (.int v :: st))) : Go p e below P T (mkF m pc Ls st) := by
  subst hp
  exact k.of fun t q => XS.iloadN S.X.here S.ex rfl (S.hd hd) hl q
theorem Go.iload (S : St p l e R s m args below meth c Z own bytes nl ret nm h0 ws T h locs cells slots) {k : Nat} {v : Int32} (hd : decode bytes pc = .ok (.iload k, 2)) (hl : Ls[k]? = some (.val (.int v))) (hp : pc + 2 = pc') (k : Go p e below P T (mkF m pc' Ls (.int v :: st))) : Go p e below P T (mkF m pc Ls st) := by
  subst hp
  exact k.of fun t q => XS.iload S.X.here S.ex rfl (S.hd hd) hl q
theorem Go.istoreN (S : St p l e R s m args below meth c Z own bytes nl ret nm h0 ws T h locs cells slots) {k : Fin 4} {v : Int32} (hd : decode bytes pc = .ok (.istore_n k, 1)) (hl : storeLocals Ls k.val (.int v) = some Ls') (hp : pc + 1 = pc') (k : Go p e below P T (mkF m pc' Ls' st)) : Go p e below P T (mkF m pc Ls (.int v :: st)) := by
  subst hp
  exact k.of fun t q => XS.istoreN S.X.here S.ex rfl (S.hd hd) rfl hl q
theorem Go.istore (S : St p l e R s m args below meth c Z own bytes nl ret nm h0 ws T h locs cells slots) {k : Nat} {v : Int32} (hd : decode bytes pc = .ok (.istore k, 2)) (hl : storeLocals Ls k (.int v) = some Ls') (hp : pc + 2 = pc') (k : Go p e below P T (mkF m pc' Ls' st)) : Go p e below P T (mkF m pc Ls (.int v :: st)) := by
  subst hp
  exact k.of fun t q => XS.istore S.X.here S.ex rfl (S.hd hd) rfl hl q
theorem Go.lloadN (S : St p l e R s m args below meth c Z own bytes nl ret nm h0 ws T h locs cells slots) {k : Fin 4} {v : Int64} (hd : decode bytes pc = .ok (.lload_n k, 1)) (hl : Ls[k.val]? = some (.val (.long v))) (hp : pc + 1 = pc') (k : Go p e below P T (mkF m pc' Ls (.long v :: st))) : Go p e below P T (mkF m pc Ls st) := by
  subst hp
  exact k.of fun t q => XS.lloadN S.X.here S.ex rfl (S.hd hd) hl q
theorem Go.lload (S : St p l e R s m args below meth c Z own bytes nl ret nm h0 ws T h locs cells slots) {k : Nat} {v : Int64} (hd : decode bytes pc = .ok (.lload k, 2)) (hl : Ls[k]? = some (.val (.long v))) (hp : pc + 2 = pc') (k : Go p e below P T (mkF m pc' Ls (.long v :: st))) : Go p e below P T (mkF m pc Ls st) := by
  subst hp
  exact k.of fun t q => XS.lload S.X.here S.ex rfl (S.hd hd) hl q
theorem Go.lstoreN (S : St p l e R s m args below meth c Z own bytes nl ret nm h0 ws T h locs cells slots) {k : Fin 4} {v : Int64} (hd : decode bytes pc = .ok (.lstore_n k, 1)) (hl : storeLocals Ls k.val (.long v) = some Ls') (hp : pc + 1 = pc') (k : Go p e below P T (mkF m pc' Ls' st)) : Go p e below P T (mkF m pc Ls (.long v :: st)) := by
  subst hp
  exact k.of fun t q => XS.lstoreN S.X.here S.ex rfl (S.hd hd) rfl hl q
theorem Go.lstore (S : St p l e R s m args below meth c Z own bytes nl ret nm h0 ws T h locs cells slots) {k : Nat} {v : Int64} (hd : decode bytes pc = .ok (.lstore k, 2)) (hl : storeLocals Ls k (.long v) = some Ls') (hp : pc + 2 = pc') (k : Go p e below P T (mkF m pc' Ls' st)) : Go p e below P T (mkF m pc Ls (.long v :: st)) := by
  subst hp
  exact k.of fun t q => XS.lstore S.X.here S.ex rfl (S.hd hd) rfl hl q
theorem Go.aloadN (S : St p l e R s m args below meth c Z own bytes nl ret nm h0 ws T h locs cells slots) {k : Fin 4} {v : Value} (hd : decode bytes pc = .ok (.aload_n k, 1)) (hl : Ls[k.val]? = some (.val v)) (hr : v.isRef = true) (hp : pc + 1 = pc') (k : Go p e below P T (mkF m pc' Ls (v :: st))) : Go p e below P T (mkF m pc Ls st) := by
  subst hp
  exact k.of fun t q => XS.aloadN S.X.here S.ex rfl (S.hd hd) hl hr q
theorem Go.aload (S : St p l e R s m args below meth c Z own bytes nl ret nm h0 ws T h locs cells slots) {k : Nat} {v : Value} (hd : decode bytes pc = .ok (.aload k, 2)) (hl : Ls[k]? = some (.val v)) (hr : v.isRef = true) (hp : pc + 2 = pc') (k : Go p e below P T (mkF m pc' Ls (v :: st))) : Go p e below P T (mkF m pc Ls st) := by
  subst hp
  exact k.of fun t q => XS.aload S.X.here S.ex rfl (S.hd hd) hl hr q
theorem Go.astoreN (S : St p l e R s m args below meth c Z own bytes nl ret nm h0 ws T h locs cells slots) {k : Fin 4} {v : Value} (hd : decode bytes pc = .ok (.astore_n k, 1)) (hr : v.isRef = true) (hl : storeLocals Ls k.val v = some Ls') (hp : pc + 1 = pc') (k : Go p e below P T (mkF m pc' Ls' st)) : Go p e below P T (mkF m pc Ls (v :: st)) := by
  subst hp
  exact k.of fun t q => XS.astoreN S.X.here S.ex rfl (S.hd hd) rfl hr hl q
theorem Go.astore (S : St p l e R s m args below meth c Z own bytes nl ret nm h0 ws T h locs cells slots) {k : Nat} {v : Value} (hd : decode bytes pc = .ok (.astore k, 2)) (hr : v.isRef = true) (hl : storeLocals Ls k v = some Ls') (hp : pc + 2 = pc') (k : Go p e below P T (mkF m pc' Ls' st)) : Go p e below P T (mkF m pc Ls (v :: st)) := by
  subst hp
  exact k.of fun t q => XS.astore S.X.here S.ex rfl (S.hd hd) rfl hr hl q
theorem Go.iconst (S : St p l e R s m args below meth c Z own bytes nl ret nm h0 ws T h locs cells slots) {i : Int} {v : Int32} (hd : decode bytes pc = .ok (.iconst i, 1)) (hv : Int32.ofInt i = v) (hp : pc + 1 = pc') (k : Go p e below P T (mkF m pc' Ls (.int v :: st))) : Go p e below P T (mkF m pc Ls st) := by
  subst hp hv
  exact k.of fun t q => XS.iconst S.X.here S.ex rfl (S.hd hd) q
theorem Go.bipush (S : St p l e R s m args below meth c Z own bytes nl ret nm h0 ws T h locs cells slots) {i : Int} {v : Int32} (hd : decode bytes pc = .ok (.bipush i, 2)) (hv : (Int8.ofInt i).toInt32 = v) (hp : pc + 2 = pc') (k : Go p e below P T (mkF m pc' Ls (.int v :: st))) : Go p e below P T (mkF m pc Ls st) := by
  subst hp hv
  exact k.of fun t q => XS.bipush S.X.here S.ex rfl (S.hd hd) q
theorem Go.sipush (S : St p l e R s m args below meth c Z own bytes nl ret nm h0 ws T h locs cells slots) {i : Int} {v : Int32} (hd : decode bytes pc = .ok (.sipush i, 3)) (hv : (Int16.ofInt i).toInt32 = v) (hp : pc + 3 = pc') (k : Go p e below P T (mkF m pc' Ls (.int v :: st))) : Go p e below P T (mkF m pc Ls st) := by
  subst hp hv
  exact k.of fun t q => XS.sipush S.X.here S.ex rfl (S.hd hd) q
theorem Go.lconst (S : St p l e R s m args below meth c Z own bytes nl ret nm h0 ws T h locs cells slots) {i : Fin 2} {v : Int64} (hd : decode bytes pc = .ok (.lconst i, 1)) (hv : Int64.ofNat i = v) (hp : pc + 1 = pc') (k : Go p e below P T (mkF m pc' Ls (.long v :: st))) : Go p e below P T (mkF m pc Ls st) := by
  subst hp hv
  exact k.of fun t q => XS.lconst S.X.here S.ex rfl (S.hd hd) q
theorem Go.aconst_null (S : St p l e R s m args below meth c Z own bytes nl ret nm h0 ws T h locs cells slots)  (hd : decode bytes pc = .ok (.aconst_null, 1)) (hp : pc + 1 = pc') (k : Go p e below P T (mkF m pc' Ls (.null :: st))) : Go p e below P T (mkF m pc Ls st) := by
  subst hp
  exact k.of fun t q => XS.aconstNull S.X.here S.ex rfl (S.hd hd) q
theorem Go.iadd (S : St p l e R s m args below meth c Z own bytes nl ret nm h0 ws T h locs cells slots) {x y : Int32} (hd : decode bytes pc = .ok (.iadd, 1)) (hp : pc + 1 = pc') (k : Go p e below P T (mkF m pc' Ls (.int (x + y) :: st))) : Go p e below P T (mkF m pc Ls (.int y :: .int x :: st)) := by
  subst hp
  exact k.of fun t q => XS.iadd S.X.here S.ex rfl (S.hd hd) rfl q
theorem Go.ladd (S : St p l e R s m args below meth c Z own bytes nl ret nm h0 ws T h locs cells slots) {x y : Int64} (hd : decode bytes pc = .ok (.ladd, 1)) (hp : pc + 1 = pc') (k : Go p e below P T (mkF m pc' Ls (.long (x + y) :: st))) : Go p e below P T (mkF m pc Ls (.long y :: .long x :: st)) := by
  subst hp
  exact k.of fun t q => XS.ladd S.X.here S.ex rfl (S.hd hd) rfl q
theorem Go.isub (S : St p l e R s m args below meth c Z own bytes nl ret nm h0 ws T h locs cells slots) {x y : Int32} (hd : decode bytes pc = .ok (.isub, 1)) (hp : pc + 1 = pc') (k : Go p e below P T (mkF m pc' Ls (.int (x - y) :: st))) : Go p e below P T (mkF m pc Ls (.int y :: .int x :: st)) := by
  subst hp
  exact k.of fun t q => XS.isub S.X.here S.ex rfl (S.hd hd) rfl q
theorem Go.lsub (S : St p l e R s m args below meth c Z own bytes nl ret nm h0 ws T h locs cells slots) {x y : Int64} (hd : decode bytes pc = .ok (.lsub, 1)) (hp : pc + 1 = pc') (k : Go p e below P T (mkF m pc' Ls (.long (x - y) :: st))) : Go p e below P T (mkF m pc Ls (.long y :: .long x :: st)) := by
  subst hp
  exact k.of fun t q => XS.lsub S.X.here S.ex rfl (S.hd hd) rfl q
theorem Go.imul (S : St p l e R s m args below meth c Z own bytes nl ret nm h0 ws T h locs cells slots) {x y : Int32} (hd : decode bytes pc = .ok (.imul, 1)) (hp : pc + 1 = pc') (k : Go p e below P T (mkF m pc' Ls (.int (x * y) :: st))) : Go p e below P T (mkF m pc Ls (.int y :: .int x :: st)) := by
  subst hp
  exact k.of fun t q => XS.imul S.X.here S.ex rfl (S.hd hd) rfl q
theorem Go.lmul (S : St p l e R s m args below meth c Z own bytes nl ret nm h0 ws T h locs cells slots) {x y : Int64} (hd : decode bytes pc = .ok (.lmul, 1)) (hp : pc + 1 = pc') (k : Go p e below P T (mkF m pc' Ls (.long (x * y) :: st))) : Go p e below P T (mkF m pc Ls (.long y :: .long x :: st)) := by
  subst hp
  exact k.of fun t q => XS.lmul S.X.here S.ex rfl (S.hd hd) rfl q
theorem Go.iand (S : St p l e R s m args below meth c Z own bytes nl ret nm h0 ws T h locs cells slots) {x y : Int32} (hd : decode bytes pc = .ok (.iand, 1)) (hp : pc + 1 = pc') (k : Go p e below P T (mkF m pc' Ls (.int (x &&& y) :: st))) : Go p e below P T (mkF m pc Ls (.int y :: .int x :: st)) := by
  subst hp
  exact k.of fun t q => XS.iand S.X.here S.ex rfl (S.hd hd) rfl q
theorem Go.land (S : St p l e R s m args below meth c Z own bytes nl ret nm h0 ws T h locs cells slots) {x y : Int64} (hd : decode bytes pc = .ok (.land, 1)) (hp : pc + 1 = pc') (k : Go p e below P T (mkF m pc' Ls (.long (x &&& y) :: st))) : Go p e below P T (mkF m pc Ls (.long y :: .long x :: st)) := by
  subst hp
  exact k.of fun t q => XS.land S.X.here S.ex rfl (S.hd hd) rfl q
theorem Go.ior (S : St p l e R s m args below meth c Z own bytes nl ret nm h0 ws T h locs cells slots) {x y : Int32} (hd : decode bytes pc = .ok (.ior, 1)) (hp : pc + 1 = pc') (k : Go p e below P T (mkF m pc' Ls (.int (x ||| y) :: st))) : Go p e below P T (mkF m pc Ls (.int y :: .int x :: st)) := by
  subst hp
  exact k.of fun t q => XS.ior S.X.here S.ex rfl (S.hd hd) rfl q
theorem Go.lor (S : St p l e R s m args below meth c Z own bytes nl ret nm h0 ws T h locs cells slots) {x y : Int64} (hd : decode bytes pc = .ok (.lor, 1)) (hp : pc + 1 = pc') (k : Go p e below P T (mkF m pc' Ls (.long (x ||| y) :: st))) : Go p e below P T (mkF m pc Ls (.long y :: .long x :: st)) := by
  subst hp
  exact k.of fun t q => XS.lor S.X.here S.ex rfl (S.hd hd) rfl q
theorem Go.ixor (S : St p l e R s m args below meth c Z own bytes nl ret nm h0 ws T h locs cells slots) {x y : Int32} (hd : decode bytes pc = .ok (.ixor, 1)) (hp : pc + 1 = pc') (k : Go p e below P T (mkF m pc' Ls (.int (x ^^^ y) :: st))) : Go p e below P T (mkF m pc Ls (.int y :: .int x :: st)) := by
  subst hp
  exact k.of fun t q => XS.ixor S.X.here S.ex rfl (S.hd hd) rfl q
theorem Go.lxor (S : St p l e R s m args below meth c Z own bytes nl ret nm h0 ws T h locs cells slots) {x y : Int64} (hd : decode bytes pc = .ok (.lxor, 1)) (hp : pc + 1 = pc') (k : Go p e below P T (mkF m pc' Ls (.long (x ^^^ y) :: st))) : Go p e below P T (mkF m pc Ls (.long y :: .long x :: st)) := by
  subst hp
  exact k.of fun t q => XS.lxor S.X.here S.ex rfl (S.hd hd) rfl q
theorem Go.ishl (S : St p l e R s m args below meth c Z own bytes nl ret nm h0 ws T h locs cells slots) {x : Int32} {y : Int32} (hd : decode bytes pc = .ok (.ishl, 1)) (hp : pc + 1 = pc') (k : Go p e below P T (mkF m pc' Ls (.int (x <<< (y &&& 31)) :: st))) : Go p e below P T (mkF m pc Ls (.int y :: .int x :: st)) := by
  subst hp
  exact k.of fun t q => XS.ishl S.X.here S.ex rfl (S.hd hd) rfl q
theorem Go.ishr (S : St p l e R s m args below meth c Z own bytes nl ret nm h0 ws T h locs cells slots) {x : Int32} {y : Int32} (hd : decode bytes pc = .ok (.ishr, 1)) (hp : pc + 1 = pc') (k : Go p e below P T (mkF m pc' Ls (.int (x >>> (y &&& 31)) :: st))) : Go p e below P T (mkF m pc Ls (.int y :: .int x :: st)) := by
  subst hp
  exact k.of fun t q => XS.ishr S.X.here S.ex rfl (S.hd hd) rfl q
theorem Go.iushr (S : St p l e R s m args below meth c Z own bytes nl ret nm h0 ws T h locs cells slots) {x : Int32} {y : Int32} (hd : decode bytes pc = .ok (.iushr, 1)) (hp : pc + 1 = pc') (k : Go p e below P T (mkF m pc' Ls (.int ((x.toUInt32 >>> (y &&& 31).toUInt32).toInt32) :: st))) : Go p e below P T (mkF m pc Ls (.int y :: .int x :: st)) := by
  subst hp
  exact k.of fun t q => XS.iushr S.X.here S.ex rfl (S.hd hd) rfl q
theorem Go.lshl (S : St p l e R s m args below meth c Z own bytes nl ret nm h0 ws T h locs cells slots) {x : Int64} {y : Int32} (hd : decode bytes pc = .ok (.lshl, 1)) (hp : pc + 1 = pc') (k : Go p e below P T (mkF m pc' Ls (.long (x <<< (y &&& 0x3f).toInt64) :: st))) : Go p e below P T (mkF m pc Ls (.int y :: .long x :: st)) := by
  subst hp
  exact k.of fun t q => XS.lshl S.X.here S.ex rfl (S.hd hd) rfl q
theorem Go.lshr (S : St p l e R s m args below meth c Z own bytes nl ret nm h0 ws T h locs cells slots) {x : Int64} {y : Int32} (hd : decode bytes pc = .ok (.lshr, 1)) (hp : pc + 1 = pc') (k : Go p e below P T (mkF m pc' Ls (.long (x >>> (y &&& 0x3f).toInt64) :: st))) : Go p e below P T (mkF m pc Ls (.int y :: .long x :: st)) := by
  subst hp
  exact k.of fun t q => XS.lshr S.X.here S.ex rfl (S.hd hd) rfl q
theorem Go.lushr (S : St p l e R s m args below meth c Z own bytes nl ret nm h0 ws T h locs cells slots) {x : Int64} {y : Int32} (hd : decode bytes pc = .ok (.lushr, 1)) (hp : pc + 1 = pc') (k : Go p e below P T (mkF m pc' Ls (.long ((x.toUInt64 >>> (y &&& 0x3f).toInt64.toUInt64).toInt64) :: st))) : Go p e below P T (mkF m pc Ls (.int y :: .long x :: st)) := by
  subst hp
  exact k.of fun t q => XS.lushr S.X.here S.ex rfl (S.hd hd) rfl q
theorem Go.i2l (S : St p l e R s m args below meth c Z own bytes nl ret nm h0 ws T h locs cells slots) {x : Int32} (hd : decode bytes pc = .ok (.i2l, 1)) (hp : pc + 1 = pc') (k : Go p e below P T (mkF m pc' Ls (.long (x.toInt64) :: st))) : Go p e below P T (mkF m pc Ls (.int x :: st)) := by
  subst hp
  exact k.of fun t q => XS.i2l S.X.here S.ex rfl (S.hd hd) rfl q
theorem Go.l2i (S : St p l e R s m args below meth c Z own bytes nl ret nm h0 ws T h locs cells slots) {x : Int64} (hd : decode bytes pc = .ok (.l2i, 1)) (hp : pc + 1 = pc') (k : Go p e below P T (mkF m pc' Ls (.int (x.toInt32) :: st))) : Go p e below P T (mkF m pc Ls (.long x :: st)) := by
  subst hp
  exact k.of fun t q => XS.l2i S.X.here S.ex rfl (S.hd hd) rfl q
theorem Go.i2b (S : St p l e R s m args below meth c Z own bytes nl ret nm h0 ws T h locs cells slots) {x : Int32} (hd : decode bytes pc = .ok (.i2b, 1)) (hp : pc + 1 = pc') (k : Go p e below P T (mkF m pc' Ls (.int (x.toInt8.toInt32) :: st))) : Go p e below P T (mkF m pc Ls (.int x :: st)) := by
  subst hp
  exact k.of fun t q => XS.i2b S.X.here S.ex rfl (S.hd hd) rfl q
theorem Go.i2s (S : St p l e R s m args below meth c Z own bytes nl ret nm h0 ws T h locs cells slots) {x : Int32} (hd : decode bytes pc = .ok (.i2s, 1)) (hp : pc + 1 = pc') (k : Go p e below P T (mkF m pc' Ls (.int (x.toInt16.toInt32) :: st))) : Go p e below P T (mkF m pc Ls (.int x :: st)) := by
  subst hp
  exact k.of fun t q => XS.i2s S.X.here S.ex rfl (S.hd hd) rfl q
theorem Go.i2c (S : St p l e R s m args below meth c Z own bytes nl ret nm h0 ws T h locs cells slots) {x : Int32} (hd : decode bytes pc = .ok (.i2c, 1)) (hp : pc + 1 = pc') (k : Go p e below P T (mkF m pc' Ls (.int (x.toUInt32.toUInt16.toUInt32.toInt32) :: st))) : Go p e below P T (mkF m pc Ls (.int x :: st)) := by
  subst hp
  exact k.of fun t q => XS.i2c S.X.here S.ex rfl (S.hd hd) rfl q
theorem Go.ineg (S : St p l e R s m args below meth c Z own bytes nl ret nm h0 ws T h locs cells slots) {x : Int32} (hd : decode bytes pc = .ok (.ineg, 1)) (hp : pc + 1 = pc') (k : Go p e below P T (mkF m pc' Ls (.int (-x) :: st))) : Go p e below P T (mkF m pc Ls (.int x :: st)) := by
  subst hp
  exact k.of fun t q => XS.ineg S.X.here S.ex rfl (S.hd hd) rfl q
theorem Go.lneg (S : St p l e R s m args below meth c Z own bytes nl ret nm h0 ws T h locs cells slots) {x : Int64} (hd : decode bytes pc = .ok (.lneg, 1)) (hp : pc + 1 = pc') (k : Go p e below P T (mkF m pc' Ls (.long (-x) :: st))) : Go p e below P T (mkF m pc Ls (.long x :: st)) := by
  subst hp
  exact k.of fun t q => XS.lneg S.X.here S.ex rfl (S.hd hd) rfl q
theorem Go.idiv (S : St p l e R s m args below meth c Z own bytes nl ret nm h0 ws T h locs cells slots) {x y : Int32} (hd : decode bytes pc = .ok (.idiv, 1)) (hy : y ≠ 0) (hp : pc + 1 = pc') (k : Go p e below P T (mkF m pc' Ls (.int (x / y) :: st))) : Go p e below P T (mkF m pc Ls (.int y :: .int x :: st)) := by
  subst hp
  exact k.of fun t q => XS.idiv S.X.here S.ex rfl (S.hd hd) rfl hy q
theorem Go.ldiv (S : St p l e R s m args below meth c Z own bytes nl ret nm h0 ws T h locs cells slots) {x y : Int64} (hd : decode bytes pc = .ok (.ldiv, 1)) (hy : y ≠ 0) (hp : pc + 1 = pc') (k : Go p e below P T (mkF m pc' Ls (.long (x / y) :: st))) : Go p e below P T (mkF m pc Ls (.long y :: .long x :: st)) := by
  subst hp
  exact k.of fun t q => XS.ldiv S.X.here S.ex rfl (S.hd hd) rfl hy q
theorem Go.irem (S : St p l e R s m args below meth c Z own bytes nl ret nm h0 ws T h locs cells slots) {x y : Int32} (hd : decode bytes pc = .ok (.irem, 1)) (hy : y ≠ 0) (hp : pc + 1 = pc') (k : Go p e below P T (mkF m pc' Ls (.int (x % y) :: st))) : Go p e below P T (mkF m pc Ls (.int y :: .int x :: st)) := by
  subst hp
  exact k.of fun t q => Jvm.RoadKit.iremM S.X S.ex rfl (S.hd hd) rfl hy q
theorem Go.lrem (S : St p l e R s m args below meth c Z own bytes nl ret nm h0 ws T h locs cells slots) {x y : Int64} (hd : decode bytes pc = .ok (.lrem, 1)) (hy : y ≠ 0) (hp : pc + 1 = pc') (k : Go p e below P T (mkF m pc' Ls (.long (x % y) :: st))) : Go p e below P T (mkF m pc Ls (.long y :: .long x :: st)) := by
  subst hp
  rw [← lrem_mod] at k
  exact k.of fun t q => XS.lrem S.X.here S.ex rfl (S.hd hd) rfl hy q
theorem Go.iinc (S : St p l e R s m args below meth c Z own bytes nl ret nm h0 ws T h locs cells slots) {k : Nat} {cst : Int} {x : Int32} (hd : decode bytes pc = .ok (.iinc k cst, 3)) (hl : Ls[k]? = some (.val (.int x))) (hl' : storeLocals Ls k (.int (x + Int32.ofInt cst)) = some Ls') (hp : pc + 3 = pc') (k : Go p e below P T (mkF m pc' Ls' st)) : Go p e below P T (mkF m pc Ls st) := by
  subst hp
  exact k.of fun t q => XS.iinc S.X.here S.ex rfl (S.hd hd) hl hl' q
theorem Go.dup (S : St p l e R s m args below meth c Z own bytes nl ret nm h0 ws T h locs cells slots) {x : Value} (hd : decode bytes pc = .ok (.dup, 1)) (hc : x.category = 1) (hp : pc + 1 = pc') (k : Go p e below P T (mkF m pc' Ls (x :: x :: st))) : Go p e below P T (mkF m pc Ls (x :: st)) := by
  subst hp
  exact k.of fun t q => XS.dup S.X.here S.ex rfl (S.hd hd) rfl hc q
theorem Go.pop (S : St p l e R s m args below meth c Z own bytes nl ret nm h0 ws T h locs cells slots) {x : Value} (hd : decode bytes pc = .ok (.pop, 1)) (hc : x.category = 1) (hp : pc + 1 = pc') (k : Go p e below P T (mkF m pc' Ls st)) : Go p e below P T (mkF m pc Ls (x :: st)) := by
  subst hp
  exact k.of fun t q => XS.pop S.X.here S.ex rfl (S.hd hd) rfl hc q
theorem Go.dup_x1 (S : St p l e R s m args below meth c Z own bytes nl ret nm h0 ws T h locs cells slots) {x y : Value} (hd : decode bytes pc = .ok (.dup_x1, 1)) (hc : x.category = 1) (hc' : y.category = 1) (hp : pc + 1 = pc') (k : Go p e below P T (mkF m pc' Ls (x :: y :: x :: st))) : Go p e below P T (mkF m pc Ls (x :: y :: st)) := by
  subst hp
  exact k.of fun t q => XS.dupX1 S.X.here S.ex rfl (S.hd hd) rfl hc hc' q
theorem Go.goto (S : St p l e R s m args below meth c Z own bytes nl ret nm h0 ws T h locs cells slots) {o : Int} (hd : decode bytes pc = .ok (.goto o, 3)) (hp : (pc : Int) + o = (pc' : Int)) (k : Go p e below P T (mkF m pc' Ls st)) : Go p e below P T (mkF m pc Ls st) :=
  k.of fun t q => XS.goto S.X.here S.ex rfl (pc0 := pc) rfl (S.hd hd) (off0 hp) (off1 hp) q
theorem Go.if_eq (S : St p l e R s m args below meth c Z own bytes nl ret nm h0 ws T h locs cells slots) {x : Int32} {o : Int} {pt : Nat} (hd : decode bytes pc = .ok (.ifCond .eq o, 3)) (ht : (pc : Int) + o = (pt : Int)) (hf : pc + 3 = pc') (ky : x = 0 → Go p e below P T (mkF m pt Ls st)) (kn : ¬ x = 0 → Go p e below P T (mkF m pc' Ls st)) : Go p e below P T (mkF m pc Ls (.int x :: st)) := by
  subst hf
  by_cases q : x = 0
  · exact (ky q).of fun t q' => XS.ifYes S.X.here S.ex rfl (pc0 := pc) rfl (S.hd hd) rfl (Jvm.Free.XT.i0_eq_t q) (off0 ht) (off1 ht) q'
  · exact (kn q).of fun t q' => XS.ifNo S.X.here S.ex rfl (S.hd hd) rfl (Jvm.Free.XT.i0_eq_f q) q'
theorem Go.icmp_eq (S : St p l e R s m args below meth c Z own bytes nl ret nm h0 ws T h locs cells slots) {x y : Int32} {o : Int} {pt : Nat} (hd : decode bytes pc = .ok (.if_icmp .eq o, 3)) (ht : (pc : Int) + o = (pt : Int)) (hf : pc + 3 = pc') (ky : x = y → Go p e below P T (mkF m pt Ls st)) (kn : ¬ x = y → Go p e below P T (mkF m pc' Ls st)) : Go p e below P T (mkF m pc Ls (.int y :: .int x :: st)) := by
  subst hf
  by_cases q : x = y
  · exact (ky q).of fun t q' => XS.icmpYes S.X.here S.ex rfl (pc0 := pc) rfl (S.hd hd) rfl (Jvm.Free.XT.ii_eq_t q) (off0 ht) (off1 ht) q'
  · exact (kn q).of fun t q' => XS.icmpNo S.X.here S.ex rfl (S.hd hd) rfl (Jvm.Free.XT.ii_eq_f q) q'
theorem Go.lcmp_eq (S : St p l e R s m args below meth c Z own bytes nl ret nm h0 ws T h locs cells slots) {x y : Int64} {o : Int} {pt : Nat} {pc1 : Nat} (hd1 : decode bytes pc = .ok (.lcmp, 1)) (h1 : pc + 1 = pc1) (hd : decode bytes pc1 = .ok (.ifCond .eq o, 3)) (ht : (pc1 : Int) + o = (pt : Int)) (hf : pc1 + 3 = pc') (ky : x = y → Go p e below P T (mkF m pt Ls st)) (kn : ¬ x = y → Go p e below P T (mkF m pc' Ls st)) : Go p e below P T (mkF m pc Ls (.long y :: .long x :: st)) := by
  subst hf h1
  by_cases q : x = y
  · exact (ky q).of fun t q' => Jvm.Free.XT.lcmp S.X.here S.ex rfl (S.hd hd1) rfl (XS.ifYes S.X.here S.ex rfl (pc0 := pc + 1) rfl (S.hd hd) rfl (Jvm.Free.XT.ll_eq_t q) (off0 ht) (off1 ht) q')
  · exact (kn q).of fun t q' => Jvm.Free.XT.lcmp S.X.here S.ex rfl (S.hd hd1) rfl (XS.ifNo S.X.here S.ex rfl (S.hd hd) rfl (Jvm.Free.XT.ll_eq_f q) q')
theorem Go.if_ne (S : St p l e R s m args below meth c Z own bytes nl ret nm h0 ws T h locs cells slots) {x : Int32} {o : Int} {pt : Nat} (hd : decode bytes pc = .ok (.ifCond .ne o, 3)) (ht : (pc : Int) + o = (pt : Int)) (hf : pc + 3 = pc') (ky : ¬ x = 0 → Go p e below P T (mkF m pt Ls st)) (kn : x = 0 → Go p e below P T (mkF m pc' Ls st)) : Go p e below P T (mkF m pc Ls (.int x :: st)) := by
  subst hf
  by_cases q : x = 0
  · exact (kn q).of fun t q' => XS.ifNo S.X.here S.ex rfl (S.hd hd) rfl (Jvm.Free.XT.i0_ne_f q) q'
  · exact (ky q).of fun t q' => XS.ifYes S.X.here S.ex rfl (pc0 := pc) rfl (S.hd hd) rfl (Jvm.Free.XT.i0_ne_t q) (off0 ht) (off1 ht) q'
theorem Go.icmp_ne (S : St p l e R s m args below meth c Z own bytes nl ret nm h0 ws T h locs cells slots) {x y : Int32} {o : Int} {pt : Nat} (hd : decode bytes pc = .ok (.if_icmp .ne o, 3)) (ht : (pc : Int) + o = (pt : Int)) (hf : pc + 3 = pc') (ky : ¬ x = y → Go p e below P T (mkF m pt Ls st)) (kn : x = y → Go p e below P T (mkF m pc' Ls st)) : Go p e below P T (mkF m pc Ls (.int y :: .int x :: st)) := by
  subst hf
  by_cases q : x = y
  · exact (kn q).of fun t q' => XS.icmpNo S.X.here S.ex rfl (S.hd hd) rfl (Jvm.Free.XT.ii_ne_f q) q'
  · exact (ky q).of fun t q' => XS.icmpYes S.X.here S.ex rfl (pc0 := pc) rfl (S.hd hd) rfl (Jvm.Free.XT.ii_ne_t q) (off0 ht) (off1 ht) q'
theorem Go.lcmp_ne (S : St p l e R s m args below meth c Z own bytes nl ret nm h0 ws T h locs cells slots) {x y : Int64} {o : Int} {pt : Nat} {pc1 : Nat} (hd1 : decode bytes pc = .ok (.lcmp, 1)) (h1 : pc + 1 = pc1) (hd : decode bytes pc1 = .ok (.ifCond .ne o, 3)) (ht : (pc1 : Int) + o = (pt : Int)) (hf : pc1 + 3 = pc') (ky : ¬ x = y → Go p e below P T (mkF m pt Ls st)) (kn : x = y → Go p e below P T (mkF m pc' Ls st)) : Go p e below P T (mkF m pc Ls (.long y :: .long x :: st)) := by
  subst hf h1
  by_cases q : x = y
  · exact (kn q).of fun t q' => Jvm.Free.XT.lcmp S.X.here S.ex rfl (S.hd hd1) rfl (XS.ifNo S.X.here S.ex rfl (S.hd hd) rfl (Jvm.Free.XT.ll_ne_f q) q')
  · exact (ky q).of fun t q' => Jvm.Free.XT.lcmp S.X.here S.ex rfl (S.hd hd1) rfl (XS.ifYes S.X.here S.ex rfl (pc0 := pc + 1) rfl (S.hd hd) rfl (Jvm.Free.XT.ll_ne_t q) (off0 ht) (off1 ht) q')
theorem Go.if_lt (S : St p l e R s m args below meth c Z own bytes nl ret nm h0 ws T h locs cells slots) {x : Int32} {o : Int} {pt : Nat} (hd : decode bytes pc = .ok (.ifCond .lt o, 3)) (ht : (pc : Int) + o = (pt : Int)) (hf : pc + 3 = pc') (ky : x < 0 → Go p e below P T (mkF m pt Ls st)) (kn : ¬ x < 0 → Go p e below P T (mkF m pc' Ls st)) : Go p e below P T (mkF m pc Ls (.int x :: st)) := by
  subst hf
  by_cases q : x < 0
  · exact (ky q).of fun t q' => XS.ifYes S.X.here S.ex rfl (pc0 := pc) rfl (S.hd hd) rfl (Jvm.Free.XT.i0_lt_t q) (off0 ht) (off1 ht) q'
  · exact (kn q).of fun t q' => XS.ifNo S.X.here S.ex rfl (S.hd hd) rfl (Jvm.Free.XT.i0_lt_f q) q'
theorem Go.icmp_lt (S : St p l e R s m args below meth c Z own bytes nl ret nm h0 ws T h locs cells slots) {x y : Int32} {o : Int} {pt : Nat} (hd : decode bytes pc = .ok (.if_icmp .lt o, 3)) (ht : (pc : Int) + o = (pt : Int)) (hf : pc + 3 = pc') (ky : x < y → Go p e below P T (mkF m pt Ls st)) (kn : ¬ x < y → Go p e below P T (mkF m pc' Ls st)) : Go p e below P T (mkF m pc Ls (.int y :: .int x :: st)) := by
  subst hf
  by_cases q : x < y
  · exact (ky q).of fun t q' => XS.icmpYes S.X.here S.ex rfl (pc0 := pc) rfl (S.hd hd) rfl (Jvm.Free.XT.ii_lt_t q) (off0 ht) (off1 ht) q'
  · exact (kn q).of fun t q' => XS.icmpNo S.X.here S.ex rfl (S.hd hd) rfl (Jvm.Free.XT.ii_lt_f q) q'
theorem Go.lcmp_lt (S : St p l e R s m args below meth c Z own bytes nl ret nm h0 ws T h locs cells slots) {x y : Int64} {o : Int} {pt : Nat} {pc1 : Nat} (hd1 : decode bytes pc = .ok (.lcmp, 1)) (h1 : pc + 1 = pc1) (hd : decode bytes pc1 = .ok (.ifCond .lt o, 3)) (ht : (pc1 : Int) + o = (pt : Int)) (hf : pc1 + 3 = pc') (ky : x < y → Go p e below P T (mkF m pt Ls st)) (kn : ¬ x < y → Go p e below P T (mkF m pc' Ls st)) : Go p e below P T (mkF m pc Ls (.long y :: .long x :: st)) := by
  subst hf h1
  by_cases q : x < y
  · exact (ky q).of fun t q' => Jvm.Free.XT.lcmp S.X.here S.ex rfl (S.hd hd1) rfl (XS.ifYes S.X.here S.ex rfl (pc0 := pc + 1) rfl (S.hd hd) rfl (Jvm.Free.XT.ll_lt_t q) (off0 ht) (off1 ht) q')
  · exact (kn q).of fun t q' => Jvm.Free.XT.lcmp S.X.here S.ex rfl (S.hd hd1) rfl (XS.ifNo S.X.here S.ex rfl (S.hd hd) rfl (Jvm.Free.XT.ll_lt_f q) q')
theorem Go.if_ge (S : St p l e R s m args below meth c Z own bytes nl ret nm h0 ws T h locs cells slots) {x : Int32} {o : Int} {pt : Nat} (hd : decode bytes pc = .ok (.ifCond .ge o, 3)) (ht : (pc : Int) + o = (pt : Int)) (hf : pc + 3 = pc') (ky : ¬ x < 0 → Go p e below P T (mkF m pt Ls st)) (kn : x < 0 → Go p e below P T (mkF m pc' Ls st)) : Go p e below P T (mkF m pc Ls (.int x :: st)) := by
  subst hf
  by_cases q : x < 0
  · exact (kn q).of fun t q' => XS.ifNo S.X.here S.ex rfl (S.hd hd) rfl (Jvm.Free.XT.i0_ge_f q) q'
  · exact (ky q).of fun t q' => XS.ifYes S.X.here S.ex rfl (pc0 := pc) rfl (S.hd hd) rfl (Jvm.Free.XT.i0_ge_t q) (off0 ht) (off1 ht) q'
theorem Go.icmp_ge (S : St p l e R s m args below meth c Z own bytes nl ret nm h0 ws T h locs cells slots) {x y : Int32} {o : Int} {pt : Nat} (hd : decode bytes pc = .ok (.if_icmp .ge o, 3)) (ht : (pc : Int) + o = (pt : Int)) (hf : pc + 3 = pc') (ky : ¬ x < y → Go p e below P T (mkF m pt Ls st)) (kn : x < y → Go p e below P T (mkF m pc' Ls st)) : Go p e below P T (mkF m pc Ls (.int y :: .int x :: st)) := by
  subst hf
  by_cases q : x < y
  · exact (kn q).of fun t q' => XS.icmpNo S.X.here S.ex rfl (S.hd hd) rfl (Jvm.Free.XT.ii_ge_f q) q'
  · exact (ky q).of fun t q' => XS.icmpYes S.X.here S.ex rfl (pc0 := pc) rfl (S.hd hd) rfl (Jvm.Free.XT.ii_ge_t q) (off0 ht) (off1 ht) q'
theorem Go.lcmp_ge (S : St p l e R s m args below meth c Z own bytes nl ret nm h0 ws T h locs cells slots) {x y : Int64} {o : Int} {pt : Nat} {pc1 : Nat} (hd1 : decode bytes pc = .ok (.lcmp, 1)) (h1 : pc + 1 = pc1) (hd : decode bytes pc1 = .ok (.ifCond .ge o, 3)) (ht : (pc1 : Int) + o = (pt : Int)) (hf : pc1 + 3 = pc') (ky : ¬ x < y → Go p e below P T (mkF m pt Ls st)) (kn : x < y → Go p e below P T (mkF m pc' Ls st)) : Go p e below P T (mkF m pc Ls (.long y :: .long x :: st)) := by
  subst hf h1
  by_cases q : x < y
  · exact (kn q).of fun t q' => Jvm.Free.XT.lcmp S.X.here S.ex rfl (S.hd hd1) rfl (XS.ifNo S.X.here S.ex rfl (S.hd hd) rfl (Jvm.Free.XT.ll_ge_f q) q')
  · exact (ky q).of fun t q' => Jvm.Free.XT.lcmp S.X.here S.ex rfl (S.hd hd1) rfl (XS.ifYes S.X.here S.ex rfl (pc0 := pc + 1) rfl (S.hd hd) rfl (Jvm.Free.XT.ll_ge_t q) (off0 ht) (off1 ht) q')
theorem Go.if_gt (S : St p l e R s m args below meth c Z own bytes nl ret nm h0 ws T h locs cells slots) {x : Int32} {o : Int} {pt : Nat} (hd : decode bytes pc = .ok (.ifCond .gt o, 3)) (ht : (pc : Int) + o = (pt : Int)) (hf : pc + 3 = pc') (ky : 0 < x → Go p e below P T (mkF m pt Ls st)) (kn : ¬ 0 < x → Go p e below P T (mkF m pc' Ls st)) : Go p e below P T (mkF m pc Ls (.int x :: st)) := by
  subst hf
  by_cases q : 0 < x
  · exact (ky q).of fun t q' => XS.ifYes S.X.here S.ex rfl (pc0 := pc) rfl (S.hd hd) rfl (Jvm.Free.XT.i0_gt_t q) (off0 ht) (off1 ht) q'
  · exact (kn q).of fun t q' => XS.ifNo S.X.here S.ex rfl (S.hd hd) rfl (Jvm.Free.XT.i0_gt_f q) q'
theorem Go.icmp_gt (S : St p l e R s m args below meth c Z own bytes nl ret nm h0 ws T h locs cells slots) {x y : Int32} {o : Int} {pt : Nat} (hd : decode bytes pc = .ok (.if_icmp .gt o, 3)) (ht : (pc : Int) + o = (pt : Int)) (hf : pc + 3 = pc') (ky : y < x → Go p e below P T (mkF m pt Ls st)) (kn : ¬ y < x → Go p e below P T (mkF m pc' Ls st)) : Go p e below P T (mkF m pc Ls (.int y :: .int x :: st)) := by
  subst hf
  by_cases q : y < x
  · exact (ky q).of fun t q' => XS.icmpYes S.X.here S.ex rfl (pc0 := pc) rfl (S.hd hd) rfl (Jvm.Free.XT.ii_gt_t q) (off0 ht) (off1 ht) q'
  · exact (kn q).of fun t q' => XS.icmpNo S.X.here S.ex rfl (S.hd hd) rfl (Jvm.Free.XT.ii_gt_f q) q'
theorem Go.lcmp_gt (S : St p l e R s m args below meth c Z own bytes nl ret nm h0 ws T h locs cells slots) {x y : Int64} {o : Int} {pt : Nat} {pc1 : Nat} (hd1 : decode bytes pc = .ok (.lcmp, 1)) (h1 : pc + 1 = pc1) (hd : decode bytes pc1 = .ok (.ifCond .gt o, 3)) (ht : (pc1 : Int) + o = (pt : Int)) (hf : pc1 + 3 = pc') (ky : y < x → Go p e below P T (mkF m pt Ls st)) (kn : ¬ y < x → Go p e below P T (mkF m pc' Ls st)) : Go p e below P T (mkF m pc Ls (.long y :: .long x :: st)) := by
  subst hf h1
  by_cases q : y < x
  · exact (ky q).of fun t q' => Jvm.Free.XT.lcmp S.X.here S.ex rfl (S.hd hd1) rfl (XS.ifYes S.X.here S.ex rfl (pc0 := pc + 1) rfl (S.hd hd) rfl (Jvm.Free.XT.ll_gt_t q) (off0 ht) (off1 ht) q')
  · exact (kn q).of fun t q' => Jvm.Free.XT.lcmp S.X.here S.ex rfl (S.hd hd1) rfl (XS.ifNo S.X.here S.ex rfl (S.hd hd) rfl (Jvm.Free.XT.ll_gt_f q) q')
theorem Go.if_le (S : St p l e R s m args below meth c Z own bytes nl ret nm h0 ws T h locs cells slots) {x : Int32} {o : Int} {pt : Nat} (hd : decode bytes pc = .ok (.ifCond .le o, 3)) (ht : (pc : Int) + o = (pt : Int)) (hf : pc + 3 = pc') (ky : ¬ 0 < x → Go p e below P T (mkF m pt Ls st)) (kn : 0 < x → Go p e below P T (mkF m pc' Ls st)) : Go p e below P T (mkF m pc Ls (.int x :: st)) := by
  subst hf
  by_cases q : 0 < x
  · exact (kn q).of fun t q' => XS.ifNo S.X.here S.ex rfl (S.hd hd) rfl (Jvm.Free.XT.i0_le_f q) q'
  · exact (ky q).of fun t q' => XS.ifYes S.X.here S.ex rfl (pc0 := pc) rfl (S.hd hd) rfl (Jvm.Free.XT.i0_le_t q) (off0 ht) (off1 ht) q'
theorem Go.icmp_le (S : St p l e R s m args below meth c Z own bytes nl ret nm h0 ws T h locs cells slots) {x y : Int32} {o : Int} {pt : Nat} (hd : decode bytes pc = .ok (.if_icmp .le o, 3)) (ht : (pc : Int) + o = (pt : Int)) (hf : pc + 3 = pc') (ky : ¬ y < x → Go p e below P T (mkF m pt Ls st)) (kn : y < x → Go p e below P T (mkF m pc' Ls st)) : Go p e below P T (mkF m pc Ls (.int y :: .int x :: st)) := by
  subst hf
  by_cases q : y < x
  · exact (kn q).of fun t q' => XS.icmpNo S.X.here S.ex rfl (S.hd hd) rfl (Jvm.Free.XT.ii_le_f q) q'
  · exact (ky q).of fun t q' => XS.icmpYes S.X.here S.ex rfl (pc0 := pc) rfl (S.hd hd) rfl (Jvm.Free.XT.ii_le_t q) (off0 ht) (off1 ht) q'
theorem Go.lcmp_le (S : St p l e R s m args below meth c Z own bytes nl ret nm h0 ws T h locs cells slots) {x y : Int64} {o : Int} {pt : Nat} {pc1 : Nat} (hd1 : decode bytes pc = .ok (.lcmp, 1)) (h1 : pc + 1 = pc1) (hd : decode bytes pc1 = .ok (.ifCond .le o, 3)) (ht : (pc1 : Int) + o = (pt : Int)) (hf : pc1 + 3 = pc') (ky : ¬ y < x → Go p e below P T (mkF m pt Ls st)) (kn : y < x → Go p e below P T (mkF m pc' Ls st)) : Go p e below P T (mkF m pc Ls (.long y :: .long x :: st)) := by
  subst hf h1
  by_cases q : y < x
  · exact (kn q).of fun t q' => Jvm.Free.XT.lcmp S.X.here S.ex rfl (S.hd hd1) rfl (XS.ifNo S.X.here S.ex rfl (S.hd hd) rfl (Jvm.Free.XT.ll_le_f q) q')
  · exact (ky q).of fun t q' => Jvm.Free.XT.lcmp S.X.here S.ex rfl (S.hd hd1) rfl (XS.ifYes S.X.here S.ex rfl (pc0 := pc + 1) rfl (S.hd hd) rfl (Jvm.Free.XT.ll_le_t q) (off0 ht) (off1 ht) q')
theorem Go.acmp_eq (S : St p l e R s m args below meth c Z own bytes nl ret nm h0 ws T h locs cells slots) {x y : Value} {o : Int} {pt : Nat} (hd : decode bytes pc = .ok (.if_acmp .eq o, 3)) (ht : (pc : Int) + o = (pt : Int)) (hf : pc + 3 = pc') (rx : x.isRef = true) (ry : y.isRef = true) (ky : x = y → Go p e below P T (mkF m pt Ls st)) (kn : ¬ x = y → Go p e below P T (mkF m pc' Ls st)) : Go p e below P T (mkF m pc Ls (y :: x :: st)) := by
  subst hf
  by_cases q : x = y
  · exact (ky q).of fun t q' => Jvm.RoadKit.acmp (g := mkF m pc Ls (y :: x :: st)) S.X S.ex rfl rx ry (pc0 := pc) (same := true) rfl (S.hd hd) rfl (decide_eq_true q) (off0 ht) ((off1 ht).symm.trans (if_pos rfl).symm) q'
  · exact (kn q).of fun t q' => Jvm.RoadKit.acmp (g := mkF m pc Ls (y :: x :: st)) S.X S.ex rfl rx ry (pc0 := pc) (same := false) rfl (S.hd hd) rfl (decide_eq_false q) (off0 ht) ((if_neg (fun z => nomatch z)).symm) q'
theorem Go.acmp_ne (S : St p l e R s m args below meth c Z own bytes nl ret nm h0 ws T h locs cells slots) {x y : Value} {o : Int} {pt : Nat} (hd : decode bytes pc = .ok (.if_acmp .ne o, 3)) (ht : (pc : Int) + o = (pt : Int)) (hf : pc + 3 = pc') (rx : x.isRef = true) (ry : y.isRef = true) (ky : ¬ x = y → Go p e below P T (mkF m pt Ls st)) (kn : x = y → Go p e below P T (mkF m pc' Ls st)) : Go p e below P T (mkF m pc Ls (y :: x :: st)) := by
  subst hf
  by_cases q : x = y
  · exact (kn q).of fun t q' => Jvm.RoadKit.acmp (g := mkF m pc Ls (y :: x :: st)) S.X S.ex rfl rx ry (pc0 := pc) (same := true) rfl (S.hd hd) rfl (decide_eq_true q) (off0 ht) ((if_neg (fun z => nomatch z)).symm) q'
  · exact (ky q).of fun t q' => Jvm.RoadKit.acmp (g := mkF m pc Ls (y :: x :: st)) S.X S.ex rfl rx ry (pc0 := pc) (same := false) rfl (S.hd hd) rfl (decide_eq_false q) (off0 ht) ((off1 ht).symm.trans (if_pos rfl).symm) q'
theorem Go.ifnullY (S : St p l e R s m args below meth c Z own bytes nl ret nm h0 ws T h locs cells slots) {o : Int} {pt : Nat} (hd : decode bytes pc = .ok (.ifnull o, 3)) (ht : (pc : Int) + o = (pt : Int)) (k : Go p e below P T (mkF m pt Ls st)) : Go p e below P T (mkF m pc Ls (.null :: st)) :=
  k.of fun t q => XS.ifnullYes S.X.here S.ex rfl (pc0 := pc) rfl (S.hd hd) rfl (off0 ht) (off1 ht) q
theorem Go.ifnullN (S : St p l e R s m args below meth c Z own bytes nl ret nm h0 ws T h locs cells slots) {o : Int} {b : Addr} (hd : decode bytes pc = .ok (.ifnull o, 3)) (hf : pc + 3 = pc') (k : Go p e below P T (mkF m pc' Ls st)) : Go p e below P T (mkF m pc Ls (.ref b :: st)) := by
  subst hf
  exact k.of fun t q => XS.ifnullNo S.X.here S.ex rfl (S.hd hd) rfl q
theorem Go.ifnonnullY (S : St p l e R s m args below meth c Z own bytes nl ret nm h0 ws T h locs cells slots) {o : Int} {pt : Nat} {b : Addr} (hd : decode bytes pc = .ok (.ifnonnull o, 3)) (ht : (pc : Int) + o = (pt : Int)) (k : Go p e below P T (mkF m pt Ls st)) : Go p e below P T (mkF m pc Ls (.ref b :: st)) :=
  k.of fun t q => XS.ifnonnullYes S.X.here S.ex rfl (pc0 := pc) rfl (S.hd hd) rfl (off0 ht) (off1 ht) q
theorem Go.ifnonnullN (S : St p l e R s m args below meth c Z own bytes nl ret nm h0 ws T h locs cells slots) {o : Int} (hd : decode bytes pc = .ok (.ifnonnull o, 3)) (hf : pc + 3 = pc') (k : Go p e below P T (mkF m pc' Ls st)) : Go p e below P T (mkF m pc Ls (.null :: st)) := by
  subst hf
  exact k.of fun t q => XS.ifnonnullNo S.X.here S.ex rfl (S.hd hd) rfl q
theorem Go.ldc (S : St p l e R s m args below meth c Z own bytes nl ret nm h0 ws T h locs cells slots) {index : Nat} {v : Int32} (w : (Jvm.Cond.constant own index v).before a0 Z = true) (hd : decode bytes pc = .ok (.ldc index, 2)) (hp : pc + 2 = pc') (k : Go p e below P T (mkF m pc' Ls (.int v :: st))) : Go p e below P T (mkF m pc Ls st) := by
  subst hp
  exact k.of fun t q => S.X.ldcInt S.ex S.hown (mvT S.hZ w) (g := mkF m pc Ls st) rfl (S.hd hd) _ q
theorem Go.ldc2 (S : St p l e R s m args below meth c Z own bytes nl ret nm h0 ws T h locs cells slots) {index : Nat} {v : Int64} (w : (Jvm.Cond.constantLong own index v).before a0 Z = true) (hd : decode bytes pc = .ok (.ldc2_w index, 3)) (hp : pc + 3 = pc') (k : Go p e below P T (mkF m pc' Ls (.long v :: st))) : Go p e below P T (mkF m pc Ls st) := by
  subst hp
  exact k.of fun t q => S.X.ldc2Long S.ex S.hown (mvT S.hZ w) (g := mkF m pc Ls st) rfl (S.hd hd) _ q
theorem Go.leaves (S : St p l e R s m args below meth c Z own bytes nl ret nm h0 ws T h locs cells slots) {kc ks : Nat} {Q : Option Value → Heap → Prop} {g : JFrame} {v : Option Value} (hv : ret = none → v = none) (hc : cells ≤ kc) (hs : slots ≤ ks)
    (step : ∀ fs : List Frame, (∀ (f : JFrame) (acts : List Action), f.method = m → f.locked = none → f.entered = [] → (doReturn e (T.setTop f) acts v).1 = T.setFrames fs) → Steps p.tables e below (T.setTop g) (T.setFrames fs)) (q : Q v h) : Go p e below (PostOf Z s h0 ws kc ks Q) T g := by
  obtain ⟨fs, hr, hrun, hended, hW, hsame⟩ := S.X.leave (v := v) (fun q => hv (S.hret ▸ q)) S.locks
  refine ⟨_, _, step fs hr, hrun, hended, v, locs, rfl, ⟨S.fr, ?_, ?_, ?_⟩, ⟨_, rfl⟩, hW, hsame.mono hc hs⟩
  · show Keep h0 T.heap ws
    rw [S.eT]; exact S.keep
  · show Ext Z.heap T.heap
    rw [S.eT]; exact S.ext
  · show Q v T.heap
    rw [S.eT]; exact q
theorem St.leaves0 (S : St p l e R s m args below meth c Z own bytes nl ret nm h0 ws T h locs cells slots) {kc ks : Nat} {Q : Option Value → Heap → Prop} {g : JFrame} {w : Value} {t : FieldType} (hret : ret = some t) (hc : cells ≤ kc) (hs : slots ≤ ks) (q : Q (some w) h)
    (step : ∀ fs : List Frame, (∀ (f : JFrame) (acts : List Action), f.method = m → f.locked = none → f.entered = [] → (doReturn e (T.setTop f) acts (some w)).1 = T.setFrames fs) → Steps p.tables e below (T.setTop g) (T.setFrames fs)) : Go p e below (PostOf Z s h0 ws kc ks Q) T g :=
  Go.leaves S (fun q => by rw [hret] at q; cases q) hc hs step q
theorem narrow_ref {t : FieldType} {w : Value} (ht : t.isReference = true) (hw : w.isRef = true) : narrow t w = w := by
  rcases ref_cases hw with rfl | ⟨a, rfl⟩ <;> cases t <;> rfl
theorem Go.ireturn (S : St p l e R s m args below meth c Z own bytes nl ret nm h0 ws T h locs cells slots) {kc ks : Nat} {Q : Option Value → Heap → Prop} {z : Int32} (hret : ret = some .int) (hd : decode bytes pc = .ok (.ireturn, 1)) (hc : cells ≤ kc) (hs : slots ≤ ks) (q : Q (some (.int z)) h) : Go p e below (PostOf Z s h0 ws kc ks Q) T (mkF m pc Ls (.int z :: st)) :=
  S.leaves0 hret hc hs q fun fs hr => retOut S.X S.ex (t := .int) (i := .ireturn) (S.hret.trans hret) rfl (Or.inl ⟨rfl, Or.inl rfl, z, rfl⟩) (S.hd hd) hr
theorem Go.lreturn (S : St p l e R s m args below meth c Z own bytes nl ret nm h0 ws T h locs cells slots) {kc ks : Nat} {Q : Option Value → Heap → Prop} {z : Int64} (hret : ret = some .long) (hd : decode bytes pc = .ok (.lreturn, 1)) (hc : cells ≤ kc) (hs : slots ≤ ks) (q : Q (some (.long z)) h) : Go p e below (PostOf Z s h0 ws kc ks Q) T (mkF m pc Ls (.long z :: st)) :=
  S.leaves0 hret hc hs q fun fs hr => retOut S.X S.ex (t := .long) (i := .lreturn) (S.hret.trans hret) rfl (Or.inr (Or.inl ⟨rfl, rfl, z, rfl⟩)) (S.hd hd) hr
theorem Go.areturn (S : St p l e R s m args below meth c Z own bytes nl ret nm h0 ws T h locs cells slots) {kc ks : Nat} {Q : Option Value → Heap → Prop} {w : Value} {t : FieldType} (hret : ret = some t) (ht : t.isReference = true) (hw : w.isRef = true) (hd : decode bytes pc = .ok (.areturn, 1)) (hc : cells ≤ kc) (hs : slots ≤ ks) (q : Q (some w) h) : Go p e below (PostOf Z s h0 ws kc ks Q) T (mkF m pc Ls (w :: st)) :=
  S.leaves0 hret hc hs q fun fs hr => retOut S.X S.ex (i := .areturn) (S.hret.trans hret) (narrow_ref ht hw) (Or.inr (Or.inr (Or.inr (Or.inr ⟨rfl, ht, hw⟩)))) (S.hd hd) hr
theorem Go.zreturn (S : St p l e R s m args below meth c Z own bytes nl ret nm h0 ws T h locs cells slots) {kc ks : Nat} {Q : Option Value → Heap → Prop} {z z' : Int32} {t : FieldType} (hret : ret = some t) (ht : t = .boolean ∨ t = .byte ∨ t = .char ∨ t = .short) (hd : decode bytes pc = .ok (.ireturn, 1)) (hz : nar t z = z') (hc : cells ≤ kc) (hs : slots ≤ ks) (q : Q (some (.int z')) h) : Go p e below (PostOf Z s h0 ws kc ks Q) T (mkF m pc Ls (.int z :: st)) := by
  subst hz
  exact S.leaves0 hret hc hs q fun fs hr => retN S.X S.ex (S.hret.trans hret) ht (S.hd hd) hr
theorem Go.vreturn (S : St p l e R s m args below meth c Z own bytes nl ret nm h0 ws T h locs cells slots) {kc ks : Nat} {Q : Option Value → Heap → Prop} (hret : ret = none) (hd : decode bytes pc = .ok (.return_, 1)) (hc : cells ≤ kc) (hs : slots ≤ ks) (q : Q none h) : Go p e below (PostOf Z s h0 ws kc ks Q) T (mkF m pc Ls []) :=
  Go.leaves S (fun _ => rfl) hc hs (fun fs hr => S.X.returnOut S.ex (S.hret.trans hret) (S.hd hd) hr) q
theorem Go.getfield (S : St p l e R s m args below meth c Z own bytes nl ret nm h0 ws T h locs cells slots) {R0 O n d host : String} {index : Nat} {a : Addr} {v : Value} (w : ((Jvm.Cond.fieldLink own index R0 n d).before a0 Z = true ∨ (Jvm.Cond.fieldLinkNest own index R0 n d host).before a0 Z = true)) (via : Via Z R0 O n d) (F : Fld Z h a O n d v) (hd : decode bytes pc = .ok (.getfield index, 3)) (hp : pc + 3 = pc')
    (k : ∀ T', St p l e R s m args below meth c Z own bytes nl ret nm h0 ws T' h locs cells slots → Go p e below P T' (mkF m pc' Ls (v :: st))) : Go p e below P T (mkF m pc Ls (.ref a :: st)) := by
  subst hp
  obtain ⟨T', X', e', f⟩ := getF S.X S.ex S.hZ S.hown w via S.eT F (g := mkF m pc Ls (.ref a :: st)) rfl rfl (S.hd hd)
  exact (k T' (S.next X' e' S.fr S.keep S.ext)).of f
theorem Go.getstatic (S : St p l e R s m args below meth c Z own bytes nl ret nm h0 ws T h locs cells slots) {R0 O n d host : String} {index : Nat} {v : Value} (w : ((Jvm.Cond.fieldLink own index R0 n d).before a0 Z = true ∨ (Jvm.Cond.fieldLinkNest own index R0 n d host).before a0 Z = true)) (via : Via Z R0 O n d) (F : Sta Z Z.heap O n d v) (hd : decode bytes pc = .ok (.getstatic index, 3)) (hp : pc + 3 = pc')
    (k : ∀ T', St p l e R s m args below meth c Z own bytes nl ret nm h0 ws T' h locs cells slots → Go p e below P T' (mkF m pc' Ls (v :: st))) : Go p e below P T (mkF m pc Ls st) := by
  subst hp
  obtain ⟨T', X', e', f⟩ := getS2 S.X S.ex S.hZ S.hown w via S.eT (F.ext S.ext) (g := mkF m pc Ls st) rfl (S.hd hd)
  exact (k T' (S.next X' e' S.fr S.keep S.ext)).of f
theorem St.wrote (S : St p l e R s m args below meth c Z own bytes nl ret nm h0 ws T h locs cells slots) {T' : State} {h' : Heap} {a : Addr} {sl : Nat} {v : Value} (X : Stand p l e R s m args below meth c T' (locs ++ [⟨a, sl⟩]) cells slots) (e1 : T'.heap = h') (W : Wr h h' a sl v) (hz : Z.heap.size ≤ a) (hws : a ∈ ws ∨ h0.size ≤ a) : St p l e R s m args below meth c Z own bytes nl ret nm h0 ws T' h' (locs ++ [⟨a, sl⟩]) cells slots :=
  S.next X e1 (Fr.snoc X S.fr hz) (S.keep.wr W hws) (Old.wr (n0 := Z.heap.size) ⟨rfl, S.ext⟩ W hz).2
theorem Go.putfield (S : St p l e R s m args below meth c Z own bytes nl ret nm h0 ws T h locs cells slots) {R0 O n d host C : String} {index kk : Nat} {ty : FieldType} {a : Addr} {v old : Value} (w : ((Jvm.Cond.fieldLink own index R0 n d).before a0 Z = true ∨ (Jvm.Cond.fieldLinkNest own index R0 n d host).before a0 Z = true)) (via : Via Z R0 O n d) (F : Fld Z h a O n d old) (E : Exa Z h a C)
    (L : (Jvm.Cond.lays C O n d).before a0 Z = true ∨ ((Jvm.Cond.laysFinal C O n d).before a0 Z = true ∧ own = O ∧ nm = "<init>")) (wi : (Jvm.Cond.instantiable C kk).before a0 Z = true) (hty : parseFieldDescriptor d = some ty) (hn : narrow ty v = v) (hf : fits ty v = true)
    (hz : Z.heap.size ≤ a) (hws : a ∈ ws ∨ h0.size ≤ a) (hd : decode bytes pc = .ok (.putfield index, 3)) (hp : pc + 3 = pc')
    (k : ∀ T' h' locs', St p l e R s m args below meth c Z own bytes nl ret nm h0 ws T' h' locs' cells slots → Wr h h' a (Jvm.RoadKit.slotOf Z O n d) v → Go p e below P T' (mkF m pc' Ls st)) : Go p e below P T (mkF m pc Ls (v :: .ref a :: st)) := by
  subst hp
  obtain ⟨T', h', X', e', W, f⟩ := putF S.X S.ex S.hZ S.hown w via S.eT F E (L.imp id fun q => ⟨q.1, q.2.1, S.hnm.trans q.2.2⟩) wi hty hn hf (g := mkF m pc Ls (v :: .ref a :: st)) rfl rfl (S.hd hd)
  exact (k T' h' _ (S.wrote X' e' W hz hws) W).of f
theorem Go.putfieldN (S : St p l e R s m args below meth c Z own bytes nl ret nm h0 ws T h locs cells slots) {R0 O n d C : String} {index kk : Nat} {ty : FieldType} {a : Addr} {v v' old : Value} (w : (Jvm.Cond.fieldLink own index R0 n d).before a0 Z = true) (via : Via Z R0 O n d) (F : Fld Z h a O n d old) (E : Exa Z h a C)
    (L : (Jvm.Cond.lays C O n d).before a0 Z = true ∨ ((Jvm.Cond.laysFinal C O n d).before a0 Z = true ∧ own = O ∧ nm = "<init>")) (wi : (Jvm.Cond.instantiable C kk).before a0 Z = true) (hty : parseFieldDescriptor d = some ty) (hn : narrow ty v = v') (hf : fits ty v' = true)
    (hz : Z.heap.size ≤ a) (hws : a ∈ ws ∨ h0.size ≤ a) (hd : decode bytes pc = .ok (.putfield index, 3)) (hp : pc + 3 = pc')
    (k : ∀ T' h' locs', St p l e R s m args below meth c Z own bytes nl ret nm h0 ws T' h' locs' cells slots → Wr h h' a (Jvm.RoadKit.slotOf Z O n d) v' → Go p e below P T' (mkF m pc' Ls st)) : Go p e below P T (mkF m pc Ls (v :: .ref a :: st)) := by
  subst hp
  obtain ⟨T', h', X', e', W, f⟩ := putFN S.X S.ex S.hZ S.hown w via S.eT F E (L.imp id fun q => ⟨q.1, q.2.1, S.hnm.trans q.2.2⟩) wi hty hn hf (g := mkF m pc Ls (v :: .ref a :: st)) rfl rfl (S.hd hd)
  exact (k T' h' _ (S.wrote X' e' W hz hws) W).of f
theorem St.made (S : St p l e R s m args below meth c Z own bytes nl ret nm h0 ws T h locs cells slots) {T' : State} {h' : Heap} {cells' slots' : Nat} (X : Stand p l e R s m args below meth c T' locs cells' slots') (e1 : T'.heap = h') (E : Ext h h') : St p l e R s m args below meth c Z own bytes nl ret nm h0 ws T' h' locs cells' slots' :=
  S.next X e1 S.fr (S.keep.ext E) (Old.ext (n0 := Z.heap.size) ⟨rfl, S.ext⟩ E).2
theorem Go.new (S : St p l e R s m args below meth c Z own bytes nl ret nm h0 ws T h locs cells slots) {C : String} {index n : Nat} (w : (Jvm.Cond.classLink own index C).before a0 Z = true) (wi : (Jvm.Cond.instantiable C n).before a0 Z = true) (wz : (Jvm.Cond.initialized C).before a0 Z = true) (hd : decode bytes pc = .ok (.new index, 3)) (hc : cells + 1 ≤ R.cells) (hl : slots + n ≤ R.slots) (hp : pc + 3 = pc')
    (k : ∀ T' h' a, St p l e R s m args below meth c Z own bytes nl ret nm h0 ws T' h' locs (cells + 1) (slots + n) → Ext h h' → h.size = a → Z.heap.size ≤ a → h0.size ≤ a → Exa Z h' a C → (∀ {O nm d : String} {ty : FieldType}, Laid Z a0 C O nm d → parseFieldDescriptor d = some ty → Fld Z h' a O nm d (defaultValue ty)) → Go p e below P T' (mkF m pc' Ls (.ref a :: st))) : Go p e below P T (mkF m pc Ls st) := by
  subst hp
  obtain ⟨T', h', X', e', E, A, D, -, f⟩ := newO S.X S.ex S.hZ S.hown w wi wz S.eT (g := mkF m pc Ls st) rfl (S.hd hd) hc hl
  exact (k T' h' h.size (S.made X' e' E) E rfl S.ext.1 S.keep.1 A D).of f
theorem Go.newarray (S : St p l e R s m args below meth c Z own bytes nl ret nm h0 ws T h locs cells slots) {aty : ArrayType} {n : Int32} {cap : Nat} {ty : FieldType} {dv : Value} (hty : newarray.typeOf aty = ty) (hdv : defaultValue ty = dv) (w : (Jvm.Cond.arrayClass ty).before a0 Z = true) (hd : decode bytes pc = .ok (.newarray aty, 2)) (hn : ¬ n < 0) (hcap : n.toNatClampNeg ≤ cap) (hb : cap * 8 ≤ 536870912) (hc : cells + 1 ≤ R.cells) (hl : slots + cap ≤ R.slots) (hp : pc + 2 = pc')
    (k : ∀ T' h' a cA, St p l e R s m args below meth c Z own bytes nl ret nm h0 ws T' h' locs (cells + 1) (slots + cap) → Ext h h' → h.size = a → Z.heap.size ≤ a → h0.size ≤ a → Arv Z h' a cA ty n (List.replicate cap dv) dv → Go p e below P T' (mkF m pc' Ls (.ref a :: st))) : Go p e below P T (mkF m pc Ls (.int n :: st)) := by
  subst hp hty hdv
  obtain ⟨T', h', cA, X', e', E, A, f⟩ := newP S.X S.ex S.hZ w S.eT (g := mkF m pc Ls (.int n :: st)) rfl (S.hd hd) rfl hn hcap hb hc hl
  exact (k T' h' h.size cA (S.made X' e' E) E rfl S.ext.1 S.keep.1 ((Arv.new A hn).pad (pad_rep [] _ cap))).of f
theorem Go.anewarray (S : St p l e R s m args below meth c Z own bytes nl ret nm h0 ws T h locs cells slots) {C : String} {index : Nat} {n : Int32} {cap : Nat} (w1 : (Jvm.Cond.classLink own index C).before a0 Z = true) (w2 : (Jvm.Cond.arrayOver (.object C)).before a0 Z = true) (hd : decode bytes pc = .ok (.anewarray index, 3)) (hn : ¬ n < 0) (hcap : n.toNatClampNeg ≤ cap) (hb : cap * 8 ≤ 536870912) (hc : cells + 1 ≤ R.cells) (hl : slots + cap ≤ R.slots) (hp : pc + 3 = pc')
    (k : ∀ T' h' a cA, St p l e R s m args below meth c Z own bytes nl ret nm h0 ws T' h' locs (cells + 1) (slots + cap) → Ext h h' → h.size = a → Z.heap.size ≤ a → h0.size ≤ a → Arv Z h' a cA (.object C) n (List.replicate cap .null) .null → Ovr Z cA C → Go p e below P T' (mkF m pc' Ls (.ref a :: st))) : Go p e below P T (mkF m pc Ls (.int n :: st)) := by
  subst hp
  obtain ⟨T', h', cA, X', e', E, A, O, f⟩ := newR S.X S.ex S.hZ S.hown w1 w2 S.eT (g := mkF m pc Ls (.int n :: st)) rfl (S.hd hd) rfl hn hcap hb hc hl
  exact (k T' h' h.size cA (S.made X' e' E) E rfl S.ext.1 S.keep.1 ((Arv.new A hn).pad (pad_rep [] _ cap)) O).of f
theorem Go.iastore (S : St p l e R s m args below meth c Z own bytes nl ret nm h0 ws T h locs cells slots) {a : Addr} {kA : ClassId} {n j : Int32} {x : Int32} {vs : List Value} {dv : Value} {i : Nat} (V : Arv Z h a kA .int n vs dv) (hj : ¬ j < 0 ∧ j < n) (hi : j.toNatClampNeg = i) (hl : i < vs.length) (hz : Z.heap.size ≤ a) (hws : a ∈ ws ∨ h0.size ≤ a) (hd : decode bytes pc = .ok (.iastore, 1)) (hp : pc + 1 = pc')
    (k : ∀ T' h' locs', St p l e R s m args below meth c Z own bytes nl ret nm h0 ws T' h' locs' cells slots → Wr h h' a j.toNatClampNeg (.int x) → Arv Z h' a kA .int n (vs.set i (.int x)) dv → Go p e below P T' (mkF m pc' Ls st)) : Go p e below P T (mkF m pc Ls (.int x :: .int j :: .ref a :: st)) := by
  subst hp
  obtain ⟨cl, A, q1, q2, q3, H, F⟩ := V
  obtain ⟨T', h', X', e', W, f⟩ := stI S.X S.ex S.hZ S.eT A (j := j) (x := x) (inb_of q2 hj) (g := mkF m pc Ls (.int x :: .int j :: .ref a :: st)) rfl rfl (S.hd hd)
  exact (k T' h' _ (S.wrote X' e' W hz hws) W (Arv.set A q1 q2 q3 H F rfl W i hi hl)).of f
theorem Go.castore (S : St p l e R s m args below meth c Z own bytes nl ret nm h0 ws T h locs cells slots) {a : Addr} {kA : ClassId} {n j : Int32} {x : Int32} {vs : List Value} {dv : Value} {i : Nat} (V : Arv Z h a kA .char n vs dv) (hj : ¬ j < 0 ∧ j < n) (hi : j.toNatClampNeg = i) (hl : i < vs.length) (hz : Z.heap.size ≤ a) (hws : a ∈ ws ∨ h0.size ≤ a) (hd : decode bytes pc = .ok (.castore, 1)) (hp : pc + 1 = pc')
    (k : ∀ T' h' locs', St p l e R s m args below meth c Z own bytes nl ret nm h0 ws T' h' locs' cells slots → Wr h h' a j.toNatClampNeg (.int (nar .char x)) → Arv Z h' a kA .char n (vs.set i (.int (nar .char x))) dv → Go p e below P T' (mkF m pc' Ls st)) : Go p e below P T (mkF m pc Ls (.int x :: .int j :: .ref a :: st)) := by
  subst hp
  obtain ⟨cl, A, q1, q2, q3, H, F⟩ := V
  obtain ⟨T', h', X', e', W, f⟩ := stC S.X S.ex S.hZ S.eT A (j := j) (x := x) (inb_of q2 hj) (g := mkF m pc Ls (.int x :: .int j :: .ref a :: st)) rfl rfl (S.hd hd)
  exact (k T' h' _ (S.wrote X' e' W hz hws) W (Arv.set A q1 q2 q3 H F (fits_nar_char _) W i hi hl)).of f
theorem Go.bastore (S : St p l e R s m args below meth c Z own bytes nl ret nm h0 ws T h locs cells slots) {a : Addr} {kA : ClassId} {n j : Int32} {x : Int32} {vs : List Value} {dv : Value} {i : Nat} (V : Arv Z h a kA .byte n vs dv) (hj : ¬ j < 0 ∧ j < n) (hi : j.toNatClampNeg = i) (hl : i < vs.length) (hz : Z.heap.size ≤ a) (hws : a ∈ ws ∨ h0.size ≤ a) (hd : decode bytes pc = .ok (.bastore, 1)) (hp : pc + 1 = pc')
    (k : ∀ T' h' locs', St p l e R s m args below meth c Z own bytes nl ret nm h0 ws T' h' locs' cells slots → Wr h h' a j.toNatClampNeg (.int (nar .byte x)) → Arv Z h' a kA .byte n (vs.set i (.int (nar .byte x))) dv → Go p e below P T' (mkF m pc' Ls st)) : Go p e below P T (mkF m pc Ls (.int x :: .int j :: .ref a :: st)) := by
  subst hp
  obtain ⟨cl, A, q1, q2, q3, H, F⟩ := V
  obtain ⟨T', h', X', e', W, f⟩ := stB S.X S.ex S.hZ S.eT A (j := j) (x := x) (inb_of q2 hj) (g := mkF m pc Ls (.int x :: .int j :: .ref a :: st)) rfl rfl (S.hd hd)
  exact (k T' h' _ (S.wrote X' e' W hz hws) W (Arv.set A q1 q2 q3 H F (fits_nar_byte _) W i hi hl)).of f
theorem Go.lastore (S : St p l e R s m args below meth c Z own bytes nl ret nm h0 ws T h locs cells slots) {a : Addr} {kA : ClassId} {n j : Int32} {x : Int64} {vs : List Value} {dv : Value} {i : Nat} (V : Arv Z h a kA .long n vs dv) (hj : ¬ j < 0 ∧ j < n) (hi : j.toNatClampNeg = i) (hl : i < vs.length) (hz : Z.heap.size ≤ a) (hws : a ∈ ws ∨ h0.size ≤ a) (hd : decode bytes pc = .ok (.lastore, 1)) (hp : pc + 1 = pc')
    (k : ∀ T' h' locs', St p l e R s m args below meth c Z own bytes nl ret nm h0 ws T' h' locs' cells slots → Wr h h' a j.toNatClampNeg (.long x) → Arv Z h' a kA .long n (vs.set i (.long x)) dv → Go p e below P T' (mkF m pc' Ls st)) : Go p e below P T (mkF m pc Ls (.long x :: .int j :: .ref a :: st)) := by
  subst hp
  obtain ⟨cl, A, q1, q2, q3, H, F⟩ := V
  obtain ⟨T', h', X', e', W, f⟩ := stJ S.X S.ex S.hZ S.eT A (j := j) (x := x) (inb_of q2 hj) (g := mkF m pc Ls (.long x :: .int j :: .ref a :: st)) rfl rfl (S.hd hd)
  exact (k T' h' _ (S.wrote X' e' W hz hws) W (Arv.set A q1 q2 q3 H F rfl W i hi hl)).of f
theorem Go.aastore (S : St p l e R s m args below meth c Z own bytes nl ret nm h0 ws T h locs cells slots) {a : Addr} {kA : ClassId} {ty : FieldType} {n j : Int32} {v : Value} {vs : List Value} {dv : Value} {i : Nat} (V : Arv Z h a kA ty n vs dv) (hty : ty.isReference = true) (hj : ¬ j < 0 ∧ j < n) (hi : j.toNatClampNeg = i) (hl : i < vs.length) (hfit : fits ty v = true) (F : Sto Z h a v) (hz : Z.heap.size ≤ a) (hws : a ∈ ws ∨ h0.size ≤ a) (hd : decode bytes pc = .ok (.aastore, 1)) (hp : pc + 1 = pc')
    (k : ∀ T' h' locs', St p l e R s m args below meth c Z own bytes nl ret nm h0 ws T' h' locs' cells slots → Wr h h' a j.toNatClampNeg v → Arv Z h' a kA ty n (vs.set i v) dv → Go p e below P T' (mkF m pc' Ls st)) : Go p e below P T (mkF m pc Ls (v :: .int j :: .ref a :: st)) := by
  subst hp
  obtain ⟨cl, A, q1, q2, q3, H, F'⟩ := V
  obtain ⟨T', h', X', e', W, f⟩ := stR S.X S.ex S.hZ S.eT A (j := j) (v := v) (inb_of q2 hj) hty F (g := mkF m pc Ls (v :: .int j :: .ref a :: st)) rfl rfl (S.hd hd)
  exact (k T' h' _ (S.wrote X' e' W hz hws) W (Arv.set A q1 q2 q3 H F' hfit W i hi hl)).of f
theorem Go.iaload (S : St p l e R s m args below meth c Z own bytes nl ret nm h0 ws T h locs cells slots) {a : Addr} {kA : ClassId} {n j : Int32} {v : Value} {vs : List Value} {dv : Value} (V : Arv Z h a kA .int n vs dv) (hj : ¬ j < 0 ∧ j < n) (hv : vs.getD j.toNatClampNeg dv = v) (hd : decode bytes pc = .ok (.iaload, 1)) (hp : pc + 1 = pc') (k : Go p e below P T (mkF m pc' Ls (v :: st))) : Go p e below P T (mkF m pc Ls (.int j :: .ref a :: st)) := by
  subst hp
  obtain ⟨cl, A, q1, q2, q3, H, F⟩ := V
  exact k.of fun t q => S.X.iaload S.ex (j := j) (v := v) (by rw [S.eT]; exact A.1) (State.isArrayOf_alike S.hZ.alike A.2.1) A.2.2 (inb_of q2 hj) (H.at (inb_of q2 hj) hv) (g := mkF m pc Ls (.int j :: .ref a :: st)) rfl rfl (S.hd hd) _ q
theorem Go.laload (S : St p l e R s m args below meth c Z own bytes nl ret nm h0 ws T h locs cells slots) {a : Addr} {kA : ClassId} {n j : Int32} {v : Value} {vs : List Value} {dv : Value} (V : Arv Z h a kA .long n vs dv) (hj : ¬ j < 0 ∧ j < n) (hv : vs.getD j.toNatClampNeg dv = v) (hd : decode bytes pc = .ok (.laload, 1)) (hp : pc + 1 = pc') (k : Go p e below P T (mkF m pc' Ls (v :: st))) : Go p e below P T (mkF m pc Ls (.int j :: .ref a :: st)) := by
  subst hp
  obtain ⟨cl, A, q1, q2, q3, H, F⟩ := V
  exact k.of fun t q => S.X.laload S.ex (j := j) (v := v) (by rw [S.eT]; exact A.1) (State.isArrayOf_alike S.hZ.alike A.2.1) A.2.2 (inb_of q2 hj) (H.at (inb_of q2 hj) hv) (g := mkF m pc Ls (.int j :: .ref a :: st)) rfl rfl (S.hd hd) _ q
theorem Go.caload (S : St p l e R s m args below meth c Z own bytes nl ret nm h0 ws T h locs cells slots) {a : Addr} {kA : ClassId} {n j : Int32} {v : Value} {vs : List Value} {dv : Value} (V : Arv Z h a kA .char n vs dv) (hj : ¬ j < 0 ∧ j < n) (hv : vs.getD j.toNatClampNeg dv = v) (hd : decode bytes pc = .ok (.caload, 1)) (hp : pc + 1 = pc') (k : Go p e below P T (mkF m pc' Ls (v :: st))) : Go p e below P T (mkF m pc Ls (.int j :: .ref a :: st)) := by
  subst hp
  obtain ⟨cl, A, q1, q2, q3, H, F⟩ := V
  exact k.of fun t q => S.X.caload S.ex (j := j) (v := v) (by rw [S.eT]; exact A.1) (State.isArrayOf_alike S.hZ.alike A.2.1) A.2.2 (inb_of q2 hj) (H.at (inb_of q2 hj) hv) (g := mkF m pc Ls (.int j :: .ref a :: st)) rfl rfl (S.hd hd) _ q
theorem Go.baload (S : St p l e R s m args below meth c Z own bytes nl ret nm h0 ws T h locs cells slots) {a : Addr} {kA : ClassId} {n j : Int32} {v : Value} {vs : List Value} {dv : Value} (V : Arv Z h a kA .byte n vs dv) (hj : ¬ j < 0 ∧ j < n) (hv : vs.getD j.toNatClampNeg dv = v) (hd : decode bytes pc = .ok (.baload, 1)) (hp : pc + 1 = pc') (k : Go p e below P T (mkF m pc' Ls (v :: st))) : Go p e below P T (mkF m pc Ls (.int j :: .ref a :: st)) := by
  subst hp
  obtain ⟨cl, A, q1, q2, q3, H, F⟩ := V
  exact k.of fun t q => S.X.baloadBytes S.ex (j := j) (v := v) (by rw [S.eT]; exact A.1) (State.isArrayOf_alike S.hZ.alike A.2.1) A.2.2 (inb_of q2 hj) (H.at (inb_of q2 hj) hv) (g := mkF m pc Ls (.int j :: .ref a :: st)) rfl rfl (S.hd hd) _ q
theorem Go.aaload (S : St p l e R s m args below meth c Z own bytes nl ret nm h0 ws T h locs cells slots) {a : Addr} {kA : ClassId} {ty : FieldType} {n j : Int32} {v : Value} {vs : List Value} {dv : Value} (V : Arv Z h a kA ty n vs dv) (hty : ty.isReference = true) (hj : ¬ j < 0 ∧ j < n) (hv : vs.getD j.toNatClampNeg dv = v) (hd : decode bytes pc = .ok (.aaload, 1)) (hp : pc + 1 = pc') (k : Go p e below P T (mkF m pc' Ls (v :: st))) : Go p e below P T (mkF m pc Ls (.int j :: .ref a :: st)) := by
  subst hp
  obtain ⟨cl, A, q1, q2, q3, H, F⟩ := V
  exact k.of fun t q => S.X.aaload S.ex (j := j) (v := v) (by rw [S.eT]; exact A.1) (State.isArrayOf_alike S.hZ.alike A.2.1) hty A.2.2 (inb_of q2 hj) (H.at (inb_of q2 hj) hv) (g := mkF m pc Ls (.int j :: .ref a :: st)) rfl rfl (S.hd hd) _ q
theorem Go.arraylength (S : St p l e R s m args below meth c Z own bytes nl ret nm h0 ws T h locs cells slots) {a : Addr} {kA : ClassId} {ty : FieldType} {n : Int32} {vs : List Value} {dv : Value} (V : Arv Z h a kA ty n vs dv) (hd : decode bytes pc = .ok (.arraylength, 1)) (hp : pc + 1 = pc') (k : Go p e below P T (mkF m pc' Ls (.int n :: st))) : Go p e below P T (mkF m pc Ls (.ref a :: st)) := by
  subst hp
  obtain ⟨cl, A, q1, q2, q3, H, F⟩ := V
  exact k.of fun t q => S.X.arraylength S.ex (by rw [S.eT]; exact A.1) (State.isArrayOf_alike S.hZ.alike A.2.1) (g := mkF m pc Ls (.ref a :: st)) rfl rfl (S.hd hd) _ (by rw [len_of q2 q3]; exact q)
theorem Go.initObject (S : St p l e R s m args below meth c Z own bytes nl ret nm h0 ws T h locs cells slots) {idx : Nat} {a : Addr} {W : Nat} (w1 : (Jvm.Cond.methodLink own idx Lib.objectInit).before a0 Z = true) (w2 : (Jvm.Cond.instanceMethod Lib.objectInit).before a0 Z = true) (w3 : (Jvm.Cond.code Lib.objectInit ⟨#[0xb1]⟩ 1 none).before a0 Z = true) (hd : decode bytes pc = .ok (.invokespecial idx, 3)) (hsz : Ls.size = nl) (hf : 1 ≤ R.frames) (hW : (st.map fun v => v.category).sum = W) (hl : W + 12 ≤ R.locals) (hp : pc + 3 = pc')
    (k : ∀ T', St p l e R s m args below meth c Z own bytes nl ret nm h0 ws T' h locs cells slots → Go p e below P T' (mkF m pc' Ls st)) : Go p e below P T (mkF m pc Ls (.ref a :: st)) := by
  subst hp
  obtain ⟨T', X', e', f⟩ := initO S.X S.ex S.hZ S.hown w1 w2 w3 S.eT (g := mkF m pc Ls (.ref a :: st)) rfl (hsz.trans S.hnl.symm) rfl (S.hd hd) hf (W := W) (by show 2 * 0 + _ ≤ _; rw [hW]; omega) hl
  exact (k T' (S.next X' e' S.fr S.keep S.ext)).of f
theorem Go.checkcast (S : St p l e R s m args below meth c Z own bytes nl ret nm h0 ws T h locs cells slots) {C : String} {index : Nat} {a : Addr} (w : (Jvm.Cond.classLink own index C).before a0 Z = true) (F : Ins Z h a C true) (hd : decode bytes pc = .ok (.checkcast index, 3)) (hp : pc + 3 = pc')
    (k : ∀ T', St p l e R s m args below meth c Z own bytes nl ret nm h0 ws T' h locs cells slots → Go p e below P T' (mkF m pc' Ls (.ref a :: st))) : Go p e below P T (mkF m pc Ls (.ref a :: st)) := by
  subst hp
  obtain ⟨T', X', e', f⟩ := castY S.X S.ex S.hZ S.hown w S.eT F (g := mkF m pc Ls (.ref a :: st)) rfl rfl (S.hd hd)
  exact (k T' (S.next X' e' S.fr S.keep S.ext)).of f
theorem Go.instanceofY (S : St p l e R s m args below meth c Z own bytes nl ret nm h0 ws T h locs cells slots) {C : String} {index : Nat} {a : Addr} (w : (Jvm.Cond.classLink own index C).before a0 Z = true) (F : Ins Z h a C true) (hd : decode bytes pc = .ok (.instanceof index, 3)) (hp : pc + 3 = pc')
    (k : ∀ T', St p l e R s m args below meth c Z own bytes nl ret nm h0 ws T' h locs cells slots → Go p e below P T' (mkF m pc' Ls (.int 1 :: st))) : Go p e below P T (mkF m pc Ls (.ref a :: st)) := by
  subst hp
  obtain ⟨T', X', e', f⟩ := instY S.X S.ex S.hZ S.hown w S.eT F (g := mkF m pc Ls (.ref a :: st)) rfl rfl (S.hd hd)
  exact (k T' (S.next X' e' S.fr S.keep S.ext)).of f
theorem Go.invokestatic (S : St p l e R s m args below meth c Z own bytes nl ret nm h0 ws T h locs cells slots) {y : MethodName} {bytes' : ByteArray} {nl' : Nat} {ret' : Option FieldType} {rm : Room} {as' : Array Value} {ws' : List Addr} {Q' : Option Value → Heap → Prop} {index W : Nat} {ps : List FieldType} {r : Option FieldType} {argsL : List Value} (M : OMeets l Z y bytes' nl' ret' rm as' h ws' Q') (w1 : (Jvm.Cond.methodLink own index y).before a0 Z = true) (w2 : (Jvm.Cond.static y).before a0 Z = true) (w3 : (Jvm.Cond.initialized y.cls).before a0 Z = true) (w4 : (Jvm.Cond.code y bytes' nl' ret').before a0 Z = true) (hy : y.cls ≠ "java/lang/invoke/MethodHandle" ∧ y.cls ≠ "java/lang/invoke/VarHandle") (hd : decode bytes pc = .ok (.invokestatic index, 3)) (hsz : Ls.size = nl) (hlen : parseMethodDescriptor y.desc = some ⟨ps, r⟩) (hn : argsL.length = ps.length) (has : argsL.toArray = as') {stk : List Value} (hstk : stk = argsL.reverse ++ st) (hf : rm.frames + 1 ≤ R.frames) (hW : (st.map fun v => v.category).sum = W) (hl : W + (nl' + 11) + rm.locals ≤ R.locals) (hc : cells + rm.cells ≤ R.cells) (hs : slots + rm.slots ≤ R.slots) (hws : ∀ x ∈ ws', x ∈ ws ∨ h0.size ≤ x) (hp : pc + 3 = pc')
    (k : ∀ v T' h' locs', St p l e R s m args below meth c Z own bytes nl ret nm h0 ws T' h' locs' (cells + rm.cells) (slots + rm.slots) → Keep h h' ws' → Q' v h' → Go p e below P T' (mkF m pc' Ls (v.toList ++ st))) : Go p e below P T (mkF m pc Ls stk) := by
  subst hp hstk
  obtain ⟨v, _, ⟨T', L', k', n'⟩, -, X', ⟨L, hQ, l1, l2, l3⟩, f⟩ := Jvm.LawKit.callS S.X S.ex S.hown (mvT S.hZ w1) (mvT S.hZ w2) (mvT S.hZ w3) (mvT S.hZ w4) hy (backOf (Q := fun v U L => Fr Z.heap.size L ∧ Keep h U ws' ∧ Ext Z.heap U ∧ Q' v U) (W := W) (M []) S.hZ w4 w3 hf hl) (g := mkF m pc Ls (argsL.reverse ++ st)) rfl (hsz.trans S.hnl.symm) (argsL := argsL) (rest := st) (lenOf hlen hn) rfl (by show 2 * 0 + _ ≤ _; rw [hW]; omega) (S.hd hd) (fun _ _ => ⟨has, S.eT, hc, hs⟩)
  dsimp only [Pt.U, Pt.locs, Pt.cells, Pt.slots] at X' l1 l2 l3 hQ f
  subst l1 l2 l3
  obtain ⟨N, K', E', q⟩ := hQ
  exact (k v T' T'.heap _ (S.next X' rfl (S.fr.app N) (S.keep.trans K' hws) E') K' q).of f
theorem Go.invokespecial (S : St p l e R s m args below meth c Z own bytes nl ret nm h0 ws T h locs cells slots) {y : MethodName} {bytes' : ByteArray} {nl' : Nat} {ret' : Option FieldType} {rm : Room} {as' : Array Value} {ws' : List Addr} {Q' : Option Value → Heap → Prop} {index W : Nat} {ps : List FieldType} {r : Option FieldType} {argsL : List Value} {a : Addr} (M : OMeets l Z y bytes' nl' ret' rm as' h ws' Q') (hi : y.name = "<init>") (hr0 : ret' = none) (w1 : (Jvm.Cond.methodLink own index y).before a0 Z = true) (w2 : (Jvm.Cond.instanceMethod y).before a0 Z = true) (w3 : (Jvm.Cond.initialized y.cls).before a0 Z = true) (w4 : (Jvm.Cond.code y bytes' nl' ret').before a0 Z = true) (hy : y.cls ≠ "java/lang/invoke/MethodHandle" ∧ y.cls ≠ "java/lang/invoke/VarHandle") (hd : decode bytes pc = .ok (.invokespecial index, 3)) (hsz : Ls.size = nl) (hlen : parseMethodDescriptor y.desc = some ⟨ps, r⟩) (hn : argsL.length = ps.length) (has : (.ref a :: argsL).toArray = as') {stk : List Value} (hstk : stk = argsL.reverse ++ .ref a :: st) (hf : rm.frames + 1 ≤ R.frames) (hW : (st.map fun v => v.category).sum = W) (hl : W + (nl' + 11) + rm.locals ≤ R.locals) (hc : cells + rm.cells ≤ R.cells) (hs : slots + rm.slots ≤ R.slots) (hws : ∀ x ∈ ws', x ∈ ws ∨ h0.size ≤ x) (hp : pc + 3 = pc')
    (k : ∀ v T' h' locs', St p l e R s m args below meth c Z own bytes nl ret nm h0 ws T' h' locs' (cells + rm.cells) (slots + rm.slots) → Keep h h' ws' → Q' v h' → Go p e below P T' (mkF m pc' Ls (v.toList ++ st))) : Go p e below P T (mkF m pc Ls stk) := by
  subst hp hstk hr0
  obtain ⟨v, _, ⟨T', L', k', n'⟩, -, X', ⟨L, hQ, l1, l2, l3⟩, f⟩ := S.X.specialBack S.ex hi S.hown (mvT S.hZ w1) (mvT S.hZ w2) (mvT S.hZ w4) hy (backOf (Q := fun v U L => Fr Z.heap.size L ∧ Keep h U ws' ∧ Ext Z.heap U ∧ Q' v U) (W := W) (M []) S.hZ w4 w3 hf hl) (g := mkF m pc Ls (argsL.reverse ++ .ref a :: st)) rfl (hsz.trans S.hnl.symm) (Steps.refl _) (a := a) (argsL := argsL) (rest := st) (lenOf hlen hn) rfl (by show 2 * 0 + _ ≤ _; rw [hW]; omega) (S.hd hd) (fun _ _ => ⟨has, S.eT, hc, hs⟩)
  dsimp only [Pt.U, Pt.locs, Pt.cells, Pt.slots] at X' l1 l2 l3 hQ f
  subst l1 l2 l3
  obtain ⟨N, K', E', q⟩ := hQ
  exact (k v T' T'.heap _ (S.next X' rfl (S.fr.app N) (S.keep.trans K' hws) E') K' q).of fun t q => f.trans q
theorem Go.invokevirtual (S : St p l e R s m args below meth c Z own bytes nl ret nm h0 ws T h locs cells slots) {y : MethodName} {bytes' : ByteArray} {nl' : Nat} {ret' : Option FieldType} {rm : Room} {as' : Array Value} {ws' : List Addr} {Q' : Option Value → Heap → Prop} {index W : Nat} {ps : List FieldType} {r : Option FieldType} {argsL : List Value} {a : Addr} {x : MethodName} {C : String} (M : OMeets l Z y bytes' nl' ret' rm as' h ws' Q') (w1 : (Jvm.Cond.methodLink own index x).before a0 Z = true) (w2 : (Jvm.Cond.declares x).before a0 Z = true) (hnf : NotFace s x) (w5 : (Jvm.Cond.selects C x y).before a0 Z = true) (w6 : (Jvm.Cond.instanceMethod y).before a0 Z = true) (w3 : (Jvm.Cond.initialized y.cls).before a0 Z = true) (w4 : (Jvm.Cond.code y bytes' nl' ret').before a0 Z = true) (hy : x.cls ≠ "java/lang/invoke/MethodHandle" ∧ x.cls ≠ "java/lang/invoke/VarHandle") (E : Exa Z h a C) (hd : decode bytes pc = .ok (.invokevirtual index, 3)) (hsz : Ls.size = nl) (hlen : parseMethodDescriptor x.desc = some ⟨ps, r⟩) (hn : argsL.length = ps.length) (has : (.ref a :: argsL).toArray = as') {stk : List Value} (hstk : stk = argsL.reverse ++ .ref a :: st) (hf : rm.frames + 1 ≤ R.frames) (hW : (st.map fun v => v.category).sum = W) (hl : W + (nl' + 11) + rm.locals ≤ R.locals) (hc : cells + rm.cells ≤ R.cells) (hs : slots + rm.slots ≤ R.slots) (hws : ∀ x ∈ ws', x ∈ ws ∨ h0.size ≤ x) (hp : pc + 3 = pc')
    (k : ∀ v T' h' locs', St p l e R s m args below meth c Z own bytes nl ret nm h0 ws T' h' locs' (cells + rm.cells) (slots + rm.slots) → Keep h h' ws' → Q' v h' → Go p e below P T' (mkF m pc' Ls (v.toList ++ st))) : Go p e below P T (mkF m pc Ls stk) := by
  subst hp hstk
  obtain ⟨cq, kq, q1, q2, q3⟩ := isOf S.hZ S.eT E
  obtain ⟨v, _, ⟨T', L', k', n'⟩, -, X', ⟨L, hQ, l1, l2, l3⟩, f⟩ := S.X.virtualBack S.ex S.hown (mvT S.hZ w1) (mvT S.hZ w2) hnf (mvT S.hZ w5) (mvT S.hZ w6) hy (backOf (Q := fun v U L => Fr Z.heap.size L ∧ Keep h U ws' ∧ Ext Z.heap U ∧ Q' v U) (W := W) (M []) S.hZ w4 w3 hf hl) q1 q3 (g := mkF m pc Ls (argsL.reverse ++ .ref a :: st)) rfl (hsz.trans S.hnl.symm) (Steps.refl _) (argsL := argsL) (rest := st) (lenOf hlen hn) rfl (by show 2 * 0 + _ ≤ _; rw [hW]; omega) (S.hd hd) (fun _ _ => ⟨has, S.eT, hc, hs⟩)
  dsimp only [Pt.U, Pt.locs, Pt.cells, Pt.slots] at X' l1 l2 l3 hQ f
  subst l1 l2 l3
  obtain ⟨N, K', E', q⟩ := hQ
  exact (k v T' T'.heap _ (S.next X' rfl (S.fr.app N) (S.keep.trans K' hws) E') K' q).of fun t q => f.trans q
theorem St.nf (S : St p l e R s m args below meth c Z own bytes nl ret nm h0 ws T h locs cells slots) {C : String} {x : MethodName} (w : (Jvm.Cond.selects C x x).before a0 Z = true) : NotFace s x := notFace_of_selects (args := #[]) (mvT S.hZ w)
theorem Go.invokevirtualUp (S : St p l e R s m args below meth c Z own bytes nl ret nm h0 ws T h locs cells slots) {y : MethodName} {bytes' : ByteArray} {nl' : Nat} {ret' : Option FieldType} {rm : Room} {as' : Array Value} {ws' : List Addr} {Q' : Option Value → Heap → Prop} {index W : Nat} {ps : List FieldType} {r : Option FieldType} {argsL : List Value} {a : Addr} {x : MethodName} {C owner : String} (M : OMeets l Z y bytes' nl' ret' rm as' h ws' Q') (w1 : (Jvm.Cond.methodLink own index x).before a0 Z = true) (w2 : (Jvm.Cond.declares ⟨owner, x.name, x.desc⟩).before a0 Z = true) (w7 : (Jvm.Cond.sameMethod x.cls owner x.name x.desc).before a0 Z = true) (w5 : (Jvm.Cond.selects C x y).before a0 Z = true) (w6 : (Jvm.Cond.instanceMethod y).before a0 Z = true) (w3 : (Jvm.Cond.initialized y.cls).before a0 Z = true) (w4 : (Jvm.Cond.code y bytes' nl' ret').before a0 Z = true) (hy : owner ≠ "java/lang/invoke/MethodHandle" ∧ owner ≠ "java/lang/invoke/VarHandle") (E : Exa Z h a C) (hd : decode bytes pc = .ok (.invokevirtual index, 3)) (hsz : Ls.size = nl) (hlen : parseMethodDescriptor x.desc = some ⟨ps, r⟩) (hn : argsL.length = ps.length) (has : (.ref a :: argsL).toArray = as') {stk : List Value} (hstk : stk = argsL.reverse ++ .ref a :: st) (hf : rm.frames + 1 ≤ R.frames) (hW : (st.map fun v => v.category).sum = W) (hl : W + (nl' + 11) + rm.locals ≤ R.locals) (hc : cells + rm.cells ≤ R.cells) (hs : slots + rm.slots ≤ R.slots) (hws : ∀ x ∈ ws', x ∈ ws ∨ h0.size ≤ x) (hp : pc + 3 = pc')
    (k : ∀ v T' h' locs', St p l e R s m args below meth c Z own bytes nl ret nm h0 ws T' h' locs' (cells + rm.cells) (slots + rm.slots) → Keep h h' ws' → Q' v h' → Go p e below P T' (mkF m pc' Ls (v.toList ++ st))) : Go p e below P T (mkF m pc Ls stk) := by
  subst hp hstk
  obtain ⟨cq, kq, q1, q2, q3⟩ := isOf S.hZ S.eT E
  obtain ⟨v, _, ⟨T', L', k', n'⟩, -, X', ⟨L, hQ, l1, l2, l3⟩, f⟩ := S.X.virtualBackUp S.ex S.hown (mvT S.hZ w1) (mvT S.hZ w7) (mvT S.hZ w2) hy (mvT S.hZ w5) (mvT S.hZ w6) (backOf (Q := fun v U L => Fr Z.heap.size L ∧ Keep h U ws' ∧ Ext Z.heap U ∧ Q' v U) (W := W) (M []) S.hZ w4 w3 hf hl) q1 q3 (g := mkF m pc Ls (argsL.reverse ++ .ref a :: st)) rfl (hsz.trans S.hnl.symm) (Steps.refl _) (argsL := argsL) (rest := st) (lenOf hlen hn) rfl (by show 2 * 0 + _ ≤ _; rw [hW]; omega) (S.hd hd) (fun _ _ => ⟨has, S.eT, hc, hs⟩)
  dsimp only [Pt.U, Pt.locs, Pt.cells, Pt.slots] at X' l1 l2 l3 hQ f
  subst l1 l2 l3
  obtain ⟨N, K', E', q⟩ := hQ
  exact (k v T' T'.heap _ (S.next X' rfl (S.fr.app N) (S.keep.trans K' hws) E') K' q).of fun t q => f.trans q
theorem Go.tableswitch (S : St p l e R s m args below meth c Z own bytes nl ret nm h0 ws T h locs cells slots) {dflt low high : Int} {offs : Array Int} {len : Nat} {o : Int} {i : Int32} (hd : decode bytes pc = .ok (.tableswitch dflt low high offs, len)) (hin : ¬ (i.toInt < low ∨ i.toInt > high)) (hoff : offs[(i.toInt - low).toNat]? = some o) (hp : (pc : Int) + o = (pc' : Int)) (k : Go p e below P T (mkF m pc' Ls st)) : Go p e below P T (mkF m pc Ls (.int i :: st)) :=
  k.of fun t q => XS.tswIn S.X.here S.ex rfl (pc0 := pc) rfl (S.hd hd) rfl hin hoff (off0 hp) (off1 hp) q
theorem Go.instanceofN (S : St p l e R s m args below meth c Z own bytes nl ret nm h0 ws T h locs cells slots) {C K : String} {index : Nat} {a : Addr} (w : (Jvm.Cond.classLink own index K).before a0 Z = true) (E : Exa Z h a C) (F : ∃ c t, Z.vm.findClass C = some c ∧ Z.vm.findClass K = some t ∧ Z.vm.assignable c t = false) (hd : decode bytes pc = .ok (.instanceof index, 3)) (hp : pc + 3 = pc')
    (k : ∀ T', St p l e R s m args below meth c Z own bytes nl ret nm h0 ws T' h locs cells slots → Go p e below P T' (mkF m pc' Ls (.int 0 :: st))) : Go p e below P T (mkF m pc Ls (.ref a :: st)) := by
  subst hp
  obtain ⟨T', X', e', f⟩ := instNo S.X S.ex S.hZ S.hown w S.eT E F (g := mkF m pc Ls (.ref a :: st)) rfl rfl (S.hd hd)
  exact (k T' (S.next X' e' S.fr S.keep S.ext)).of f
theorem Go.instanceofNull (S : St p l e R s m args below meth c Z own bytes nl ret nm h0 ws T h locs cells slots) {index : Nat} (hd : decode bytes pc = .ok (.instanceof index, 3)) (hp : pc + 3 = pc') (k : Go p e below P T (mkF m pc' Ls (.int 0 :: st))) : Go p e below P T (mkF m pc Ls (.null :: st)) := by
  subst hp
  exact k.of fun t q => S.X.instanceofNull S.ex (g := mkF m pc Ls (.null :: st)) rfl rfl (S.hd hd) _ q
theorem Go.checkcastNull (S : St p l e R s m args below meth c Z own bytes nl ret nm h0 ws T h locs cells slots) {index : Nat} (hd : decode bytes pc = .ok (.checkcast index, 3)) (hp : pc + 3 = pc') (k : Go p e below P T (mkF m pc' Ls (.null :: st))) : Go p e below P T (mkF m pc Ls (.null :: st)) := by
  subst hp
  exact k.of fun t q => S.X.checkcastNull S.ex (g := mkF m pc Ls (.null :: st)) rfl rfl (S.hd hd) _ q
theorem Go.aaloadA (S : St p l e R s m args below meth c Z own bytes nl ret nm h0 ws T h locs cells slots) {a : Addr} {cl : Cell} {ty : FieldType} {j : Int32} {v : Value} (A : Arr Z h a cl ty) (hty : ty.isReference = true) (hj : ¬ (j < 0 ∨ cl.slots.size ≤ j.toNatClampNeg)) (hv : cl.slots[j.toNatClampNeg]? = some v) (hd : decode bytes pc = .ok (.aaload, 1)) (hp : pc + 1 = pc') (k : Go p e below P T (mkF m pc' Ls (v :: st))) : Go p e below P T (mkF m pc Ls (.int j :: .ref a :: st)) := by
  subst hp
  exact k.of fun t q => S.X.aaload S.ex (j := j) (v := v) (by rw [S.eT]; exact A.1) (State.isArrayOf_alike S.hZ.alike A.2.1) hty A.2.2 hj hv (g := mkF m pc Ls (.int j :: .ref a :: st)) rfl rfl (S.hd hd) _ q
theorem Go.clone (S : St p l e R s m args below meth c Z own bytes nl ret nm h0 ws T h locs cells slots) {ad : String} {index : Nat} {a : Addr} {kA : ClassId} {ty : FieldType} {n : Int32} {vs : List Value} {dv : Value} {W cap : Nat} (w1 : (Jvm.Cond.methodLink own index ⟨ad, "clone", "()Ljava/lang/Object;"⟩).before a0 Z = true) (w2 : (Jvm.Cond.sameMethod ad "java/lang/Object" "clone" "()Ljava/lang/Object;").before a0 Z = true) (w3 : (Jvm.Cond.native ⟨"java/lang/Object", "clone", "()Ljava/lang/Object;"⟩).before a0 Z = true) (w4 : (Jvm.Cond.instanceMethod ⟨"java/lang/Object", "clone", "()Ljava/lang/Object;"⟩).before a0 Z = true) (w5 : (Jvm.Cond.selects ad ⟨ad, "clone", "()Ljava/lang/Object;"⟩ ⟨"java/lang/Object", "clone", "()Ljava/lang/Object;"⟩).before a0 Z = true) (w6 : (Jvm.Cond.castable ad "java/lang/Cloneable").before a0 Z = true)
    (V : Arv Z Z.heap a kA ty n vs dv) (hfit : Fit Z) (E : Exa Z Z.heap a ad) (hd : decode bytes pc = .ok (.invokevirtual index, 3)) (hsz : Ls.size = nl) (hf : 1 ≤ R.frames) (hW : (st.map fun v => v.category).sum = W) (hl : W + 14 ≤ R.locals) (hcap : n.toNatClampNeg ≤ cap) (hc : cells + 1 ≤ R.cells) (hsl : slots + cap ≤ R.slots) (hp : pc + 3 = pc')
    (k : ∀ T' h' b, St p l e R s m args below meth c Z own bytes nl ret nm h0 ws T' h' locs (cells + 1) (slots + cap) → Ext h h' → h.size = b → Arv Z h' b kA ty n vs dv → Exa Z h' b ad → Go p e below P T' (mkF m pc' Ls (.ref b :: st))) : Go p e below P T (mkF m pc Ls (.ref a :: st)) := by
  subst hp
  obtain ⟨cl, A, q1, q2, q3, H, F⟩ := V
  obtain ⟨T', h', X', e', E', A', EA, f⟩ := cloneA S.X S.ex S.hZ S.hown w1 w2 w3 w4 w5 w6 S.eT (A.ext S.ext) (E.ext S.ext) (FitC.start hfit A) (g := mkF m pc Ls (.ref a :: st)) rfl (hsz.trans S.hnl.symm) rfl (S.hd hd) hf (W := W) (by show 2 * 0 + _ ≤ _; rw [hW]; omega) hl (cap := cap) (by rw [q2]; exact hcap) hc hsl
  exact (k T' h' h.size (S.made X' e' E') E' rfl ⟨_, A', q1, q2, q3, H, F⟩ EA).of f
theorem OMeets.body {y : MethodName} {Q : Option Value → Heap → Prop} {as : Array Value} (hpl : plainFor y = true) (hE : Ext Z.heap h0) (Ls : Array Slot) (hef : ∀ m : MethodId, entryFrame m as nl = mkF m 0 Ls [])
    (H : ∀ p e s m below meth c T, St p l e R s m as below meth c Z y.cls bytes nl ret y.name h0 ws T h0 [] 0 0 → Go p e below (PostOf Z s h0 ws R.cells R.slots Q) T (mkF m 0 Ls [])) : OMeets l Z y bytes nl ret R as h0 ws Q := by
  intro wd
  refine MetFree.of_bodySF hpl hisR ?_
  intro p e s m args below meth c s₁ Bd hml hP _
  obtain ⟨rfl, hZ, hh⟩ := hP
  have X0 : Stand p l e R s m args below meth c s₁ [] 0 0 := Stand.of_body Bd
  have e0 : s₁.heap = h0 := by rw [← hh, Bd.state]; rfl
  have hg := H p e s m below meth c s₁ ⟨⟨Bd.exec, Bd.bytes, hml, hZ, findClass_of_methodNamed Bd.named, Bd.returns, Bd.notSynchronized, (name_of_methodNamed Bd.named Bd.method).1⟩, X0, e0, Fr.nil _, Keep.refl _ _, hE⟩
  rw [hef]
  exact hg
end Steps
end Jvm.Own
namespace Jvm.Pilot.@@N@@
open Jvm Jvm.ClassFile Sem Op Lib Jvm.Free Jvm.Stand Jvm.LawKit Jvm.RoadKit Jvm.Own Bundle Jvm.Pilot.@@N@@.Jvm.D
abbrev HW (Z : State) (a0 : Array Value) : Prop := ∀ d ∈ tables_1, d.before a0 Z = true
theorem wd0 {Z : State} {a0 : Array Value} (hw : HW Z a0) : Jvm.Cond.before (Jvm.Cond.constant "com/example/tychon/tychon/model/RelationTestPinLaw" (7 : Nat) (2147483647 : Int32)) a0 Z = true := hw _ (List.mem_of_getElem? (i := 0) rfl)
theorem wd1 {Z : State} {a0 : Array Value} (hw : HW Z a0) : Jvm.Cond.before (Jvm.Cond.fieldLink "com/example/tychon/tychon/model/RelationTestPinLaw" (8 : Nat) "com/example/tychon/tychon/model/Condition$Relation" "EQUAL" "Lcom/example/tychon/tychon/model/Condition$Relation;") a0 Z = true := hw _ (List.mem_of_getElem? (i := 1) rfl)
theorem wd2 {Z : State} {a0 : Array Value} (hw : HW Z a0) : Jvm.Cond.before (Jvm.Cond.initialized "com/example/tychon/tychon/model/Condition$Relation") a0 Z = true := hw _ (List.mem_of_getElem? (i := 2) rfl)
theorem wd3 {Z : State} {a0 : Array Value} (hw : HW Z a0) : Jvm.Cond.before (Jvm.Cond.laysStatic "com/example/tychon/tychon/model/Condition$Relation" "EQUAL" "Lcom/example/tychon/tychon/model/Condition$Relation;") a0 Z = true := hw _ (List.mem_of_getElem? (i := 3) rfl)
theorem wd4 {Z : State} {a0 : Array Value} (hw : HW Z a0) : Jvm.Cond.before (Jvm.Cond.methodLink "com/example/tychon/tychon/model/RelationTestPinLaw" (29 : Nat) ({ cls := "com/example/tychon/tychon/model/Condition$Relation", name := "test", desc := "(JJ)Z" } : Jvm.MethodName)) a0 Z = true := hw _ (List.mem_of_getElem? (i := 4) rfl)
theorem wd5 {Z : State} {a0 : Array Value} (hw : HW Z a0) : Jvm.Cond.before (Jvm.Cond.declares ({ cls := "com/example/tychon/tychon/model/Condition$Relation", name := "test", desc := "(JJ)Z" } : Jvm.MethodName)) a0 Z = true := hw _ (List.mem_of_getElem? (i := 5) rfl)
theorem wd6 {Z : State} {a0 : Array Value} (hw : HW Z a0) : Jvm.Cond.before (Jvm.Cond.instanceMethod ({ cls := "com/example/tychon/tychon/model/Condition$Relation", name := "test", desc := "(JJ)Z" } : Jvm.MethodName)) a0 Z = true := hw _ (List.mem_of_getElem? (i := 6) rfl)
theorem wd7 {Z : State} {a0 : Array Value} (hw : HW Z a0) : Jvm.Cond.before (Jvm.Cond.selects "com/example/tychon/tychon/model/Condition$Relation" ({ cls := "com/example/tychon/tychon/model/Condition$Relation", name := "test", desc := "(JJ)Z" } : Jvm.MethodName) ({ cls := "com/example/tychon/tychon/model/Condition$Relation", name := "test", desc := "(JJ)Z" } : Jvm.MethodName)) a0 Z = true := hw _ (List.mem_of_getElem? (i := 7) rfl)
theorem wd8 {Z : State} {a0 : Array Value} (hw : HW Z a0) : Jvm.Cond.before (Jvm.Cond.code ({ cls := "com/example/tychon/tychon/model/Condition$Relation", name := "test", desc := "(JJ)Z" } : Jvm.MethodName) prog_17_method_6_code (6 : Nat) (Option.some Jvm.ClassFile.FieldType.boolean)) a0 Z = true := hw _ (List.mem_of_getElem? (i := 8) rfl)
theorem wd9 {Z : State} {a0 : Array Value} (hw : HW Z a0) : Jvm.Cond.before (Jvm.Cond.methodLink "com/example/tychon/tychon/model/Condition$Relation" (55 : Nat) ({ cls := "java/lang/Long", name := "compare", desc := "(JJ)I" } : Jvm.MethodName)) a0 Z = true := hw _ (List.mem_of_getElem? (i := 9) rfl)
theorem wd10 {Z : State} {a0 : Array Value} (hw : HW Z a0) : Jvm.Cond.before (Jvm.Cond.static ({ cls := "java/lang/Long", name := "compare", desc := "(JJ)I" } : Jvm.MethodName)) a0 Z = true := hw _ (List.mem_of_getElem? (i := 10) rfl)
theorem wd11 {Z : State} {a0 : Array Value} (hw : HW Z a0) : Jvm.Cond.before (Jvm.Cond.initialized "java/lang/Long") a0 Z = true := hw _ (List.mem_of_getElem? (i := 11) rfl)
theorem wd12 {Z : State} {a0 : Array Value} (hw : HW Z a0) : Jvm.Cond.before (Jvm.Cond.code ({ cls := "java/lang/Long", name := "compare", desc := "(JJ)I" } : Jvm.MethodName) jdk_35_method_42_code (4 : Nat) (Option.some Jvm.ClassFile.FieldType.int)) a0 Z = true := hw _ (List.mem_of_getElem? (i := 12) rfl)
theorem wd13 {Z : State} {a0 : Array Value} (hw : HW Z a0) : Jvm.Cond.before (Jvm.Cond.methodLink "com/example/tychon/tychon/model/Condition$Relation" (61 : Nat) ({ cls := "com/example/tychon/tychon/model/Condition$Relation", name := "ordinal", desc := "()I" } : Jvm.MethodName)) a0 Z = true := hw _ (List.mem_of_getElem? (i := 13) rfl)
theorem wd14 {Z : State} {a0 : Array Value} (hw : HW Z a0) : Jvm.Cond.before (Jvm.Cond.sameMethod "com/example/tychon/tychon/model/Condition$Relation" "java/lang/Enum" "ordinal" "()I") a0 Z = true := hw _ (List.mem_of_getElem? (i := 14) rfl)
theorem wd15 {Z : State} {a0 : Array Value} (hw : HW Z a0) : Jvm.Cond.before (Jvm.Cond.declares ({ cls := "java/lang/Enum", name := "ordinal", desc := "()I" } : Jvm.MethodName)) a0 Z = true := hw _ (List.mem_of_getElem? (i := 15) rfl)
theorem wd16 {Z : State} {a0 : Array Value} (hw : HW Z a0) : Jvm.Cond.before (Jvm.Cond.instanceMethod ({ cls := "java/lang/Enum", name := "ordinal", desc := "()I" } : Jvm.MethodName)) a0 Z = true := hw _ (List.mem_of_getElem? (i := 16) rfl)
theorem wd17 {Z : State} {a0 : Array Value} (hw : HW Z a0) : Jvm.Cond.before (Jvm.Cond.selects "com/example/tychon/tychon/model/Condition$Relation" ({ cls := "com/example/tychon/tychon/model/Condition$Relation", name := "ordinal", desc := "()I" } : Jvm.MethodName) ({ cls := "java/lang/Enum", name := "ordinal", desc := "()I" } : Jvm.MethodName)) a0 Z = true := hw _ (List.mem_of_getElem? (i := 17) rfl)
theorem wd18 {Z : State} {a0 : Array Value} (hw : HW Z a0) : Jvm.Cond.before (Jvm.Cond.initialized "java/lang/Enum") a0 Z = true := hw _ (List.mem_of_getElem? (i := 18) rfl)
theorem wd19 {Z : State} {a0 : Array Value} (hw : HW Z a0) : Jvm.Cond.before (Jvm.Cond.code ({ cls := "java/lang/Enum", name := "ordinal", desc := "()I" } : Jvm.MethodName) jdk_37_method_2_code (1 : Nat) (Option.some Jvm.ClassFile.FieldType.int)) a0 Z = true := hw _ (List.mem_of_getElem? (i := 19) rfl)
theorem wd20 {Z : State} {a0 : Array Value} (hw : HW Z a0) : Jvm.Cond.before (Jvm.Cond.fieldLink "java/lang/Enum" (7 : Nat) "java/lang/Enum" "ordinal" "I") a0 Z = true := hw _ (List.mem_of_getElem? (i := 20) rfl)
theorem wd22 {Z : State} {a0 : Array Value} (hw : HW Z a0) : Jvm.Cond.before (Jvm.Cond.fieldLink "com/example/tychon/tychon/model/RelationTestPinLaw" (17 : Nat) "com/example/tychon/tychon/model/Condition$Relation" "LESS" "Lcom/example/tychon/tychon/model/Condition$Relation;") a0 Z = true := hw _ (List.mem_of_getElem? (i := 22) rfl)
theorem wd23 {Z : State} {a0 : Array Value} (hw : HW Z a0) : Jvm.Cond.before (Jvm.Cond.laysStatic "com/example/tychon/tychon/model/Condition$Relation" "LESS" "Lcom/example/tychon/tychon/model/Condition$Relation;") a0 Z = true := hw _ (List.mem_of_getElem? (i := 23) rfl)
theorem wd24 {Z : State} {a0 : Array Value} (hw : HW Z a0) : Jvm.Cond.before (Jvm.Cond.fieldLink "com/example/tychon/tychon/model/RelationTestPinLaw" (20 : Nat) "com/example/tychon/tychon/model/Condition$Relation" "AT_MOST" "Lcom/example/tychon/tychon/model/Condition$Relation;") a0 Z = true := hw _ (List.mem_of_getElem? (i := 24) rfl)
theorem wd25 {Z : State} {a0 : Array Value} (hw : HW Z a0) : Jvm.Cond.before (Jvm.Cond.laysStatic "com/example/tychon/tychon/model/Condition$Relation" "AT_MOST" "Lcom/example/tychon/tychon/model/Condition$Relation;") a0 Z = true := hw _ (List.mem_of_getElem? (i := 25) rfl)
theorem wd26 {Z : State} {a0 : Array Value} (hw : HW Z a0) : Jvm.Cond.before (Jvm.Cond.fieldLink "com/example/tychon/tychon/model/RelationTestPinLaw" (14 : Nat) "com/example/tychon/tychon/model/Condition$Relation" "NOT_EQUAL" "Lcom/example/tychon/tychon/model/Condition$Relation;") a0 Z = true := hw _ (List.mem_of_getElem? (i := 26) rfl)
theorem wd27 {Z : State} {a0 : Array Value} (hw : HW Z a0) : Jvm.Cond.before (Jvm.Cond.laysStatic "com/example/tychon/tychon/model/Condition$Relation" "NOT_EQUAL" "Lcom/example/tychon/tychon/model/Condition$Relation;") a0 Z = true := hw _ (List.mem_of_getElem? (i := 27) rfl)
theorem wd28 {Z : State} {a0 : Array Value} (hw : HW Z a0) : Jvm.Cond.before (Jvm.Cond.fieldLink "com/example/tychon/tychon/model/RelationTestPinLaw" (26 : Nat) "com/example/tychon/tychon/model/Condition$Relation" "AT_LEAST" "Lcom/example/tychon/tychon/model/Condition$Relation;") a0 Z = true := hw _ (List.mem_of_getElem? (i := 28) rfl)
theorem wd29 {Z : State} {a0 : Array Value} (hw : HW Z a0) : Jvm.Cond.before (Jvm.Cond.laysStatic "com/example/tychon/tychon/model/Condition$Relation" "AT_LEAST" "Lcom/example/tychon/tychon/model/Condition$Relation;") a0 Z = true := hw _ (List.mem_of_getElem? (i := 29) rfl)
theorem wd30 {Z : State} {a0 : Array Value} (hw : HW Z a0) : Jvm.Cond.before (Jvm.Cond.fieldLink "com/example/tychon/tychon/model/RelationTestPinLaw" (23 : Nat) "com/example/tychon/tychon/model/Condition$Relation" "GREATER" "Lcom/example/tychon/tychon/model/Condition$Relation;") a0 Z = true := hw _ (List.mem_of_getElem? (i := 30) rfl)
theorem wd31 {Z : State} {a0 : Array Value} (hw : HW Z a0) : Jvm.Cond.before (Jvm.Cond.laysStatic "com/example/tychon/tychon/model/Condition$Relation" "GREATER" "Lcom/example/tychon/tychon/model/Condition$Relation;") a0 Z = true := hw _ (List.mem_of_getElem? (i := 31) rfl)
theorem pn0 : plainName "java/lang/Long" = true := by first | (simp [plainName, overriddenIn]; done) | decide +kernel
theorem pn1 : plainName "java/lang/Enum" = true := by first | (simp [plainName, overriddenIn]; done) | decide +kernel
theorem pn2 : plainName "com/example/tychon/tychon/model/Condition$Relation" = true := by first | (simp [plainName, overriddenIn]; done) | decide +kernel
theorem pn3 : plainName "com/example/tychon/tychon/model/RelationTestPinLaw" = true := by first | (simp [plainName, overriddenIn]; done) | decide +kernel
theorem pd0 : parseMethodDescriptor "(JJ)I" = some ⟨[.long, .long], some .int⟩ := by decide +kernel
theorem pd1 : parseMethodDescriptor "()I" = some ⟨[], some .int⟩ := by decide +kernel
theorem pd2 : parseMethodDescriptor "(JJ)Z" = some ⟨[.long, .long], some .boolean⟩ := by decide +kernel
theorem d_jdk_35_method_42_code_0 : decode jdk_35_method_42_code 0 = .ok (.lload_n 0, 1) := by decide +kernel
theorem d_jdk_35_method_42_code_1 : decode jdk_35_method_42_code 1 = .ok (.lload_n 2, 1) := by decide +kernel
theorem d_jdk_35_method_42_code_2 : decode jdk_35_method_42_code 2 = .ok (.lcmp, 1) := by decide +kernel
theorem d_jdk_35_method_42_code_3 : decode jdk_35_method_42_code 3 = .ok (.ifCond .ge 7, 3) := by decide +kernel
theorem d_jdk_35_method_42_code_6 : decode jdk_35_method_42_code 6 = .ok (.iconst (-1), 1) := by decide +kernel
theorem d_jdk_35_method_42_code_7 : decode jdk_35_method_42_code 7 = .ok (.goto 14, 3) := by decide +kernel
theorem d_jdk_35_method_42_code_10 : decode jdk_35_method_42_code 10 = .ok (.lload_n 0, 1) := by decide +kernel
theorem d_jdk_35_method_42_code_11 : decode jdk_35_method_42_code 11 = .ok (.lload_n 2, 1) := by decide +kernel
theorem d_jdk_35_method_42_code_12 : decode jdk_35_method_42_code 12 = .ok (.lcmp, 1) := by decide +kernel
theorem d_jdk_35_method_42_code_13 : decode jdk_35_method_42_code 13 = .ok (.ifCond .ne 7, 3) := by decide +kernel
theorem d_jdk_35_method_42_code_16 : decode jdk_35_method_42_code 16 = .ok (.iconst 0, 1) := by decide +kernel
theorem d_jdk_35_method_42_code_17 : decode jdk_35_method_42_code 17 = .ok (.goto 4, 3) := by decide +kernel
theorem d_jdk_35_method_42_code_20 : decode jdk_35_method_42_code 20 = .ok (.iconst 1, 1) := by decide +kernel
theorem d_jdk_35_method_42_code_21 : decode jdk_35_method_42_code 21 = .ok (.ireturn, 1) := by decide +kernel
theorem d_jdk_37_method_2_code_0 : decode jdk_37_method_2_code 0 = .ok (.aload_n 0, 1) := by decide +kernel
theorem d_jdk_37_method_2_code_1 : decode jdk_37_method_2_code 1 = .ok (.getfield 7, 3) := by decide +kernel
theorem d_jdk_37_method_2_code_4 : decode jdk_37_method_2_code 4 = .ok (.ireturn, 1) := by decide +kernel
theorem d_prog_17_method_6_code_0 : decode prog_17_method_6_code 0 = .ok (.lload_n 1, 1) := by decide +kernel
theorem d_prog_17_method_6_code_1 : decode prog_17_method_6_code 1 = .ok (.lload_n 3, 1) := by decide +kernel
theorem d_prog_17_method_6_code_2 : decode prog_17_method_6_code 2 = .ok (.invokestatic 55, 3) := by decide +kernel
theorem d_prog_17_method_6_code_5 : decode prog_17_method_6_code 5 = .ok (.istore 5, 2) := by decide +kernel
theorem d_prog_17_method_6_code_7 : decode prog_17_method_6_code 7 = .ok (.aload_n 0, 1) := by decide +kernel
theorem d_prog_17_method_6_code_8 : decode prog_17_method_6_code 8 = .ok (.invokevirtual 61, 3) := by decide +kernel
theorem d_prog_17_method_6_code_11 : decode prog_17_method_6_code 11 = .ok (.tableswitch 37 0 5 #[47, 60, 73, 86, 99, 112], 37) := by decide +kernel
theorem d_prog_17_method_6_code_58 : decode prog_17_method_6_code 58 = .ok (.iload 5, 2) := by decide +kernel
theorem d_prog_17_method_6_code_60 : decode prog_17_method_6_code 60 = .ok (.ifCond .ne 7, 3) := by decide +kernel
theorem d_prog_17_method_6_code_63 : decode prog_17_method_6_code 63 = .ok (.iconst 1, 1) := by decide +kernel
theorem d_prog_17_method_6_code_64 : decode prog_17_method_6_code 64 = .ok (.goto 69, 3) := by decide +kernel
theorem d_prog_17_method_6_code_67 : decode prog_17_method_6_code 67 = .ok (.iconst 0, 1) := by decide +kernel
theorem d_prog_17_method_6_code_68 : decode prog_17_method_6_code 68 = .ok (.goto 65, 3) := by decide +kernel
theorem d_prog_17_method_6_code_71 : decode prog_17_method_6_code 71 = .ok (.iload 5, 2) := by decide +kernel
theorem d_prog_17_method_6_code_73 : decode prog_17_method_6_code 73 = .ok (.ifCond .eq 7, 3) := by decide +kernel
theorem d_prog_17_method_6_code_76 : decode prog_17_method_6_code 76 = .ok (.iconst 1, 1) := by decide +kernel
theorem d_prog_17_method_6_code_77 : decode prog_17_method_6_code 77 = .ok (.goto 56, 3) := by decide +kernel
theorem d_prog_17_method_6_code_80 : decode prog_17_method_6_code 80 = .ok (.iconst 0, 1) := by decide +kernel
theorem d_prog_17_method_6_code_81 : decode prog_17_method_6_code 81 = .ok (.goto 52, 3) := by decide +kernel
theorem d_prog_17_method_6_code_84 : decode prog_17_method_6_code 84 = .ok (.iload 5, 2) := by decide +kernel
theorem d_prog_17_method_6_code_86 : decode prog_17_method_6_code 86 = .ok (.ifCond .ge 7, 3) := by decide +kernel
theorem d_prog_17_method_6_code_89 : decode prog_17_method_6_code 89 = .ok (.iconst 1, 1) := by decide +kernel
theorem d_prog_17_method_6_code_90 : decode prog_17_method_6_code 90 = .ok (.goto 43, 3) := by decide +kernel
theorem d_prog_17_method_6_code_93 : decode prog_17_method_6_code 93 = .ok (.iconst 0, 1) := by decide +kernel
theorem d_prog_17_method_6_code_94 : decode prog_17_method_6_code 94 = .ok (.goto 39, 3) := by decide +kernel
theorem d_prog_17_method_6_code_97 : decode prog_17_method_6_code 97 = .ok (.iload 5, 2) := by decide +kernel
theorem d_prog_17_method_6_code_99 : decode prog_17_method_6_code 99 = .ok (.ifCond .gt 7, 3) := by decide +kernel
theorem d_prog_17_method_6_code_102 : decode prog_17_method_6_code 102 = .ok (.iconst 1, 1) := by decide +kernel
theorem d_prog_17_method_6_code_103 : decode prog_17_method_6_code 103 = .ok (.goto 30, 3) := by decide +kernel
theorem d_prog_17_method_6_code_106 : decode prog_17_method_6_code 106 = .ok (.iconst 0, 1) := by decide +kernel
theorem d_prog_17_method_6_code_107 : decode prog_17_method_6_code 107 = .ok (.goto 26, 3) := by decide +kernel
theorem d_prog_17_method_6_code_110 : decode prog_17_method_6_code 110 = .ok (.iload 5, 2) := by decide +kernel
theorem d_prog_17_method_6_code_112 : decode prog_17_method_6_code 112 = .ok (.ifCond .le 7, 3) := by decide +kernel
theorem d_prog_17_method_6_code_115 : decode prog_17_method_6_code 115 = .ok (.iconst 1, 1) := by decide +kernel
theorem d_prog_17_method_6_code_116 : decode prog_17_method_6_code 116 = .ok (.goto 17, 3) := by decide +kernel
theorem d_prog_17_method_6_code_119 : decode prog_17_method_6_code 119 = .ok (.iconst 0, 1) := by decide +kernel
theorem d_prog_17_method_6_code_120 : decode prog_17_method_6_code 120 = .ok (.goto 13, 3) := by decide +kernel
theorem d_prog_17_method_6_code_123 : decode prog_17_method_6_code 123 = .ok (.iload 5, 2) := by decide +kernel
theorem d_prog_17_method_6_code_125 : decode prog_17_method_6_code 125 = .ok (.ifCond .lt 7, 3) := by decide +kernel
theorem d_prog_17_method_6_code_128 : decode prog_17_method_6_code 128 = .ok (.iconst 1, 1) := by decide +kernel
theorem d_prog_17_method_6_code_129 : decode prog_17_method_6_code 129 = .ok (.goto 4, 3) := by decide +kernel
theorem d_prog_17_method_6_code_132 : decode prog_17_method_6_code 132 = .ok (.iconst 0, 1) := by decide +kernel
theorem d_prog_17_method_6_code_133 : decode prog_17_method_6_code 133 = .ok (.ireturn, 1) := by decide +kernel
theorem own_eqI {args : Array Value} {first s : State} {o : Option Outcome} {idx : List Nat} {t : Term} {k : Int32} (h : (Jvm.Cond.eq t (.int k)).value args first o s idx = some true) : t.eval args first o idx s = some (.int k) := by
  obtain ⟨v, w, hv, hw, hk, hk'⟩ := cmp_v (Or.inl h)
  cases (Term.int_eval k).symm.trans hw
  obtain ⟨z, rfl⟩ : ∃ z, v = .int z := hk'
  have q : (Jvm.Cond.eq t (.int k)).value args first o s idx = some (decide (z = k)) := by simp [Cond.value, hv, hw]
  rw [hv, gotT q h]
set_option maxRecDepth 65536 in
set_option maxHeartbeats 4000000 in
theorem rm_jdk_35_method_42_code {l : Launch} {Z : State} {a0 : Array Value} (hw : HW Z a0) (l1 : Int64) (r1 : Int64)  {h0 : Heap} (hE : Ext Z.heap h0) :
    OMeets l Z (⟨"java/lang/Long", "compare", "(JJ)I"⟩ : MethodName) jdk_35_method_42_code 4 (some .int) ({ frames := 0, cells := 0, slots := 0, locals := 0 } : Room) #[(.long l1), (.long r1)] h0 [] (fun v h => v = some (.int (if l1 < r1 then -1 else if l1 = r1 then 0 else 1 : Int32)) ∧ h0 = h) := by
  refine OMeets.body (plainFor_of_name pn0) hE #[.val (.long l1), .second, .val (.long r1), .second] (fun m => by first | rfl | (simp [entryFrame, mkF, argsToLocals, Value.category, maxLocals]; done)) ?_
  intro p e s m below meth co T S
  refine Go.lloadN S d_jdk_35_method_42_code_0 rfl (pc' := 1) rfl ?_
  refine Go.lloadN S d_jdk_35_method_42_code_1 rfl (pc' := 2) rfl ?_
  refine Go.lcmp_ge S d_jdk_35_method_42_code_2 (pc1 := 3) rfl d_jdk_35_method_42_code_3 (pt := 10) (by decide) (pc' := 6) rfl ?_ ?_
  · intro c2
    refine Go.lloadN S d_jdk_35_method_42_code_10 rfl (pc' := 11) rfl ?_
    refine Go.lloadN S d_jdk_35_method_42_code_11 rfl (pc' := 12) rfl ?_
    refine Go.lcmp_ne S d_jdk_35_method_42_code_12 (pc1 := 13) rfl d_jdk_35_method_42_code_13 (pt := 20) (by decide) (pc' := 16) rfl ?_ ?_
    · intro c12
      refine Go.iconst S (v := 1) d_jdk_35_method_42_code_20 rfl (pc' := 21) rfl ?_
      exact Go.ireturn S rfl d_jdk_35_method_42_code_21 (by decide) (by decide) (⟨by rw [if_neg c2, if_neg c12], rfl⟩)
    · intro c12
      refine Go.iconst S (v := 0) d_jdk_35_method_42_code_16 rfl (pc' := 17) rfl ?_
      refine Go.goto S d_jdk_35_method_42_code_17 (pc' := 21) (by decide) ?_
      exact Go.ireturn S rfl d_jdk_35_method_42_code_21 (by decide) (by decide) (⟨by rw [if_neg c2, if_pos c12], rfl⟩)
  · intro c2
    refine Go.iconst S (v := -1) d_jdk_35_method_42_code_6 rfl (pc' := 7) rfl ?_
    refine Go.goto S d_jdk_35_method_42_code_7 (pc' := 21) (by decide) ?_
    exact Go.ireturn S rfl d_jdk_35_method_42_code_21 (by decide) (by decide) (⟨by rw [if_pos c2], rfl⟩)
set_option maxRecDepth 65536 in
set_option maxHeartbeats 4000000 in
theorem rm_jdk_37_method_2_code {l : Launch} {Z : State} {a0 : Array Value} (hw : HW Z a0) (a : Addr) (k : Int32) {h0 : Heap} (hE : Ext Z.heap h0) (F : Fld Z h0 a "java/lang/Enum" "ordinal" "I" (.int k)) :
    OMeets l Z (⟨"java/lang/Enum", "ordinal", "()I"⟩ : MethodName) jdk_37_method_2_code 1 (some .int) ({ frames := 0, cells := 0, slots := 0, locals := 0 } : Room) #[(.ref a)] h0 [] (fun v h => v = some (.int k) ∧ h0 = h) := by
  refine OMeets.body (plainFor_of_name pn1) hE #[.val (.ref a)] (fun m => by first | rfl | (simp [entryFrame, mkF, argsToLocals, Value.category, maxLocals]; done)) ?_
  intro p e s m below meth co T S
  refine Go.aloadN S d_jdk_37_method_2_code_0 rfl rfl (pc' := 1) rfl ?_
  refine Go.getfield S (host := "") (Or.inl (wd20 hw)) Via.refl F d_jdk_37_method_2_code_1 (pc' := 4) rfl ?_
  intro T1 S1
  exact Go.ireturn S1 rfl d_jdk_37_method_2_code_4 (by decide) (by decide) (⟨rfl, rfl⟩)
theorem own_cmp (l1 r1 : Int64) : ((if l1 < r1 then -1 else if l1 = r1 then 0 else 1 : Int32) = 0 ↔ l1 = r1) ∧ ((if l1 < r1 then -1 else if l1 = r1 then 0 else 1 : Int32) < 0 ↔ l1 < r1) ∧ (0 < (if l1 < r1 then -1 else if l1 = r1 then 0 else 1 : Int32) ↔ r1 < l1) := by
  by_cases q : l1 < r1
  · rw [if_pos q]
    rw [Int64.lt_iff_toInt_lt] at q
    simp only [← Int64.toInt_inj, Int64.lt_iff_toInt_lt]
    refine ⟨⟨fun h => absurd h (by decide), fun h => by omega⟩, ⟨fun _ => q, fun _ => by decide⟩, ⟨fun h => absurd h (by decide), fun h => by omega⟩⟩
  · rw [if_neg q]
    by_cases q2 : l1 = r1
    · rw [if_pos q2]
      subst q2
      exact ⟨⟨fun _ => rfl, fun _ => rfl⟩, ⟨fun h => absurd h (by decide), fun h => absurd h q⟩, ⟨fun h => absurd h (by decide), fun h => absurd h q⟩⟩
    · rw [if_neg q2]
      have q3 : r1 < l1 := by
        rw [Int64.lt_iff_toInt_lt] at *
        rw [← Int64.toInt_inj] at q2
        omega
      exact ⟨⟨fun h => absurd h (by decide), fun h => absurd h q2⟩, ⟨fun h => absurd h (by decide), fun h => absurd h q⟩, ⟨fun _ => q3, fun _ => by decide⟩⟩
set_option maxRecDepth 65536 in
set_option maxHeartbeats 4000000 in
theorem rm_test0 {l : Launch} {Z : State} {a0 : Array Value} (hw : HW Z a0) (a : Addr) (l1 : Int64) (r1 : Int64)  {h0 : Heap} (hE : Ext Z.heap h0) (F : Fld Z h0 a "java/lang/Enum" "ordinal" "I" (.int 0)) (E : Exa Z h0 a "com/example/tychon/tychon/model/Condition$Relation") :
    OMeets l Z (⟨"com/example/tychon/tychon/model/Condition$Relation", "test", "(JJ)Z"⟩ : MethodName) prog_17_method_6_code 6 (some .boolean) ({ frames := 1, cells := 0, slots := 0, locals := 15 } : Room) #[(.ref a), (.long l1), (.long r1)] h0 [] (fun v h => v = some (.int (if l1 = r1 then 1 else 0 : Int32)) ∧ h0 = h) := by
  refine OMeets.body (plainFor_of_name pn2) hE #[.val (.ref a), .val (.long l1), .second, .val (.long r1), .second, .unset] (fun m => by first | rfl | (simp [entryFrame, mkF, argsToLocals, Value.category, maxLocals]; done)) ?_
  intro p e s m below meth co T S
  refine Go.lloadN S d_prog_17_method_6_code_0 rfl (pc' := 1) rfl ?_
  refine Go.lloadN S d_prog_17_method_6_code_1 rfl (pc' := 2) rfl ?_
  refine Go.invokestatic S (y := ⟨"java/lang/Long", "compare", "(JJ)I"⟩) (rm_jdk_35_method_42_code hw l1 r1 S.ext) (wd9 hw) (wd10 hw) (wd11 hw) (wd12 hw) (by decide) d_prog_17_method_6_code_2 rfl pd0 (argsL := [(.long l1), (.long r1)]) rfl rfl rfl (by decide) (W := 0) rfl (by decide) (by decide) (by decide) all0 (pc' := 5) rfl ?_
  intro v1 T1 h1 L1 S1 K1 q1
  obtain ⟨rfl, rfl⟩ := q1
  show Go _ _ _ _ T1 (mkF m 5 #[.val (.ref a), .val (.long l1), .second, .val (.long r1), .second, .unset] [(.int (if l1 < r1 then -1 else if l1 = r1 then 0 else 1 : Int32))])
  refine Go.istore S1 d_prog_17_method_6_code_5 (Ls' := #[.val (.ref a), .val (.long l1), .second, .val (.long r1), .second, .val (.int (if l1 < r1 then -1 else if l1 = r1 then 0 else 1 : Int32))]) rfl (pc' := 7) rfl ?_
  refine Go.aloadN S1 d_prog_17_method_6_code_7 rfl rfl (pc' := 8) rfl ?_
  refine Go.invokevirtualUp S1 (y := ⟨"java/lang/Enum", "ordinal", "()I"⟩) (rm_jdk_37_method_2_code hw a 0 S1.ext F) (wd13 hw) (wd15 hw) (wd14 hw) (wd17 hw) (wd16 hw) (wd18 hw) (wd19 hw) (by decide) E d_prog_17_method_6_code_8 rfl pd1 (argsL := []) rfl rfl rfl (by decide) (W := 0) rfl (by decide) (by decide) (by decide) all0 (pc' := 11) rfl ?_
  intro v2 T2 h2 L2 S2 K2 q2
  obtain ⟨rfl, rfl⟩ := q2
  show Go _ _ _ _ T2 (mkF m 11 #[.val (.ref a), .val (.long l1), .second, .val (.long r1), .second, .val (.int (if l1 < r1 then -1 else if l1 = r1 then 0 else 1 : Int32))] [(.int (0 : Int32))])
  refine Go.tableswitch S2 d_prog_17_method_6_code_11 (by decide) (o := 47) rfl (pc' := 58) (by decide) ?_
  refine Go.iload S2 d_prog_17_method_6_code_58 rfl (pc' := 60) rfl ?_
  refine Go.if_ne S2 d_prog_17_method_6_code_60 (pt := 67) (by decide) (pc' := 63) rfl ?_ ?_
  · intro c60
    refine Go.iconst S2 (v := 0) d_prog_17_method_6_code_67 rfl (pc' := 68) rfl ?_
    refine Go.goto S2 d_prog_17_method_6_code_68 (pc' := 133) (by decide) ?_
    exact Go.zreturn S2 rfl (by decide) d_prog_17_method_6_code_133 (z' := (0 : Int32)) rfl (by decide) (by decide) (⟨by rw [if_neg (fun q => c60 ((own_cmp l1 r1).1.mpr q))], rfl⟩)
  · intro c60
    refine Go.iconst S2 (v := 1) d_prog_17_method_6_code_63 rfl (pc' := 64) rfl ?_
    refine Go.goto S2 d_prog_17_method_6_code_64 (pc' := 133) (by decide) ?_
    exact Go.zreturn S2 rfl (by decide) d_prog_17_method_6_code_133 (z' := (1 : Int32)) rfl (by decide) (by decide) (⟨by rw [if_pos ((own_cmp l1 r1).1.mp c60)], rfl⟩)
set_option maxRecDepth 65536 in
set_option maxHeartbeats 4000000 in
theorem rm_test1 {l : Launch} {Z : State} {a0 : Array Value} (hw : HW Z a0) (a : Addr) (l1 : Int64) (r1 : Int64)  {h0 : Heap} (hE : Ext Z.heap h0) (F : Fld Z h0 a "java/lang/Enum" "ordinal" "I" (.int 1)) (E : Exa Z h0 a "com/example/tychon/tychon/model/Condition$Relation") :
    OMeets l Z (⟨"com/example/tychon/tychon/model/Condition$Relation", "test", "(JJ)Z"⟩ : MethodName) prog_17_method_6_code 6 (some .boolean) ({ frames := 1, cells := 0, slots := 0, locals := 15 } : Room) #[(.ref a), (.long l1), (.long r1)] h0 [] (fun v h => v = some (.int (if l1 = r1 then 0 else 1 : Int32)) ∧ h0 = h) := by
  refine OMeets.body (plainFor_of_name pn2) hE #[.val (.ref a), .val (.long l1), .second, .val (.long r1), .second, .unset] (fun m => by first | rfl | (simp [entryFrame, mkF, argsToLocals, Value.category, maxLocals]; done)) ?_
  intro p e s m below meth co T S
  refine Go.lloadN S d_prog_17_method_6_code_0 rfl (pc' := 1) rfl ?_
  refine Go.lloadN S d_prog_17_method_6_code_1 rfl (pc' := 2) rfl ?_
  refine Go.invokestatic S (y := ⟨"java/lang/Long", "compare", "(JJ)I"⟩) (rm_jdk_35_method_42_code hw l1 r1 S.ext) (wd9 hw) (wd10 hw) (wd11 hw) (wd12 hw) (by decide) d_prog_17_method_6_code_2 rfl pd0 (argsL := [(.long l1), (.long r1)]) rfl rfl rfl (by decide) (W := 0) rfl (by decide) (by decide) (by decide) all0 (pc' := 5) rfl ?_
  intro v1 T1 h1 L1 S1 K1 q1
  obtain ⟨rfl, rfl⟩ := q1
  show Go _ _ _ _ T1 (mkF m 5 #[.val (.ref a), .val (.long l1), .second, .val (.long r1), .second, .unset] [(.int (if l1 < r1 then -1 else if l1 = r1 then 0 else 1 : Int32))])
  refine Go.istore S1 d_prog_17_method_6_code_5 (Ls' := #[.val (.ref a), .val (.long l1), .second, .val (.long r1), .second, .val (.int (if l1 < r1 then -1 else if l1 = r1 then 0 else 1 : Int32))]) rfl (pc' := 7) rfl ?_
  refine Go.aloadN S1 d_prog_17_method_6_code_7 rfl rfl (pc' := 8) rfl ?_
  refine Go.invokevirtualUp S1 (y := ⟨"java/lang/Enum", "ordinal", "()I"⟩) (rm_jdk_37_method_2_code hw a 1 S1.ext F) (wd13 hw) (wd15 hw) (wd14 hw) (wd17 hw) (wd16 hw) (wd18 hw) (wd19 hw) (by decide) E d_prog_17_method_6_code_8 rfl pd1 (argsL := []) rfl rfl rfl (by decide) (W := 0) rfl (by decide) (by decide) (by decide) all0 (pc' := 11) rfl ?_
  intro v2 T2 h2 L2 S2 K2 q2
  obtain ⟨rfl, rfl⟩ := q2
  show Go _ _ _ _ T2 (mkF m 11 #[.val (.ref a), .val (.long l1), .second, .val (.long r1), .second, .val (.int (if l1 < r1 then -1 else if l1 = r1 then 0 else 1 : Int32))] [(.int (1 : Int32))])
  refine Go.tableswitch S2 d_prog_17_method_6_code_11 (by decide) (o := 60) rfl (pc' := 71) (by decide) ?_
  refine Go.iload S2 d_prog_17_method_6_code_71 rfl (pc' := 73) rfl ?_
  refine Go.if_eq S2 d_prog_17_method_6_code_73 (pt := 80) (by decide) (pc' := 76) rfl ?_ ?_
  · intro c73
    refine Go.iconst S2 (v := 0) d_prog_17_method_6_code_80 rfl (pc' := 81) rfl ?_
    refine Go.goto S2 d_prog_17_method_6_code_81 (pc' := 133) (by decide) ?_
    exact Go.zreturn S2 rfl (by decide) d_prog_17_method_6_code_133 (z' := (0 : Int32)) rfl (by decide) (by decide) (⟨by rw [if_pos ((own_cmp l1 r1).1.mp c73)], rfl⟩)
  · intro c73
    refine Go.iconst S2 (v := 1) d_prog_17_method_6_code_76 rfl (pc' := 77) rfl ?_
    refine Go.goto S2 d_prog_17_method_6_code_77 (pc' := 133) (by decide) ?_
    exact Go.zreturn S2 rfl (by decide) d_prog_17_method_6_code_133 (z' := (1 : Int32)) rfl (by decide) (by decide) (⟨by rw [if_neg (fun q => c73 ((own_cmp l1 r1).1.mpr q))], rfl⟩)
set_option maxRecDepth 65536 in
set_option maxHeartbeats 4000000 in
theorem rm_test2 {l : Launch} {Z : State} {a0 : Array Value} (hw : HW Z a0) (a : Addr) (l1 : Int64) (r1 : Int64)  {h0 : Heap} (hE : Ext Z.heap h0) (F : Fld Z h0 a "java/lang/Enum" "ordinal" "I" (.int 2)) (E : Exa Z h0 a "com/example/tychon/tychon/model/Condition$Relation") :
    OMeets l Z (⟨"com/example/tychon/tychon/model/Condition$Relation", "test", "(JJ)Z"⟩ : MethodName) prog_17_method_6_code 6 (some .boolean) ({ frames := 1, cells := 0, slots := 0, locals := 15 } : Room) #[(.ref a), (.long l1), (.long r1)] h0 [] (fun v h => v = some (.int (if l1 < r1 then 1 else 0 : Int32)) ∧ h0 = h) := by
  refine OMeets.body (plainFor_of_name pn2) hE #[.val (.ref a), .val (.long l1), .second, .val (.long r1), .second, .unset] (fun m => by first | rfl | (simp [entryFrame, mkF, argsToLocals, Value.category, maxLocals]; done)) ?_
  intro p e s m below meth co T S
  refine Go.lloadN S d_prog_17_method_6_code_0 rfl (pc' := 1) rfl ?_
  refine Go.lloadN S d_prog_17_method_6_code_1 rfl (pc' := 2) rfl ?_
  refine Go.invokestatic S (y := ⟨"java/lang/Long", "compare", "(JJ)I"⟩) (rm_jdk_35_method_42_code hw l1 r1 S.ext) (wd9 hw) (wd10 hw) (wd11 hw) (wd12 hw) (by decide) d_prog_17_method_6_code_2 rfl pd0 (argsL := [(.long l1), (.long r1)]) rfl rfl rfl (by decide) (W := 0) rfl (by decide) (by decide) (by decide) all0 (pc' := 5) rfl ?_
  intro v1 T1 h1 L1 S1 K1 q1
  obtain ⟨rfl, rfl⟩ := q1
  show Go _ _ _ _ T1 (mkF m 5 #[.val (.ref a), .val (.long l1), .second, .val (.long r1), .second, .unset] [(.int (if l1 < r1 then -1 else if l1 = r1 then 0 else 1 : Int32))])
  refine Go.istore S1 d_prog_17_method_6_code_5 (Ls' := #[.val (.ref a), .val (.long l1), .second, .val (.long r1), .second, .val (.int (if l1 < r1 then -1 else if l1 = r1 then 0 else 1 : Int32))]) rfl (pc' := 7) rfl ?_
  refine Go.aloadN S1 d_prog_17_method_6_code_7 rfl rfl (pc' := 8) rfl ?_
  refine Go.invokevirtualUp S1 (y := ⟨"java/lang/Enum", "ordinal", "()I"⟩) (rm_jdk_37_method_2_code hw a 2 S1.ext F) (wd13 hw) (wd15 hw) (wd14 hw) (wd17 hw) (wd16 hw) (wd18 hw) (wd19 hw) (by decide) E d_prog_17_method_6_code_8 rfl pd1 (argsL := []) rfl rfl rfl (by decide) (W := 0) rfl (by decide) (by decide) (by decide) all0 (pc' := 11) rfl ?_
  intro v2 T2 h2 L2 S2 K2 q2
  obtain ⟨rfl, rfl⟩ := q2
  show Go _ _ _ _ T2 (mkF m 11 #[.val (.ref a), .val (.long l1), .second, .val (.long r1), .second, .val (.int (if l1 < r1 then -1 else if l1 = r1 then 0 else 1 : Int32))] [(.int (2 : Int32))])
  refine Go.tableswitch S2 d_prog_17_method_6_code_11 (by decide) (o := 73) rfl (pc' := 84) (by decide) ?_
  refine Go.iload S2 d_prog_17_method_6_code_84 rfl (pc' := 86) rfl ?_
  refine Go.if_ge S2 d_prog_17_method_6_code_86 (pt := 93) (by decide) (pc' := 89) rfl ?_ ?_
  · intro c86
    refine Go.iconst S2 (v := 0) d_prog_17_method_6_code_93 rfl (pc' := 94) rfl ?_
    refine Go.goto S2 d_prog_17_method_6_code_94 (pc' := 133) (by decide) ?_
    exact Go.zreturn S2 rfl (by decide) d_prog_17_method_6_code_133 (z' := (0 : Int32)) rfl (by decide) (by decide) (⟨by rw [if_neg (fun q => c86 ((own_cmp l1 r1).2.1.mpr q))], rfl⟩)
  · intro c86
    refine Go.iconst S2 (v := 1) d_prog_17_method_6_code_89 rfl (pc' := 90) rfl ?_
    refine Go.goto S2 d_prog_17_method_6_code_90 (pc' := 133) (by decide) ?_
    exact Go.zreturn S2 rfl (by decide) d_prog_17_method_6_code_133 (z' := (1 : Int32)) rfl (by decide) (by decide) (⟨by rw [if_pos ((own_cmp l1 r1).2.1.mp c86)], rfl⟩)
set_option maxRecDepth 65536 in
set_option maxHeartbeats 4000000 in
theorem rm_test3 {l : Launch} {Z : State} {a0 : Array Value} (hw : HW Z a0) (a : Addr) (l1 : Int64) (r1 : Int64)  {h0 : Heap} (hE : Ext Z.heap h0) (F : Fld Z h0 a "java/lang/Enum" "ordinal" "I" (.int 3)) (E : Exa Z h0 a "com/example/tychon/tychon/model/Condition$Relation") :
    OMeets l Z (⟨"com/example/tychon/tychon/model/Condition$Relation", "test", "(JJ)Z"⟩ : MethodName) prog_17_method_6_code 6 (some .boolean) ({ frames := 1, cells := 0, slots := 0, locals := 15 } : Room) #[(.ref a), (.long l1), (.long r1)] h0 [] (fun v h => v = some (.int (if r1 < l1 then 0 else 1 : Int32)) ∧ h0 = h) := by
  refine OMeets.body (plainFor_of_name pn2) hE #[.val (.ref a), .val (.long l1), .second, .val (.long r1), .second, .unset] (fun m => by first | rfl | (simp [entryFrame, mkF, argsToLocals, Value.category, maxLocals]; done)) ?_
  intro p e s m below meth co T S
  refine Go.lloadN S d_prog_17_method_6_code_0 rfl (pc' := 1) rfl ?_
  refine Go.lloadN S d_prog_17_method_6_code_1 rfl (pc' := 2) rfl ?_
  refine Go.invokestatic S (y := ⟨"java/lang/Long", "compare", "(JJ)I"⟩) (rm_jdk_35_method_42_code hw l1 r1 S.ext) (wd9 hw) (wd10 hw) (wd11 hw) (wd12 hw) (by decide) d_prog_17_method_6_code_2 rfl pd0 (argsL := [(.long l1), (.long r1)]) rfl rfl rfl (by decide) (W := 0) rfl (by decide) (by decide) (by decide) all0 (pc' := 5) rfl ?_
  intro v1 T1 h1 L1 S1 K1 q1
  obtain ⟨rfl, rfl⟩ := q1
  show Go _ _ _ _ T1 (mkF m 5 #[.val (.ref a), .val (.long l1), .second, .val (.long r1), .second, .unset] [(.int (if l1 < r1 then -1 else if l1 = r1 then 0 else 1 : Int32))])
  refine Go.istore S1 d_prog_17_method_6_code_5 (Ls' := #[.val (.ref a), .val (.long l1), .second, .val (.long r1), .second, .val (.int (if l1 < r1 then -1 else if l1 = r1 then 0 else 1 : Int32))]) rfl (pc' := 7) rfl ?_
  refine Go.aloadN S1 d_prog_17_method_6_code_7 rfl rfl (pc' := 8) rfl ?_
  refine Go.invokevirtualUp S1 (y := ⟨"java/lang/Enum", "ordinal", "()I"⟩) (rm_jdk_37_method_2_code hw a 3 S1.ext F) (wd13 hw) (wd15 hw) (wd14 hw) (wd17 hw) (wd16 hw) (wd18 hw) (wd19 hw) (by decide) E d_prog_17_method_6_code_8 rfl pd1 (argsL := []) rfl rfl rfl (by decide) (W := 0) rfl (by decide) (by decide) (by decide) all0 (pc' := 11) rfl ?_
  intro v2 T2 h2 L2 S2 K2 q2
  obtain ⟨rfl, rfl⟩ := q2
  show Go _ _ _ _ T2 (mkF m 11 #[.val (.ref a), .val (.long l1), .second, .val (.long r1), .second, .val (.int (if l1 < r1 then -1 else if l1 = r1 then 0 else 1 : Int32))] [(.int (3 : Int32))])
  refine Go.tableswitch S2 d_prog_17_method_6_code_11 (by decide) (o := 86) rfl (pc' := 97) (by decide) ?_
  refine Go.iload S2 d_prog_17_method_6_code_97 rfl (pc' := 99) rfl ?_
  refine Go.if_gt S2 d_prog_17_method_6_code_99 (pt := 106) (by decide) (pc' := 102) rfl ?_ ?_
  · intro c99
    refine Go.iconst S2 (v := 0) d_prog_17_method_6_code_106 rfl (pc' := 107) rfl ?_
    refine Go.goto S2 d_prog_17_method_6_code_107 (pc' := 133) (by decide) ?_
    exact Go.zreturn S2 rfl (by decide) d_prog_17_method_6_code_133 (z' := (0 : Int32)) rfl (by decide) (by decide) (⟨by rw [if_pos ((own_cmp l1 r1).2.2.mp c99)], rfl⟩)
  · intro c99
    refine Go.iconst S2 (v := 1) d_prog_17_method_6_code_102 rfl (pc' := 103) rfl ?_
    refine Go.goto S2 d_prog_17_method_6_code_103 (pc' := 133) (by decide) ?_
    exact Go.zreturn S2 rfl (by decide) d_prog_17_method_6_code_133 (z' := (1 : Int32)) rfl (by decide) (by decide) (⟨by rw [if_neg (fun q => c99 ((own_cmp l1 r1).2.2.mpr q))], rfl⟩)
set_option maxRecDepth 65536 in
set_option maxHeartbeats 4000000 in
theorem rm_test4 {l : Launch} {Z : State} {a0 : Array Value} (hw : HW Z a0) (a : Addr) (l1 : Int64) (r1 : Int64)  {h0 : Heap} (hE : Ext Z.heap h0) (F : Fld Z h0 a "java/lang/Enum" "ordinal" "I" (.int 4)) (E : Exa Z h0 a "com/example/tychon/tychon/model/Condition$Relation") :
    OMeets l Z (⟨"com/example/tychon/tychon/model/Condition$Relation", "test", "(JJ)Z"⟩ : MethodName) prog_17_method_6_code 6 (some .boolean) ({ frames := 1, cells := 0, slots := 0, locals := 15 } : Room) #[(.ref a), (.long l1), (.long r1)] h0 [] (fun v h => v = some (.int (if r1 < l1 then 1 else 0 : Int32)) ∧ h0 = h) := by
  refine OMeets.body (plainFor_of_name pn2) hE #[.val (.ref a), .val (.long l1), .second, .val (.long r1), .second, .unset] (fun m => by first | rfl | (simp [entryFrame, mkF, argsToLocals, Value.category, maxLocals]; done)) ?_
  intro p e s m below meth co T S
  refine Go.lloadN S d_prog_17_method_6_code_0 rfl (pc' := 1) rfl ?_
  refine Go.lloadN S d_prog_17_method_6_code_1 rfl (pc' := 2) rfl ?_
  refine Go.invokestatic S (y := ⟨"java/lang/Long", "compare", "(JJ)I"⟩) (rm_jdk_35_method_42_code hw l1 r1 S.ext) (wd9 hw) (wd10 hw) (wd11 hw) (wd12 hw) (by decide) d_prog_17_method_6_code_2 rfl pd0 (argsL := [(.long l1), (.long r1)]) rfl rfl rfl (by decide) (W := 0) rfl (by decide) (by decide) (by decide) all0 (pc' := 5) rfl ?_
  intro v1 T1 h1 L1 S1 K1 q1
  obtain ⟨rfl, rfl⟩ := q1
  show Go _ _ _ _ T1 (mkF m 5 #[.val (.ref a), .val (.long l1), .second, .val (.long r1), .second, .unset] [(.int (if l1 < r1 then -1 else if l1 = r1 then 0 else 1 : Int32))])
  refine Go.istore S1 d_prog_17_method_6_code_5 (Ls' := #[.val (.ref a), .val (.long l1), .second, .val (.long r1), .second, .val (.int (if l1 < r1 then -1 else if l1 = r1 then 0 else 1 : Int32))]) rfl (pc' := 7) rfl ?_
  refine Go.aloadN S1 d_prog_17_method_6_code_7 rfl rfl (pc' := 8) rfl ?_
  refine Go.invokevirtualUp S1 (y := ⟨"java/lang/Enum", "ordinal", "()I"⟩) (rm_jdk_37_method_2_code hw a 4 S1.ext F) (wd13 hw) (wd15 hw) (wd14 hw) (wd17 hw) (wd16 hw) (wd18 hw) (wd19 hw) (by decide) E d_prog_17_method_6_code_8 rfl pd1 (argsL := []) rfl rfl rfl (by decide) (W := 0) rfl (by decide) (by decide) (by decide) all0 (pc' := 11) rfl ?_
  intro v2 T2 h2 L2 S2 K2 q2
  obtain ⟨rfl, rfl⟩ := q2
  show Go _ _ _ _ T2 (mkF m 11 #[.val (.ref a), .val (.long l1), .second, .val (.long r1), .second, .val (.int (if l1 < r1 then -1 else if l1 = r1 then 0 else 1 : Int32))] [(.int (4 : Int32))])
  refine Go.tableswitch S2 d_prog_17_method_6_code_11 (by decide) (o := 99) rfl (pc' := 110) (by decide) ?_
  refine Go.iload S2 d_prog_17_method_6_code_110 rfl (pc' := 112) rfl ?_
  refine Go.if_le S2 d_prog_17_method_6_code_112 (pt := 119) (by decide) (pc' := 115) rfl ?_ ?_
  · intro c112
    refine Go.iconst S2 (v := 0) d_prog_17_method_6_code_119 rfl (pc' := 120) rfl ?_
    refine Go.goto S2 d_prog_17_method_6_code_120 (pc' := 133) (by decide) ?_
    exact Go.zreturn S2 rfl (by decide) d_prog_17_method_6_code_133 (z' := (0 : Int32)) rfl (by decide) (by decide) (⟨by rw [if_neg (fun q => c112 ((own_cmp l1 r1).2.2.mpr q))], rfl⟩)
  · intro c112
    refine Go.iconst S2 (v := 1) d_prog_17_method_6_code_115 rfl (pc' := 116) rfl ?_
    refine Go.goto S2 d_prog_17_method_6_code_116 (pc' := 133) (by decide) ?_
    exact Go.zreturn S2 rfl (by decide) d_prog_17_method_6_code_133 (z' := (1 : Int32)) rfl (by decide) (by decide) (⟨by rw [if_pos ((own_cmp l1 r1).2.2.mp c112)], rfl⟩)
set_option maxRecDepth 65536 in
set_option maxHeartbeats 4000000 in
theorem rm_test5 {l : Launch} {Z : State} {a0 : Array Value} (hw : HW Z a0) (a : Addr) (l1 : Int64) (r1 : Int64)  {h0 : Heap} (hE : Ext Z.heap h0) (F : Fld Z h0 a "java/lang/Enum" "ordinal" "I" (.int 5)) (E : Exa Z h0 a "com/example/tychon/tychon/model/Condition$Relation") :
    OMeets l Z (⟨"com/example/tychon/tychon/model/Condition$Relation", "test", "(JJ)Z"⟩ : MethodName) prog_17_method_6_code 6 (some .boolean) ({ frames := 1, cells := 0, slots := 0, locals := 15 } : Room) #[(.ref a), (.long l1), (.long r1)] h0 [] (fun v h => v = some (.int (if l1 < r1 then 0 else 1 : Int32)) ∧ h0 = h) := by
  refine OMeets.body (plainFor_of_name pn2) hE #[.val (.ref a), .val (.long l1), .second, .val (.long r1), .second, .unset] (fun m => by first | rfl | (simp [entryFrame, mkF, argsToLocals, Value.category, maxLocals]; done)) ?_
  intro p e s m below meth co T S
  refine Go.lloadN S d_prog_17_method_6_code_0 rfl (pc' := 1) rfl ?_
  refine Go.lloadN S d_prog_17_method_6_code_1 rfl (pc' := 2) rfl ?_
  refine Go.invokestatic S (y := ⟨"java/lang/Long", "compare", "(JJ)I"⟩) (rm_jdk_35_method_42_code hw l1 r1 S.ext) (wd9 hw) (wd10 hw) (wd11 hw) (wd12 hw) (by decide) d_prog_17_method_6_code_2 rfl pd0 (argsL := [(.long l1), (.long r1)]) rfl rfl rfl (by decide) (W := 0) rfl (by decide) (by decide) (by decide) all0 (pc' := 5) rfl ?_
  intro v1 T1 h1 L1 S1 K1 q1
  obtain ⟨rfl, rfl⟩ := q1
  show Go _ _ _ _ T1 (mkF m 5 #[.val (.ref a), .val (.long l1), .second, .val (.long r1), .second, .unset] [(.int (if l1 < r1 then -1 else if l1 = r1 then 0 else 1 : Int32))])
  refine Go.istore S1 d_prog_17_method_6_code_5 (Ls' := #[.val (.ref a), .val (.long l1), .second, .val (.long r1), .second, .val (.int (if l1 < r1 then -1 else if l1 = r1 then 0 else 1 : Int32))]) rfl (pc' := 7) rfl ?_
  refine Go.aloadN S1 d_prog_17_method_6_code_7 rfl rfl (pc' := 8) rfl ?_
  refine Go.invokevirtualUp S1 (y := ⟨"java/lang/Enum", "ordinal", "()I"⟩) (rm_jdk_37_method_2_code hw a 5 S1.ext F) (wd13 hw) (wd15 hw) (wd14 hw) (wd17 hw) (wd16 hw) (wd18 hw) (wd19 hw) (by decide) E d_prog_17_method_6_code_8 rfl pd1 (argsL := []) rfl rfl rfl (by decide) (W := 0) rfl (by decide) (by decide) (by decide) all0 (pc' := 11) rfl ?_
  intro v2 T2 h2 L2 S2 K2 q2
  obtain ⟨rfl, rfl⟩ := q2
  show Go _ _ _ _ T2 (mkF m 11 #[.val (.ref a), .val (.long l1), .second, .val (.long r1), .second, .val (.int (if l1 < r1 then -1 else if l1 = r1 then 0 else 1 : Int32))] [(.int (5 : Int32))])
  refine Go.tableswitch S2 d_prog_17_method_6_code_11 (by decide) (o := 112) rfl (pc' := 123) (by decide) ?_
  refine Go.iload S2 d_prog_17_method_6_code_123 rfl (pc' := 125) rfl ?_
  refine Go.if_lt S2 d_prog_17_method_6_code_125 (pt := 132) (by decide) (pc' := 128) rfl ?_ ?_
  · intro c125
    refine Go.iconst S2 (v := 0) d_prog_17_method_6_code_132 rfl (pc' := 133) rfl ?_
    exact Go.zreturn S2 rfl (by decide) d_prog_17_method_6_code_133 (z' := (0 : Int32)) rfl (by decide) (by decide) (⟨by rw [if_pos ((own_cmp l1 r1).2.1.mp c125)], rfl⟩)
  · intro c125
    refine Go.iconst S2 (v := 1) d_prog_17_method_6_code_128 rfl (pc' := 129) rfl ?_
    refine Go.goto S2 d_prog_17_method_6_code_129 (pc' := 133) (by decide) ?_
    exact Go.zreturn S2 rfl (by decide) d_prog_17_method_6_code_133 (z' := (1 : Int32)) rfl (by decide) (by decide) (⟨by rw [if_neg (fun q => c125 ((own_cmp l1 r1).2.1.mpr q))], rfl⟩)
set_option maxRecDepth 65536 in
set_option maxHeartbeats 4000000 in
theorem j0_56 {p : Program} {l : Launch} {e : Env} {s : State} {m : MethodId} {args : Array Value} {below : List Frame} {meth : Method} {co : Code} {Z : State} {a0 : Array Value} (hw : HW Z a0) (a b right : Int64) (sel mode k m2 : Int32) (a_EQUAL a_LESS a_AT_MOST a_NOT_EQUAL a_AT_LEAST a_GREATER : Addr) {h0 h : Heap} {T : State} {locs : List Loc} (S : St p l e room_1 s m args below meth co Z x.cls code maxLocals ret x.name h0 [] T h locs 0 0) (St_EQUAL : Sta Z Z.heap "com/example/tychon/tychon/model/Condition$Relation" "EQUAL" "Lcom/example/tychon/tychon/model/Condition$Relation;" (.ref a_EQUAL)) (X_a_EQUAL : Exa Z Z.heap a_EQUAL "com/example/tychon/tychon/model/Condition$Relation") (F_a_EQUAL_ordinal : Fld Z Z.heap a_EQUAL "java/lang/Enum" "ordinal" "I" (.int 0)) (St_LESS : Sta Z Z.heap "com/example/tychon/tychon/model/Condition$Relation" "LESS" "Lcom/example/tychon/tychon/model/Condition$Relation;" (.ref a_LESS)) (X_a_LESS : Exa Z Z.heap a_LESS "com/example/tychon/tychon/model/Condition$Relation") (F_a_LESS_ordinal : Fld Z Z.heap a_LESS "java/lang/Enum" "ordinal" "I" (.int 2)) (St_AT_MOST : Sta Z Z.heap "com/example/tychon/tychon/model/Condition$Relation" "AT_MOST" "Lcom/example/tychon/tychon/model/Condition$Relation;" (.ref a_AT_MOST)) (X_a_AT_MOST : Exa Z Z.heap a_AT_MOST "com/example/tychon/tychon/model/Condition$Relation") (F_a_AT_MOST_ordinal : Fld Z Z.heap a_AT_MOST "java/lang/Enum" "ordinal" "I" (.int 3)) (St_NOT_EQUAL : Sta Z Z.heap "com/example/tychon/tychon/model/Condition$Relation" "NOT_EQUAL" "Lcom/example/tychon/tychon/model/Condition$Relation;" (.ref a_NOT_EQUAL)) (X_a_NOT_EQUAL : Exa Z Z.heap a_NOT_EQUAL "com/example/tychon/tychon/model/Condition$Relation") (F_a_NOT_EQUAL_ordinal : Fld Z Z.heap a_NOT_EQUAL "java/lang/Enum" "ordinal" "I" (.int 1)) (St_AT_LEAST : Sta Z Z.heap "com/example/tychon/tychon/model/Condition$Relation" "AT_LEAST" "Lcom/example/tychon/tychon/model/Condition$Relation;" (.ref a_AT_LEAST)) (X_a_AT_LEAST : Exa Z Z.heap a_AT_LEAST "com/example/tychon/tychon/model/Condition$Relation") (F_a_AT_LEAST_ordinal : Fld Z Z.heap a_AT_LEAST "java/lang/Enum" "ordinal" "I" (.int 5)) (St_GREATER : Sta Z Z.heap "com/example/tychon/tychon/model/Condition$Relation" "GREATER" "Lcom/example/tychon/tychon/model/Condition$Relation;" (.ref a_GREATER)) (X_a_GREATER : Exa Z Z.heap a_GREATER "com/example/tychon/tychon/model/Condition$Relation") (F_a_GREATER_ordinal : Fld Z Z.heap a_GREATER "java/lang/Enum" "ordinal" "I" (.int 4)) :
    Go p e below (PostOf Z s h0 [] room_1.cells room_1.slots (fun v h => v = some (.int 1))) T (mkF m 56 #[.val (.long a), .second, .val (.long b), .second, .val (.int sel), .val (.int mode), .val (.int k), .val (.int m2), .val (.long right), .second, .unset, .unset] []) := by
  refine Go.iload S at_56 rfl (pc' := 58) rfl ?_
  refine Go.if_ne S at_58 (pt := 83) (by decide) (pc' := 61) rfl ?_ ?_
  · intro c58
    refine Go.iload S at_83 rfl (pc' := 85) rfl ?_
    refine Go.iconst S (v := 1) at_85 rfl (pc' := 86) rfl ?_
    refine Go.icmp_ne S at_86 (pt := 111) (by decide) (pc' := 89) rfl ?_ ?_
    · intro c86
      refine Go.iload S at_111 rfl (pc' := 113) rfl ?_
      refine Go.iconst S (v := 2) at_113 rfl (pc' := 114) rfl ?_
      refine Go.icmp_ne S at_114 (pt := 139) (by decide) (pc' := 117) rfl ?_ ?_
      · intro c114
        refine Go.iload S at_139 rfl (pc' := 141) rfl ?_
        refine Go.iconst S (v := 3) at_141 rfl (pc' := 142) rfl ?_
        refine Go.icmp_ne S at_142 (pt := 167) (by decide) (pc' := 145) rfl ?_ ?_
        · intro c142
          refine Go.iload S at_167 rfl (pc' := 169) rfl ?_
          refine Go.iconst S (v := 4) at_169 rfl (pc' := 170) rfl ?_
          refine Go.icmp_ne S at_170 (pt := 195) (by decide) (pc' := 173) rfl ?_ ?_
          · intro c170
            refine Go.getstatic S (host := "") (Or.inl (wd28 hw)) Via.refl St_AT_LEAST at_195 (pc' := 198) rfl ?_
            intro T1 S1
            refine Go.astore S1 at_198 rfl (Ls' := #[.val (.long a), .second, .val (.long b), .second, .val (.int sel), .val (.int mode), .val (.int k), .val (.int m2), .val (.long right), .second, .val (.ref a_AT_LEAST), .unset]) rfl (pc' := 200) rfl ?_
            refine Go.lloadN S1 at_200 rfl (pc' := 201) rfl ?_
            refine Go.lload S1 at_201 rfl (pc' := 203) rfl ?_
            refine Go.lcmp_lt S1 at_203 (pc1 := 204) rfl at_204 (pt := 211) (by decide) (pc' := 207) rfl ?_ ?_
            · intro c203
              refine Go.iconst S1 (v := 0) at_211 rfl (pc' := 212) rfl ?_
              refine Go.istore S1 at_212 (Ls' := #[.val (.long a), .second, .val (.long b), .second, .val (.int sel), .val (.int mode), .val (.int k), .val (.int m2), .val (.long right), .second, .val (.ref a_AT_LEAST), .val (.int (0 : Int32))]) rfl (pc' := 214) rfl ?_
              refine Go.aload S1 at_214 rfl rfl (pc' := 216) rfl ?_
              refine Go.lloadN S1 at_216 rfl (pc' := 217) rfl ?_
              refine Go.lload S1 at_217 rfl (pc' := 219) rfl ?_
              refine Go.invokevirtual S1 (y := ⟨"com/example/tychon/tychon/model/Condition$Relation", "test", "(JJ)Z"⟩) (rm_test5 hw a_AT_LEAST a right S1.ext (F_a_AT_LEAST_ordinal.ext S1.ext) (X_a_AT_LEAST.ext S1.ext)) (wd4 hw) (wd5 hw) (S1.nf (wd7 hw)) (wd7 hw) (wd6 hw) (wd2 hw) (wd8 hw) (by decide) (X_a_AT_LEAST.ext S1.ext) at_219 rfl pd2 (argsL := [(.long a), (.long right)]) rfl rfl rfl (by decide) (W := 0) rfl (by decide) (by decide) (by decide) all0 (pc' := 222) rfl ?_
              intro v2 T2 h2 L2 S2 K2 q2
              rw [if_pos c203] at q2
              obtain ⟨rfl, rfl⟩ := q2
              show Go _ _ _ _ T2 (mkF m 222 #[.val (.long a), .second, .val (.long b), .second, .val (.int sel), .val (.int mode), .val (.int k), .val (.int m2), .val (.long right), .second, .val (.ref a_AT_LEAST), .val (.int (0 : Int32))] [(.int (0 : Int32))])
              refine Go.iload S2 at_222 rfl (pc' := 224) rfl ?_
              refine Go.icmp_ne S2 at_224 (pt := 231) (by decide) (pc' := 227) rfl ?_ ?_
              · intro c224; exact absurd (by decide) c224
              · intro c224
                refine Go.iconst S2 (v := 1) at_227 rfl (pc' := 228) rfl ?_
                refine Go.goto S2 at_228 (pc' := 232) (by decide) ?_
                exact Go.zreturn S2 rfl (by decide) at_232 (z' := (1 : Int32)) rfl (by decide) (by decide) (rfl)
            · intro c203
              refine Go.iconst S1 (v := 1) at_207 rfl (pc' := 208) rfl ?_
              refine Go.goto S1 at_208 (pc' := 212) (by decide) ?_
              refine Go.istore S1 at_212 (Ls' := #[.val (.long a), .second, .val (.long b), .second, .val (.int sel), .val (.int mode), .val (.int k), .val (.int m2), .val (.long right), .second, .val (.ref a_AT_LEAST), .val (.int (1 : Int32))]) rfl (pc' := 214) rfl ?_
              refine Go.aload S1 at_214 rfl rfl (pc' := 216) rfl ?_
              refine Go.lloadN S1 at_216 rfl (pc' := 217) rfl ?_
              refine Go.lload S1 at_217 rfl (pc' := 219) rfl ?_
              refine Go.invokevirtual S1 (y := ⟨"com/example/tychon/tychon/model/Condition$Relation", "test", "(JJ)Z"⟩) (rm_test5 hw a_AT_LEAST a right S1.ext (F_a_AT_LEAST_ordinal.ext S1.ext) (X_a_AT_LEAST.ext S1.ext)) (wd4 hw) (wd5 hw) (S1.nf (wd7 hw)) (wd7 hw) (wd6 hw) (wd2 hw) (wd8 hw) (by decide) (X_a_AT_LEAST.ext S1.ext) at_219 rfl pd2 (argsL := [(.long a), (.long right)]) rfl rfl rfl (by decide) (W := 0) rfl (by decide) (by decide) (by decide) all0 (pc' := 222) rfl ?_
              intro v3 T3 h3 L3 S3 K3 q3
              rw [if_neg c203] at q3
              obtain ⟨rfl, rfl⟩ := q3
              show Go _ _ _ _ T3 (mkF m 222 #[.val (.long a), .second, .val (.long b), .second, .val (.int sel), .val (.int mode), .val (.int k), .val (.int m2), .val (.long right), .second, .val (.ref a_AT_LEAST), .val (.int (1 : Int32))] [(.int (1 : Int32))])
              refine Go.iload S3 at_222 rfl (pc' := 224) rfl ?_
              refine Go.icmp_ne S3 at_224 (pt := 231) (by decide) (pc' := 227) rfl ?_ ?_
              · intro c224; exact absurd (by decide) c224
              · intro c224
                refine Go.iconst S3 (v := 1) at_227 rfl (pc' := 228) rfl ?_
                refine Go.goto S3 at_228 (pc' := 232) (by decide) ?_
                exact Go.zreturn S3 rfl (by decide) at_232 (z' := (1 : Int32)) rfl (by decide) (by decide) (rfl)
          · intro c170
            refine Go.getstatic S (host := "") (Or.inl (wd30 hw)) Via.refl St_GREATER at_173 (pc' := 176) rfl ?_
            intro T4 S4
            refine Go.astore S4 at_176 rfl (Ls' := #[.val (.long a), .second, .val (.long b), .second, .val (.int sel), .val (.int mode), .val (.int k), .val (.int m2), .val (.long right), .second, .val (.ref a_GREATER), .unset]) rfl (pc' := 178) rfl ?_
            refine Go.lloadN S4 at_178 rfl (pc' := 179) rfl ?_
            refine Go.lload S4 at_179 rfl (pc' := 181) rfl ?_
            refine Go.lcmp_le S4 at_181 (pc1 := 182) rfl at_182 (pt := 189) (by decide) (pc' := 185) rfl ?_ ?_
            · intro c181
              refine Go.iconst S4 (v := 0) at_189 rfl (pc' := 190) rfl ?_
              refine Go.istore S4 at_190 (Ls' := #[.val (.long a), .second, .val (.long b), .second, .val (.int sel), .val (.int mode), .val (.int k), .val (.int m2), .val (.long right), .second, .val (.ref a_GREATER), .val (.int (0 : Int32))]) rfl (pc' := 192) rfl ?_
              refine Go.goto S4 at_192 (pc' := 214) (by decide) ?_
              refine Go.aload S4 at_214 rfl rfl (pc' := 216) rfl ?_
              refine Go.lloadN S4 at_216 rfl (pc' := 217) rfl ?_
              refine Go.lload S4 at_217 rfl (pc' := 219) rfl ?_
              refine Go.invokevirtual S4 (y := ⟨"com/example/tychon/tychon/model/Condition$Relation", "test", "(JJ)Z"⟩) (rm_test4 hw a_GREATER a right S4.ext (F_a_GREATER_ordinal.ext S4.ext) (X_a_GREATER.ext S4.ext)) (wd4 hw) (wd5 hw) (S4.nf (wd7 hw)) (wd7 hw) (wd6 hw) (wd2 hw) (wd8 hw) (by decide) (X_a_GREATER.ext S4.ext) at_219 rfl pd2 (argsL := [(.long a), (.long right)]) rfl rfl rfl (by decide) (W := 0) rfl (by decide) (by decide) (by decide) all0 (pc' := 222) rfl ?_
              intro v5 T5 h5 L5 S5 K5 q5
              rw [if_neg c181] at q5
              obtain ⟨rfl, rfl⟩ := q5
              show Go _ _ _ _ T5 (mkF m 222 #[.val (.long a), .second, .val (.long b), .second, .val (.int sel), .val (.int mode), .val (.int k), .val (.int m2), .val (.long right), .second, .val (.ref a_GREATER), .val (.int (0 : Int32))] [(.int (0 : Int32))])
              refine Go.iload S5 at_222 rfl (pc' := 224) rfl ?_
              refine Go.icmp_ne S5 at_224 (pt := 231) (by decide) (pc' := 227) rfl ?_ ?_
              · intro c224; exact absurd (by decide) c224
              · intro c224
                refine Go.iconst S5 (v := 1) at_227 rfl (pc' := 228) rfl ?_
                refine Go.goto S5 at_228 (pc' := 232) (by decide) ?_
                exact Go.zreturn S5 rfl (by decide) at_232 (z' := (1 : Int32)) rfl (by decide) (by decide) (rfl)
            · intro c181
              refine Go.iconst S4 (v := 1) at_185 rfl (pc' := 186) rfl ?_
              refine Go.goto S4 at_186 (pc' := 190) (by decide) ?_
              refine Go.istore S4 at_190 (Ls' := #[.val (.long a), .second, .val (.long b), .second, .val (.int sel), .val (.int mode), .val (.int k), .val (.int m2), .val (.long right), .second, .val (.ref a_GREATER), .val (.int (1 : Int32))]) rfl (pc' := 192) rfl ?_
              refine Go.goto S4 at_192 (pc' := 214) (by decide) ?_
              refine Go.aload S4 at_214 rfl rfl (pc' := 216) rfl ?_
              refine Go.lloadN S4 at_216 rfl (pc' := 217) rfl ?_
              refine Go.lload S4 at_217 rfl (pc' := 219) rfl ?_
              refine Go.invokevirtual S4 (y := ⟨"com/example/tychon/tychon/model/Condition$Relation", "test", "(JJ)Z"⟩) (rm_test4 hw a_GREATER a right S4.ext (F_a_GREATER_ordinal.ext S4.ext) (X_a_GREATER.ext S4.ext)) (wd4 hw) (wd5 hw) (S4.nf (wd7 hw)) (wd7 hw) (wd6 hw) (wd2 hw) (wd8 hw) (by decide) (X_a_GREATER.ext S4.ext) at_219 rfl pd2 (argsL := [(.long a), (.long right)]) rfl rfl rfl (by decide) (W := 0) rfl (by decide) (by decide) (by decide) all0 (pc' := 222) rfl ?_
              intro v6 T6 h6 L6 S6 K6 q6
              rw [if_pos c181] at q6
              obtain ⟨rfl, rfl⟩ := q6
              show Go _ _ _ _ T6 (mkF m 222 #[.val (.long a), .second, .val (.long b), .second, .val (.int sel), .val (.int mode), .val (.int k), .val (.int m2), .val (.long right), .second, .val (.ref a_GREATER), .val (.int (1 : Int32))] [(.int (1 : Int32))])
              refine Go.iload S6 at_222 rfl (pc' := 224) rfl ?_
              refine Go.icmp_ne S6 at_224 (pt := 231) (by decide) (pc' := 227) rfl ?_ ?_
              · intro c224; exact absurd (by decide) c224
              · intro c224
                refine Go.iconst S6 (v := 1) at_227 rfl (pc' := 228) rfl ?_
                refine Go.goto S6 at_228 (pc' := 232) (by decide) ?_
                exact Go.zreturn S6 rfl (by decide) at_232 (z' := (1 : Int32)) rfl (by decide) (by decide) (rfl)
        · intro c142
          refine Go.getstatic S (host := "") (Or.inl (wd24 hw)) Via.refl St_AT_MOST at_145 (pc' := 148) rfl ?_
          intro T7 S7
          refine Go.astore S7 at_148 rfl (Ls' := #[.val (.long a), .second, .val (.long b), .second, .val (.int sel), .val (.int mode), .val (.int k), .val (.int m2), .val (.long right), .second, .val (.ref a_AT_MOST), .unset]) rfl (pc' := 150) rfl ?_
          refine Go.lloadN S7 at_150 rfl (pc' := 151) rfl ?_
          refine Go.lload S7 at_151 rfl (pc' := 153) rfl ?_
          refine Go.lcmp_gt S7 at_153 (pc1 := 154) rfl at_154 (pt := 161) (by decide) (pc' := 157) rfl ?_ ?_
          · intro c153
            refine Go.iconst S7 (v := 0) at_161 rfl (pc' := 162) rfl ?_
            refine Go.istore S7 at_162 (Ls' := #[.val (.long a), .second, .val (.long b), .second, .val (.int sel), .val (.int mode), .val (.int k), .val (.int m2), .val (.long right), .second, .val (.ref a_AT_MOST), .val (.int (0 : Int32))]) rfl (pc' := 164) rfl ?_
            refine Go.goto S7 at_164 (pc' := 214) (by decide) ?_
            refine Go.aload S7 at_214 rfl rfl (pc' := 216) rfl ?_
            refine Go.lloadN S7 at_216 rfl (pc' := 217) rfl ?_
            refine Go.lload S7 at_217 rfl (pc' := 219) rfl ?_
            refine Go.invokevirtual S7 (y := ⟨"com/example/tychon/tychon/model/Condition$Relation", "test", "(JJ)Z"⟩) (rm_test3 hw a_AT_MOST a right S7.ext (F_a_AT_MOST_ordinal.ext S7.ext) (X_a_AT_MOST.ext S7.ext)) (wd4 hw) (wd5 hw) (S7.nf (wd7 hw)) (wd7 hw) (wd6 hw) (wd2 hw) (wd8 hw) (by decide) (X_a_AT_MOST.ext S7.ext) at_219 rfl pd2 (argsL := [(.long a), (.long right)]) rfl rfl rfl (by decide) (W := 0) rfl (by decide) (by decide) (by decide) all0 (pc' := 222) rfl ?_
            intro v8 T8 h8 L8 S8 K8 q8
            rw [if_pos c153] at q8
            obtain ⟨rfl, rfl⟩ := q8
            show Go _ _ _ _ T8 (mkF m 222 #[.val (.long a), .second, .val (.long b), .second, .val (.int sel), .val (.int mode), .val (.int k), .val (.int m2), .val (.long right), .second, .val (.ref a_AT_MOST), .val (.int (0 : Int32))] [(.int (0 : Int32))])
            refine Go.iload S8 at_222 rfl (pc' := 224) rfl ?_
            refine Go.icmp_ne S8 at_224 (pt := 231) (by decide) (pc' := 227) rfl ?_ ?_
            · intro c224; exact absurd (by decide) c224
            · intro c224
              refine Go.iconst S8 (v := 1) at_227 rfl (pc' := 228) rfl ?_
              refine Go.goto S8 at_228 (pc' := 232) (by decide) ?_
              exact Go.zreturn S8 rfl (by decide) at_232 (z' := (1 : Int32)) rfl (by decide) (by decide) (rfl)
          · intro c153
            refine Go.iconst S7 (v := 1) at_157 rfl (pc' := 158) rfl ?_
            refine Go.goto S7 at_158 (pc' := 162) (by decide) ?_
            refine Go.istore S7 at_162 (Ls' := #[.val (.long a), .second, .val (.long b), .second, .val (.int sel), .val (.int mode), .val (.int k), .val (.int m2), .val (.long right), .second, .val (.ref a_AT_MOST), .val (.int (1 : Int32))]) rfl (pc' := 164) rfl ?_
            refine Go.goto S7 at_164 (pc' := 214) (by decide) ?_
            refine Go.aload S7 at_214 rfl rfl (pc' := 216) rfl ?_
            refine Go.lloadN S7 at_216 rfl (pc' := 217) rfl ?_
            refine Go.lload S7 at_217 rfl (pc' := 219) rfl ?_
            refine Go.invokevirtual S7 (y := ⟨"com/example/tychon/tychon/model/Condition$Relation", "test", "(JJ)Z"⟩) (rm_test3 hw a_AT_MOST a right S7.ext (F_a_AT_MOST_ordinal.ext S7.ext) (X_a_AT_MOST.ext S7.ext)) (wd4 hw) (wd5 hw) (S7.nf (wd7 hw)) (wd7 hw) (wd6 hw) (wd2 hw) (wd8 hw) (by decide) (X_a_AT_MOST.ext S7.ext) at_219 rfl pd2 (argsL := [(.long a), (.long right)]) rfl rfl rfl (by decide) (W := 0) rfl (by decide) (by decide) (by decide) all0 (pc' := 222) rfl ?_
            intro v9 T9 h9 L9 S9 K9 q9
            rw [if_neg c153] at q9
            obtain ⟨rfl, rfl⟩ := q9
            show Go _ _ _ _ T9 (mkF m 222 #[.val (.long a), .second, .val (.long b), .second, .val (.int sel), .val (.int mode), .val (.int k), .val (.int m2), .val (.long right), .second, .val (.ref a_AT_MOST), .val (.int (1 : Int32))] [(.int (1 : Int32))])
            refine Go.iload S9 at_222 rfl (pc' := 224) rfl ?_
            refine Go.icmp_ne S9 at_224 (pt := 231) (by decide) (pc' := 227) rfl ?_ ?_
            · intro c224; exact absurd (by decide) c224
            · intro c224
              refine Go.iconst S9 (v := 1) at_227 rfl (pc' := 228) rfl ?_
              refine Go.goto S9 at_228 (pc' := 232) (by decide) ?_
              exact Go.zreturn S9 rfl (by decide) at_232 (z' := (1 : Int32)) rfl (by decide) (by decide) (rfl)
      · intro c114
        refine Go.getstatic S (host := "") (Or.inl (wd22 hw)) Via.refl St_LESS at_117 (pc' := 120) rfl ?_
        intro T10 S10
        refine Go.astore S10 at_120 rfl (Ls' := #[.val (.long a), .second, .val (.long b), .second, .val (.int sel), .val (.int mode), .val (.int k), .val (.int m2), .val (.long right), .second, .val (.ref a_LESS), .unset]) rfl (pc' := 122) rfl ?_
        refine Go.lloadN S10 at_122 rfl (pc' := 123) rfl ?_
        refine Go.lload S10 at_123 rfl (pc' := 125) rfl ?_
        refine Go.lcmp_ge S10 at_125 (pc1 := 126) rfl at_126 (pt := 133) (by decide) (pc' := 129) rfl ?_ ?_
        · intro c125
          refine Go.iconst S10 (v := 0) at_133 rfl (pc' := 134) rfl ?_
          refine Go.istore S10 at_134 (Ls' := #[.val (.long a), .second, .val (.long b), .second, .val (.int sel), .val (.int mode), .val (.int k), .val (.int m2), .val (.long right), .second, .val (.ref a_LESS), .val (.int (0 : Int32))]) rfl (pc' := 136) rfl ?_
          refine Go.goto S10 at_136 (pc' := 214) (by decide) ?_
          refine Go.aload S10 at_214 rfl rfl (pc' := 216) rfl ?_
          refine Go.lloadN S10 at_216 rfl (pc' := 217) rfl ?_
          refine Go.lload S10 at_217 rfl (pc' := 219) rfl ?_
          refine Go.invokevirtual S10 (y := ⟨"com/example/tychon/tychon/model/Condition$Relation", "test", "(JJ)Z"⟩) (rm_test2 hw a_LESS a right S10.ext (F_a_LESS_ordinal.ext S10.ext) (X_a_LESS.ext S10.ext)) (wd4 hw) (wd5 hw) (S10.nf (wd7 hw)) (wd7 hw) (wd6 hw) (wd2 hw) (wd8 hw) (by decide) (X_a_LESS.ext S10.ext) at_219 rfl pd2 (argsL := [(.long a), (.long right)]) rfl rfl rfl (by decide) (W := 0) rfl (by decide) (by decide) (by decide) all0 (pc' := 222) rfl ?_
          intro v11 T11 h11 L11 S11 K11 q11
          rw [if_neg c125] at q11
          obtain ⟨rfl, rfl⟩ := q11
          show Go _ _ _ _ T11 (mkF m 222 #[.val (.long a), .second, .val (.long b), .second, .val (.int sel), .val (.int mode), .val (.int k), .val (.int m2), .val (.long right), .second, .val (.ref a_LESS), .val (.int (0 : Int32))] [(.int (0 : Int32))])
          refine Go.iload S11 at_222 rfl (pc' := 224) rfl ?_
          refine Go.icmp_ne S11 at_224 (pt := 231) (by decide) (pc' := 227) rfl ?_ ?_
          · intro c224; exact absurd (by decide) c224
          · intro c224
            refine Go.iconst S11 (v := 1) at_227 rfl (pc' := 228) rfl ?_
            refine Go.goto S11 at_228 (pc' := 232) (by decide) ?_
            exact Go.zreturn S11 rfl (by decide) at_232 (z' := (1 : Int32)) rfl (by decide) (by decide) (rfl)
        · intro c125
          refine Go.iconst S10 (v := 1) at_129 rfl (pc' := 130) rfl ?_
          refine Go.goto S10 at_130 (pc' := 134) (by decide) ?_
          refine Go.istore S10 at_134 (Ls' := #[.val (.long a), .second, .val (.long b), .second, .val (.int sel), .val (.int mode), .val (.int k), .val (.int m2), .val (.long right), .second, .val (.ref a_LESS), .val (.int (1 : Int32))]) rfl (pc' := 136) rfl ?_
          refine Go.goto S10 at_136 (pc' := 214) (by decide) ?_
          refine Go.aload S10 at_214 rfl rfl (pc' := 216) rfl ?_
          refine Go.lloadN S10 at_216 rfl (pc' := 217) rfl ?_
          refine Go.lload S10 at_217 rfl (pc' := 219) rfl ?_
          refine Go.invokevirtual S10 (y := ⟨"com/example/tychon/tychon/model/Condition$Relation", "test", "(JJ)Z"⟩) (rm_test2 hw a_LESS a right S10.ext (F_a_LESS_ordinal.ext S10.ext) (X_a_LESS.ext S10.ext)) (wd4 hw) (wd5 hw) (S10.nf (wd7 hw)) (wd7 hw) (wd6 hw) (wd2 hw) (wd8 hw) (by decide) (X_a_LESS.ext S10.ext) at_219 rfl pd2 (argsL := [(.long a), (.long right)]) rfl rfl rfl (by decide) (W := 0) rfl (by decide) (by decide) (by decide) all0 (pc' := 222) rfl ?_
          intro v12 T12 h12 L12 S12 K12 q12
          rw [if_pos c125] at q12
          obtain ⟨rfl, rfl⟩ := q12
          show Go _ _ _ _ T12 (mkF m 222 #[.val (.long a), .second, .val (.long b), .second, .val (.int sel), .val (.int mode), .val (.int k), .val (.int m2), .val (.long right), .second, .val (.ref a_LESS), .val (.int (1 : Int32))] [(.int (1 : Int32))])
          refine Go.iload S12 at_222 rfl (pc' := 224) rfl ?_
          refine Go.icmp_ne S12 at_224 (pt := 231) (by decide) (pc' := 227) rfl ?_ ?_
          · intro c224; exact absurd (by decide) c224
          · intro c224
            refine Go.iconst S12 (v := 1) at_227 rfl (pc' := 228) rfl ?_
            refine Go.goto S12 at_228 (pc' := 232) (by decide) ?_
            exact Go.zreturn S12 rfl (by decide) at_232 (z' := (1 : Int32)) rfl (by decide) (by decide) (rfl)
    · intro c86
      refine Go.getstatic S (host := "") (Or.inl (wd26 hw)) Via.refl St_NOT_EQUAL at_89 (pc' := 92) rfl ?_
      intro T13 S13
      refine Go.astore S13 at_92 rfl (Ls' := #[.val (.long a), .second, .val (.long b), .second, .val (.int sel), .val (.int mode), .val (.int k), .val (.int m2), .val (.long right), .second, .val (.ref a_NOT_EQUAL), .unset]) rfl (pc' := 94) rfl ?_
      refine Go.lloadN S13 at_94 rfl (pc' := 95) rfl ?_
      refine Go.lload S13 at_95 rfl (pc' := 97) rfl ?_
      refine Go.lcmp_eq S13 at_97 (pc1 := 98) rfl at_98 (pt := 105) (by decide) (pc' := 101) rfl ?_ ?_
      · intro c97
        refine Go.iconst S13 (v := 0) at_105 rfl (pc' := 106) rfl ?_
        refine Go.istore S13 at_106 (Ls' := #[.val (.long a), .second, .val (.long b), .second, .val (.int sel), .val (.int mode), .val (.int k), .val (.int m2), .val (.long right), .second, .val (.ref a_NOT_EQUAL), .val (.int (0 : Int32))]) rfl (pc' := 108) rfl ?_
        refine Go.goto S13 at_108 (pc' := 214) (by decide) ?_
        refine Go.aload S13 at_214 rfl rfl (pc' := 216) rfl ?_
        refine Go.lloadN S13 at_216 rfl (pc' := 217) rfl ?_
        refine Go.lload S13 at_217 rfl (pc' := 219) rfl ?_
        refine Go.invokevirtual S13 (y := ⟨"com/example/tychon/tychon/model/Condition$Relation", "test", "(JJ)Z"⟩) (rm_test1 hw a_NOT_EQUAL a right S13.ext (F_a_NOT_EQUAL_ordinal.ext S13.ext) (X_a_NOT_EQUAL.ext S13.ext)) (wd4 hw) (wd5 hw) (S13.nf (wd7 hw)) (wd7 hw) (wd6 hw) (wd2 hw) (wd8 hw) (by decide) (X_a_NOT_EQUAL.ext S13.ext) at_219 rfl pd2 (argsL := [(.long a), (.long right)]) rfl rfl rfl (by decide) (W := 0) rfl (by decide) (by decide) (by decide) all0 (pc' := 222) rfl ?_
        intro v14 T14 h14 L14 S14 K14 q14
        rw [if_pos c97] at q14
        obtain ⟨rfl, rfl⟩ := q14
        show Go _ _ _ _ T14 (mkF m 222 #[.val (.long a), .second, .val (.long b), .second, .val (.int sel), .val (.int mode), .val (.int k), .val (.int m2), .val (.long right), .second, .val (.ref a_NOT_EQUAL), .val (.int (0 : Int32))] [(.int (0 : Int32))])
        refine Go.iload S14 at_222 rfl (pc' := 224) rfl ?_
        refine Go.icmp_ne S14 at_224 (pt := 231) (by decide) (pc' := 227) rfl ?_ ?_
        · intro c224; exact absurd (by decide) c224
        · intro c224
          refine Go.iconst S14 (v := 1) at_227 rfl (pc' := 228) rfl ?_
          refine Go.goto S14 at_228 (pc' := 232) (by decide) ?_
          exact Go.zreturn S14 rfl (by decide) at_232 (z' := (1 : Int32)) rfl (by decide) (by decide) (rfl)
      · intro c97
        refine Go.iconst S13 (v := 1) at_101 rfl (pc' := 102) rfl ?_
        refine Go.goto S13 at_102 (pc' := 106) (by decide) ?_
        refine Go.istore S13 at_106 (Ls' := #[.val (.long a), .second, .val (.long b), .second, .val (.int sel), .val (.int mode), .val (.int k), .val (.int m2), .val (.long right), .second, .val (.ref a_NOT_EQUAL), .val (.int (1 : Int32))]) rfl (pc' := 108) rfl ?_
        refine Go.goto S13 at_108 (pc' := 214) (by decide) ?_
        refine Go.aload S13 at_214 rfl rfl (pc' := 216) rfl ?_
        refine Go.lloadN S13 at_216 rfl (pc' := 217) rfl ?_
        refine Go.lload S13 at_217 rfl (pc' := 219) rfl ?_
        refine Go.invokevirtual S13 (y := ⟨"com/example/tychon/tychon/model/Condition$Relation", "test", "(JJ)Z"⟩) (rm_test1 hw a_NOT_EQUAL a right S13.ext (F_a_NOT_EQUAL_ordinal.ext S13.ext) (X_a_NOT_EQUAL.ext S13.ext)) (wd4 hw) (wd5 hw) (S13.nf (wd7 hw)) (wd7 hw) (wd6 hw) (wd2 hw) (wd8 hw) (by decide) (X_a_NOT_EQUAL.ext S13.ext) at_219 rfl pd2 (argsL := [(.long a), (.long right)]) rfl rfl rfl (by decide) (W := 0) rfl (by decide) (by decide) (by decide) all0 (pc' := 222) rfl ?_
        intro v15 T15 h15 L15 S15 K15 q15
        rw [if_neg c97] at q15
        obtain ⟨rfl, rfl⟩ := q15
        show Go _ _ _ _ T15 (mkF m 222 #[.val (.long a), .second, .val (.long b), .second, .val (.int sel), .val (.int mode), .val (.int k), .val (.int m2), .val (.long right), .second, .val (.ref a_NOT_EQUAL), .val (.int (1 : Int32))] [(.int (1 : Int32))])
        refine Go.iload S15 at_222 rfl (pc' := 224) rfl ?_
        refine Go.icmp_ne S15 at_224 (pt := 231) (by decide) (pc' := 227) rfl ?_ ?_
        · intro c224; exact absurd (by decide) c224
        · intro c224
          refine Go.iconst S15 (v := 1) at_227 rfl (pc' := 228) rfl ?_
          refine Go.goto S15 at_228 (pc' := 232) (by decide) ?_
          exact Go.zreturn S15 rfl (by decide) at_232 (z' := (1 : Int32)) rfl (by decide) (by decide) (rfl)
  · intro c58
    refine Go.getstatic S (host := "") (Or.inl (wd1 hw)) Via.refl St_EQUAL at_61 (pc' := 64) rfl ?_
    intro T16 S16
    refine Go.astore S16 at_64 rfl (Ls' := #[.val (.long a), .second, .val (.long b), .second, .val (.int sel), .val (.int mode), .val (.int k), .val (.int m2), .val (.long right), .second, .val (.ref a_EQUAL), .unset]) rfl (pc' := 66) rfl ?_
    refine Go.lloadN S16 at_66 rfl (pc' := 67) rfl ?_
    refine Go.lload S16 at_67 rfl (pc' := 69) rfl ?_
    refine Go.lcmp_ne S16 at_69 (pc1 := 70) rfl at_70 (pt := 77) (by decide) (pc' := 73) rfl ?_ ?_
    · intro c69
      refine Go.iconst S16 (v := 0) at_77 rfl (pc' := 78) rfl ?_
      refine Go.istore S16 at_78 (Ls' := #[.val (.long a), .second, .val (.long b), .second, .val (.int sel), .val (.int mode), .val (.int k), .val (.int m2), .val (.long right), .second, .val (.ref a_EQUAL), .val (.int (0 : Int32))]) rfl (pc' := 80) rfl ?_
      refine Go.goto S16 at_80 (pc' := 214) (by decide) ?_
      refine Go.aload S16 at_214 rfl rfl (pc' := 216) rfl ?_
      refine Go.lloadN S16 at_216 rfl (pc' := 217) rfl ?_
      refine Go.lload S16 at_217 rfl (pc' := 219) rfl ?_
      refine Go.invokevirtual S16 (y := ⟨"com/example/tychon/tychon/model/Condition$Relation", "test", "(JJ)Z"⟩) (rm_test0 hw a_EQUAL a right S16.ext (F_a_EQUAL_ordinal.ext S16.ext) (X_a_EQUAL.ext S16.ext)) (wd4 hw) (wd5 hw) (S16.nf (wd7 hw)) (wd7 hw) (wd6 hw) (wd2 hw) (wd8 hw) (by decide) (X_a_EQUAL.ext S16.ext) at_219 rfl pd2 (argsL := [(.long a), (.long right)]) rfl rfl rfl (by decide) (W := 0) rfl (by decide) (by decide) (by decide) all0 (pc' := 222) rfl ?_
      intro v17 T17 h17 L17 S17 K17 q17
      rw [if_neg c69] at q17
      obtain ⟨rfl, rfl⟩ := q17
      show Go _ _ _ _ T17 (mkF m 222 #[.val (.long a), .second, .val (.long b), .second, .val (.int sel), .val (.int mode), .val (.int k), .val (.int m2), .val (.long right), .second, .val (.ref a_EQUAL), .val (.int (0 : Int32))] [(.int (0 : Int32))])
      refine Go.iload S17 at_222 rfl (pc' := 224) rfl ?_
      refine Go.icmp_ne S17 at_224 (pt := 231) (by decide) (pc' := 227) rfl ?_ ?_
      · intro c224; exact absurd (by decide) c224
      · intro c224
        refine Go.iconst S17 (v := 1) at_227 rfl (pc' := 228) rfl ?_
        refine Go.goto S17 at_228 (pc' := 232) (by decide) ?_
        exact Go.zreturn S17 rfl (by decide) at_232 (z' := (1 : Int32)) rfl (by decide) (by decide) (rfl)
    · intro c69
      refine Go.iconst S16 (v := 1) at_73 rfl (pc' := 74) rfl ?_
      refine Go.goto S16 at_74 (pc' := 78) (by decide) ?_
      refine Go.istore S16 at_78 (Ls' := #[.val (.long a), .second, .val (.long b), .second, .val (.int sel), .val (.int mode), .val (.int k), .val (.int m2), .val (.long right), .second, .val (.ref a_EQUAL), .val (.int (1 : Int32))]) rfl (pc' := 80) rfl ?_
      refine Go.goto S16 at_80 (pc' := 214) (by decide) ?_
      refine Go.aload S16 at_214 rfl rfl (pc' := 216) rfl ?_
      refine Go.lloadN S16 at_216 rfl (pc' := 217) rfl ?_
      refine Go.lload S16 at_217 rfl (pc' := 219) rfl ?_
      refine Go.invokevirtual S16 (y := ⟨"com/example/tychon/tychon/model/Condition$Relation", "test", "(JJ)Z"⟩) (rm_test0 hw a_EQUAL a right S16.ext (F_a_EQUAL_ordinal.ext S16.ext) (X_a_EQUAL.ext S16.ext)) (wd4 hw) (wd5 hw) (S16.nf (wd7 hw)) (wd7 hw) (wd6 hw) (wd2 hw) (wd8 hw) (by decide) (X_a_EQUAL.ext S16.ext) at_219 rfl pd2 (argsL := [(.long a), (.long right)]) rfl rfl rfl (by decide) (W := 0) rfl (by decide) (by decide) (by decide) all0 (pc' := 222) rfl ?_
      intro v18 T18 h18 L18 S18 K18 q18
      rw [if_pos c69] at q18
      obtain ⟨rfl, rfl⟩ := q18
      show Go _ _ _ _ T18 (mkF m 222 #[.val (.long a), .second, .val (.long b), .second, .val (.int sel), .val (.int mode), .val (.int k), .val (.int m2), .val (.long right), .second, .val (.ref a_EQUAL), .val (.int (1 : Int32))] [(.int (1 : Int32))])
      refine Go.iload S18 at_222 rfl (pc' := 224) rfl ?_
      refine Go.icmp_ne S18 at_224 (pt := 231) (by decide) (pc' := 227) rfl ?_ ?_
      · intro c224; exact absurd (by decide) c224
      · intro c224
        refine Go.iconst S18 (v := 1) at_227 rfl (pc' := 228) rfl ?_
        refine Go.goto S18 at_228 (pc' := 232) (by decide) ?_
        exact Go.zreturn S18 rfl (by decide) at_232 (z' := (1 : Int32)) rfl (by decide) (by decide) (rfl)
set_option maxRecDepth 65536 in
set_option maxHeartbeats 4000000 in
theorem rm_code {l : Launch} {Z : State} {a0 : Array Value} (hw : HW Z a0) (a : Int64) (b : Int64) (sel : Int32) (mode : Int32) (a_EQUAL a_LESS a_AT_MOST a_NOT_EQUAL a_AT_LEAST a_GREATER : Addr) {h0 : Heap} (hE : Ext Z.heap h0) (St_EQUAL : Sta Z Z.heap "com/example/tychon/tychon/model/Condition$Relation" "EQUAL" "Lcom/example/tychon/tychon/model/Condition$Relation;" (.ref a_EQUAL)) (X_a_EQUAL : Exa Z Z.heap a_EQUAL "com/example/tychon/tychon/model/Condition$Relation") (F_a_EQUAL_ordinal : Fld Z Z.heap a_EQUAL "java/lang/Enum" "ordinal" "I" (.int 0)) (St_LESS : Sta Z Z.heap "com/example/tychon/tychon/model/Condition$Relation" "LESS" "Lcom/example/tychon/tychon/model/Condition$Relation;" (.ref a_LESS)) (X_a_LESS : Exa Z Z.heap a_LESS "com/example/tychon/tychon/model/Condition$Relation") (F_a_LESS_ordinal : Fld Z Z.heap a_LESS "java/lang/Enum" "ordinal" "I" (.int 2)) (St_AT_MOST : Sta Z Z.heap "com/example/tychon/tychon/model/Condition$Relation" "AT_MOST" "Lcom/example/tychon/tychon/model/Condition$Relation;" (.ref a_AT_MOST)) (X_a_AT_MOST : Exa Z Z.heap a_AT_MOST "com/example/tychon/tychon/model/Condition$Relation") (F_a_AT_MOST_ordinal : Fld Z Z.heap a_AT_MOST "java/lang/Enum" "ordinal" "I" (.int 3)) (St_NOT_EQUAL : Sta Z Z.heap "com/example/tychon/tychon/model/Condition$Relation" "NOT_EQUAL" "Lcom/example/tychon/tychon/model/Condition$Relation;" (.ref a_NOT_EQUAL)) (X_a_NOT_EQUAL : Exa Z Z.heap a_NOT_EQUAL "com/example/tychon/tychon/model/Condition$Relation") (F_a_NOT_EQUAL_ordinal : Fld Z Z.heap a_NOT_EQUAL "java/lang/Enum" "ordinal" "I" (.int 1)) (St_AT_LEAST : Sta Z Z.heap "com/example/tychon/tychon/model/Condition$Relation" "AT_LEAST" "Lcom/example/tychon/tychon/model/Condition$Relation;" (.ref a_AT_LEAST)) (X_a_AT_LEAST : Exa Z Z.heap a_AT_LEAST "com/example/tychon/tychon/model/Condition$Relation") (F_a_AT_LEAST_ordinal : Fld Z Z.heap a_AT_LEAST "java/lang/Enum" "ordinal" "I" (.int 5)) (St_GREATER : Sta Z Z.heap "com/example/tychon/tychon/model/Condition$Relation" "GREATER" "Lcom/example/tychon/tychon/model/Condition$Relation;" (.ref a_GREATER)) (X_a_GREATER : Exa Z Z.heap a_GREATER "com/example/tychon/tychon/model/Condition$Relation") (F_a_GREATER_ordinal : Fld Z Z.heap a_GREATER "java/lang/Enum" "ordinal" "I" (.int 4)) :
    OMeets l Z x code maxLocals ret room_1 #[(.long a), (.long b), (.int sel), (.int mode)] h0 [] (fun v h => v = some (.int 1)) := by
  refine OMeets.body (plainFor_of_name pn3) hE #[.val (.long a), .second, .val (.long b), .second, .val (.int sel), .val (.int mode), .unset, .unset, .unset, .unset, .unset, .unset] (fun m => by first | (simp [entryFrame, mkF, argsToLocals, Value.category, maxLocals]; done) | rfl) ?_
  intro p e s m below meth co T S
  refine Go.iload S at_0 rfl (pc' := 2) rfl ?_
  refine Go.ldc S (wd0 hw) at_2 (pc' := 4) rfl ?_
  refine Go.iand S at_4 (pc' := 5) rfl ?_
  refine Go.bipush S (v := 6) at_5 rfl (pc' := 7) rfl ?_
  refine Go.irem S at_7 (by decide) (pc' := 8) rfl ?_
  refine Go.istore S at_8 (Ls' := #[.val (.long a), .second, .val (.long b), .second, .val (.int sel), .val (.int mode), .val (.int ((sel &&& (2147483647 : Int32)) % (6 : Int32))), .unset, .unset, .unset, .unset, .unset]) rfl (pc' := 10) rfl ?_
  generalize h_k : ((sel &&& (2147483647 : Int32)) % (6 : Int32)) = k
  refine Go.iload S at_10 rfl (pc' := 12) rfl ?_
  refine Go.iconst S (v := 3) at_12 rfl (pc' := 13) rfl ?_
  refine Go.iand S at_13 (pc' := 14) rfl ?_
  refine Go.istore S at_14 (Ls' := #[.val (.long a), .second, .val (.long b), .second, .val (.int sel), .val (.int mode), .val (.int k), .val (.int (mode &&& (3 : Int32))), .unset, .unset, .unset, .unset]) rfl (pc' := 16) rfl ?_
  generalize h_m2 : (mode &&& (3 : Int32)) = m2
  refine Go.lloadN S at_16 rfl (pc' := 17) rfl ?_
  refine Go.lstore S at_17 (Ls' := #[.val (.long a), .second, .val (.long b), .second, .val (.int sel), .val (.int mode), .val (.int k), .val (.int m2), .val (.long b), .second, .unset, .unset]) rfl (pc' := 19) rfl ?_
  refine Go.iload S at_19 rfl (pc' := 21) rfl ?_
  refine Go.iconst S (v := 1) at_21 rfl (pc' := 22) rfl ?_
  refine Go.icmp_ne S at_22 (pt := 31) (by decide) (pc' := 25) rfl ?_ ?_
  · intro c22
    refine Go.iload S at_31 rfl (pc' := 33) rfl ?_
    refine Go.iconst S (v := 2) at_33 rfl (pc' := 34) rfl ?_
    refine Go.icmp_ne S at_34 (pt := 45) (by decide) (pc' := 37) rfl ?_ ?_
    · intro c34
      refine Go.iload S at_45 rfl (pc' := 47) rfl ?_
      refine Go.iconst S (v := 3) at_47 rfl (pc' := 48) rfl ?_
      refine Go.icmp_ne S at_48 (pt := 56) (by decide) (pc' := 51) rfl ?_ ?_
      · intro c48
        exact j0_56 hw a b b sel mode k m2 a_EQUAL a_LESS a_AT_MOST a_NOT_EQUAL a_AT_LEAST a_GREATER S St_EQUAL X_a_EQUAL F_a_EQUAL_ordinal St_LESS X_a_LESS F_a_LESS_ordinal St_AT_MOST X_a_AT_MOST F_a_AT_MOST_ordinal St_NOT_EQUAL X_a_NOT_EQUAL F_a_NOT_EQUAL_ordinal St_AT_LEAST X_a_AT_LEAST F_a_AT_LEAST_ordinal St_GREATER X_a_GREATER F_a_GREATER_ordinal
      · intro c48
        refine Go.lloadN S at_51 rfl (pc' := 52) rfl ?_
        refine Go.lconst S (v := 1) at_52 rfl (pc' := 53) rfl ?_
        refine Go.lsub S at_53 (pc' := 54) rfl ?_
        refine Go.lstore S at_54 (Ls' := #[.val (.long a), .second, .val (.long b), .second, .val (.int sel), .val (.int mode), .val (.int k), .val (.int m2), .val (.long (a - (1 : Int64))), .second, .unset, .unset]) rfl (pc' := 56) rfl ?_
        exact j0_56 hw a b (a - (1 : Int64)) sel mode k m2 a_EQUAL a_LESS a_AT_MOST a_NOT_EQUAL a_AT_LEAST a_GREATER S St_EQUAL X_a_EQUAL F_a_EQUAL_ordinal St_LESS X_a_LESS F_a_LESS_ordinal St_AT_MOST X_a_AT_MOST F_a_AT_MOST_ordinal St_NOT_EQUAL X_a_NOT_EQUAL F_a_NOT_EQUAL_ordinal St_AT_LEAST X_a_AT_LEAST F_a_AT_LEAST_ordinal St_GREATER X_a_GREATER F_a_GREATER_ordinal
    · intro c34
      refine Go.lloadN S at_37 rfl (pc' := 38) rfl ?_
      refine Go.lconst S (v := 1) at_38 rfl (pc' := 39) rfl ?_
      refine Go.ladd S at_39 (pc' := 40) rfl ?_
      refine Go.lstore S at_40 (Ls' := #[.val (.long a), .second, .val (.long b), .second, .val (.int sel), .val (.int mode), .val (.int k), .val (.int m2), .val (.long (a + (1 : Int64))), .second, .unset, .unset]) rfl (pc' := 42) rfl ?_
      refine Go.goto S at_42 (pc' := 56) (by decide) ?_
      exact j0_56 hw a b (a + (1 : Int64)) sel mode k m2 a_EQUAL a_LESS a_AT_MOST a_NOT_EQUAL a_AT_LEAST a_GREATER S St_EQUAL X_a_EQUAL F_a_EQUAL_ordinal St_LESS X_a_LESS F_a_LESS_ordinal St_AT_MOST X_a_AT_MOST F_a_AT_MOST_ordinal St_NOT_EQUAL X_a_NOT_EQUAL F_a_NOT_EQUAL_ordinal St_AT_LEAST X_a_AT_LEAST F_a_AT_LEAST_ordinal St_GREATER X_a_GREATER F_a_GREATER_ordinal
  · intro c22
    refine Go.lloadN S at_25 rfl (pc' := 26) rfl ?_
    refine Go.lstore S at_26 (Ls' := #[.val (.long a), .second, .val (.long b), .second, .val (.int sel), .val (.int mode), .val (.int k), .val (.int m2), .val (.long a), .second, .unset, .unset]) rfl (pc' := 28) rfl ?_
    refine Go.goto S at_28 (pc' := 56) (by decide) ?_
    exact j0_56 hw a b a sel mode k m2 a_EQUAL a_LESS a_AT_MOST a_NOT_EQUAL a_AT_LEAST a_GREATER S St_EQUAL X_a_EQUAL F_a_EQUAL_ordinal St_LESS X_a_LESS F_a_LESS_ordinal St_AT_MOST X_a_AT_MOST F_a_AT_MOST_ordinal St_NOT_EQUAL X_a_NOT_EQUAL F_a_NOT_EQUAL_ordinal St_AT_LEAST X_a_AT_LEAST F_a_AT_LEAST_ordinal St_GREATER X_a_GREATER F_a_GREATER_ordinal
set_option maxRecDepth 65536 in
set_option maxHeartbeats 4000000 in
theorem comes_1 {Post : Tables → Env → Array Value → State → Outcome → State → Prop} (hpost : ∀ tb e args s v u, (limb_1_1.after args s (.returned v) u = true ∧ limb_1_2.after args s (.returned v) u = true ∧ True) → FrameEnd s (.returned v) u (Jvm.fieldLocs frame_1_writes args s ++ Jvm.arrayLocs frame_1_arrays args s ++ Jvm.staticLocs frame_1_statics s) 0 0 → Post tb e args s (.returned v) u) :
    ArmFor flags0 classFile x code maxLocals ret World_1 tables_1 room_1 Calls_1 rest_1 Pre_1 Post := by
  intro l hfl _ _ p e ha hc hk s m args below hf hA hF happ hP
  obtain ⟨hcalls, hrest, hpre⟩ := hP
  obtain ⟨-, -, -, hnamed, -, -, -, hat⟩ := (Spec.applies_iff hf).mp happ
  obtain ⟨hg, hn⟩ := and_e (Cond.before_iff.mp (show (Jvm.Cond.and given_1 narrow_1).before args s = true from hpre))
  obtain ⟨g1a, g1b⟩ := and_e hg
  obtain ⟨g2a, g2b⟩ := and_e g1b
  obtain ⟨g3a, g3b⟩ := and_e g2b
  obtain ⟨g4a, g4b⟩ := and_e g3b
  obtain ⟨w0, w1, w2, w3, rfl⟩ : ∃ w0 w1 w2 w3 : Value, args = #[w0, w1, w2, w3] := by
    have hs : args.size = 4 := by simpa [Cond.value, given_1] using g1a
    obtain ⟨L⟩ := args
    match L, hs with
    | [w0, w1, w2, w3], _ => exact ⟨w0, w1, w2, w3, rfl⟩
  have hw : HW s _ := fun d (hd : d ∈ tables_1) => atoms_spec (ws := Jvm.Cond.code x code maxLocals ret :: tables_1) hat d (List.mem_cons_of_mem _ hd)
  have hfit : Fit s := fun {y c} hc i hi => by
    obtain ⟨ha, rfl⟩ := Array.getElem?_eq_some_iff.mp hc
    have q := List.all_eq_true.mp ((Array.all_eq_true_iff_forall_mem.mp hF) _ (Array.getElem_mem ha)) i (List.mem_range.mpr hi)
    simpa [Array.getElem?_eq_getElem hi] using q
  obtain ⟨i0, ei0⟩ := isL_v g2a
  obtain rfl : w0 = (.long i0) := Option.some.inj ei0
  obtain ⟨i1, ei1⟩ := isL_v g3a
  obtain rfl : w1 = (.long i1) := Option.some.inj ei1
  obtain ⟨i2, ei2⟩ := is_v g4a
  obtain rfl : w2 = (.int i2) := Option.some.inj ei2
  obtain ⟨i3, ei3⟩ := is_v g4b
  obtain rfl : w3 = (.int i3) := Option.some.inj ei3
  obtain ⟨n1a, n1b⟩ := and_e hn
  obtain ⟨n2a, n2b⟩ := and_e n1b
  obtain ⟨n3a, n3b⟩ := and_e n2b
  obtain ⟨n4a, n4b⟩ := and_e n3b
  obtain ⟨n5a, n5b⟩ := and_e n4b
  obtain ⟨n6a, n6b⟩ := and_e n5b
  obtain ⟨n7a, n7b⟩ := and_e n6b
  obtain ⟨n8a, n8b⟩ := and_e n7b
  obtain ⟨n9a, n9b⟩ := and_e n8b
  obtain ⟨n10a, n10b⟩ := and_e n9b
  obtain ⟨n11a, n11b⟩ := and_e n10b
  obtain ⟨a_EQUAL, ev_a_EQUAL⟩ := exa_v n1a
  have St_EQUAL : Sta s s.heap "com/example/tychon/tychon/model/Condition$Relation" "EQUAL" "Lcom/example/tychon/tychon/model/Condition$Relation;" (.ref a_EQUAL) := Sta.start ev_a_EQUAL (Or.inr ⟨(wd2 hw), (wd3 hw)⟩)
  have X_a_EQUAL : Exa s s.heap a_EQUAL "com/example/tychon/tychon/model/Condition$Relation" := Exa.start ev_a_EQUAL n1a
  have F_a_EQUAL_ordinal : Fld s s.heap a_EQUAL "java/lang/Enum" "ordinal" "I" (.int 0) := Fld.start ((fld_at ev_a_EQUAL).symm.trans (own_eqI n2a))
  obtain ⟨a_LESS, ev_a_LESS⟩ := exa_v n3a
  have St_LESS : Sta s s.heap "com/example/tychon/tychon/model/Condition$Relation" "LESS" "Lcom/example/tychon/tychon/model/Condition$Relation;" (.ref a_LESS) := Sta.start ev_a_LESS (Or.inr ⟨(wd2 hw), (wd23 hw)⟩)
  have X_a_LESS : Exa s s.heap a_LESS "com/example/tychon/tychon/model/Condition$Relation" := Exa.start ev_a_LESS n3a
  have F_a_LESS_ordinal : Fld s s.heap a_LESS "java/lang/Enum" "ordinal" "I" (.int 2) := Fld.start ((fld_at ev_a_LESS).symm.trans (own_eqI n4a))
  obtain ⟨a_AT_MOST, ev_a_AT_MOST⟩ := exa_v n5a
  have St_AT_MOST : Sta s s.heap "com/example/tychon/tychon/model/Condition$Relation" "AT_MOST" "Lcom/example/tychon/tychon/model/Condition$Relation;" (.ref a_AT_MOST) := Sta.start ev_a_AT_MOST (Or.inr ⟨(wd2 hw), (wd25 hw)⟩)
  have X_a_AT_MOST : Exa s s.heap a_AT_MOST "com/example/tychon/tychon/model/Condition$Relation" := Exa.start ev_a_AT_MOST n5a
  have F_a_AT_MOST_ordinal : Fld s s.heap a_AT_MOST "java/lang/Enum" "ordinal" "I" (.int 3) := Fld.start ((fld_at ev_a_AT_MOST).symm.trans (own_eqI n6a))
  obtain ⟨a_NOT_EQUAL, ev_a_NOT_EQUAL⟩ := exa_v n7a
  have St_NOT_EQUAL : Sta s s.heap "com/example/tychon/tychon/model/Condition$Relation" "NOT_EQUAL" "Lcom/example/tychon/tychon/model/Condition$Relation;" (.ref a_NOT_EQUAL) := Sta.start ev_a_NOT_EQUAL (Or.inr ⟨(wd2 hw), (wd27 hw)⟩)
  have X_a_NOT_EQUAL : Exa s s.heap a_NOT_EQUAL "com/example/tychon/tychon/model/Condition$Relation" := Exa.start ev_a_NOT_EQUAL n7a
  have F_a_NOT_EQUAL_ordinal : Fld s s.heap a_NOT_EQUAL "java/lang/Enum" "ordinal" "I" (.int 1) := Fld.start ((fld_at ev_a_NOT_EQUAL).symm.trans (own_eqI n8a))
  obtain ⟨a_AT_LEAST, ev_a_AT_LEAST⟩ := exa_v n9a
  have St_AT_LEAST : Sta s s.heap "com/example/tychon/tychon/model/Condition$Relation" "AT_LEAST" "Lcom/example/tychon/tychon/model/Condition$Relation;" (.ref a_AT_LEAST) := Sta.start ev_a_AT_LEAST (Or.inr ⟨(wd2 hw), (wd29 hw)⟩)
  have X_a_AT_LEAST : Exa s s.heap a_AT_LEAST "com/example/tychon/tychon/model/Condition$Relation" := Exa.start ev_a_AT_LEAST n9a
  have F_a_AT_LEAST_ordinal : Fld s s.heap a_AT_LEAST "java/lang/Enum" "ordinal" "I" (.int 5) := Fld.start ((fld_at ev_a_AT_LEAST).symm.trans (own_eqI n10a))
  obtain ⟨a_GREATER, ev_a_GREATER⟩ := exa_v n11a
  have St_GREATER : Sta s s.heap "com/example/tychon/tychon/model/Condition$Relation" "GREATER" "Lcom/example/tychon/tychon/model/Condition$Relation;" (.ref a_GREATER) := Sta.start ev_a_GREATER (Or.inr ⟨(wd2 hw), (wd31 hw)⟩)
  have X_a_GREATER : Exa s s.heap a_GREATER "com/example/tychon/tychon/model/Condition$Relation" := Exa.start ev_a_GREATER n11a
  have F_a_GREATER_ordinal : Fld s s.heap a_GREATER "java/lang/Enum" "ordinal" "I" (.int 4) := Fld.start ((fld_at ev_a_GREATER).symm.trans (own_eqI n11b))
  obtain ⟨n, o, h1, h2, h3, _, L, rfl, ⟨N, -, -, rfl⟩, hq⟩ := rm_code (l := l) hw i0 i1 i2 i3 a_EQUAL a_LESS a_AT_MOST a_NOT_EQUAL a_AT_LEAST a_GREATER (h0 := s.heap) ⟨Nat.le_refl _, fun _ _ q => q⟩ St_EQUAL X_a_EQUAL F_a_EQUAL_ordinal St_LESS X_a_LESS F_a_LESS_ordinal St_AT_MOST X_a_AT_MOST F_a_AT_MOST_ordinal St_NOT_EQUAL X_a_NOT_EQUAL F_a_NOT_EQUAL_ordinal St_AT_LEAST X_a_AT_LEAST F_a_AT_LEAST_ordinal St_GREATER X_a_GREATER F_a_GREATER_ordinal tables_1 p e ha hc hk s m _ below hf ((Spec.applies_iff_loose hf).mp happ).1 ⟨rfl, State.Warmed39.refl s, rfl⟩ trivial
  refine ⟨n, _, h1, h2, h3, hpost _ _ _ _ _ _ ⟨Cond.after_iff.mpr rfl, Cond.after_iff.mpr (eq_i res_at (Term.int_eval (1)) rfl), trivial⟩ ⟨hq.1, hq.2.1, (hq.2.2.sift fun y hy => Or.inr (N y hy)).mono (by decide) (by decide)⟩⟩
theorem main_1_1 : Claimed_1_1 := comes_1 fun _ _ _ _ _ _ h hF => ⟨h.1, hF⟩
theorem main_1_2 : Claimed_1_2 := comes_1 fun _ _ _ _ _ _ h hF => ⟨h.2.1, hF⟩
end Jvm.Pilot.@@N@@
namespace Jvm.Pilot.@@N@@
open Jvm Jvm.ClassFile Sem Op Lib Jvm.Free Jvm.Stand Jvm.Pilot.@@N@@.Jvm.D
/-! MADE BY PROGRAM (witnessworld.py) out of the Statement's table words and the real class files: 15 classes; the members and pool entries that the words name. The judged class is class 1, her method 1. -/
namespace start1
open Jvm.ClassFile
def u (s : String) : CpInfo := .utf8 (stringToUtf16 s)
/-- a pool by its gaps: so many unusable entries, then the entry; so many at the end -/
def gap : Nat → List CpInfo → List CpInfo
  | 0, r => r
  | n + 1, r => .unusable :: gap n r
def poolList (es : List (Nat × CpInfo)) (last : Nat) : List CpInfo := es.foldr (fun e r => gap e.1 (e.2 :: r)) (gap last [])
def pool (es : List (Nat × CpInfo)) (last : Nat) : Array CpInfo := ⟨poolList es last⟩
def fileOf (pool : Array CpInfo) (this : Nat) (attrs : Array Attribute := #[]) (ms : Array MethodInfo := #[]) (fl : Nat := 33) (sup : Nat := 0) (ifs : Array Nat := #[]) (fds : Array FieldInfo := #[]) : ClassFile where
  minorVersion := 0
  majorVersion := 65
  constantPool := pool
  accessFlags := fl
  thisClass := this
  superClass := sup
  interfaces := ifs
  fields := fds
  methods := ms
  attributes := attrs
def plain (name : String) (sup : Option ClassId) : Class where
  name := name
  kind := .ordinary
  loader := none
  accessFlags := 33
  super := sup
  interfaces := #[]
  cf := none
  fields := #[]
  methods := #[]
  instanceTypes := #[]
  staticTypes := #[]
  resolved := #[]
  callSites := []
  init := .initialized
  statics := none
  mirror := none

def pool0 : Array CpInfo := pool [(5, u "<init>"), (0, u "()V"), (1, .class_ 10), (1, u "java/lang/Object")] 113

def k0m0 : Method := { name := "<init>", desc := "()V", sig := { parameters := [], returnType := none }, accessFlags := 1, code := none }
/-- java/lang/Object -/
def k0 : Class := { plain "java/lang/Object" none with
  accessFlags := 33
  interfaces := #[]
  cf := some (fileOf pool0 8 #[] #[{ accessFlags := 1, nameIndex := 5, descriptorIndex := 6, attributes := #[] }] 33 0 #[] #[])
  fields := #[]
  methods := #[k0m0]
  instanceTypes := #[]
  staticTypes := #[]
  resolved := Array.replicate 124 none
  statics := none }

def pool1 : Array CpInfo := pool [(2, .class_ 4), (1, u "java/lang/Object"), (0, u "<init>"), (0, u "()V"), (0, .integer 2147483647), (0, .fieldref 9 10), (0, .class_ 11), (0, .nameAndType 12 13), (0, u "com/example/tychon/tychon/model/Condition$Relation"), (0, u "EQUAL"), (0, u "Lcom/example/tychon/tychon/model/Condition$Relation;"), (0, .fieldref 9 15), (0, .nameAndType 16 13), (0, u "NOT_EQUAL"), (0, .fieldref 9 18), (0, .nameAndType 19 13), (0, u "LESS"), (0, .fieldref 9 21), (0, .nameAndType 22 13), (0, u "AT_MOST"), (0, .fieldref 9 24), (0, .nameAndType 25 13), (0, u "GREATER"), (0, .fieldref 9 27), (0, .nameAndType 28 13), (0, u "AT_LEAST"), (0, .methodref 9 30), (0, .nameAndType 31 32), (0, u "test"), (0, u "(JJ)Z"), (0, .class_ 34), (0, u "com/example/tychon/tychon/model/RelationTestPinLaw"), (2, u "law"), (0, u "(JJII)Z")] 7

def k1m0 : Method := { name := "<init>", desc := "()V", sig := { parameters := [], returnType := none }, accessFlags := 1, code := none }
def k1c1 : Code := { maxStack := 5, maxLocals := 12, code := code, exceptionTable := #[], attributes := #[] }
def k1m1 : Method := { name := "law", desc := "(JJII)Z", sig := { parameters := [.long, .long, .int, .int], returnType := some .boolean }, accessFlags := 9, code := some k1c1 }
/-- com/example/tychon/tychon/model/RelationTestPinLaw -/
def k1 : Class := { plain "com/example/tychon/tychon/model/RelationTestPinLaw" (some 0) with
  accessFlags := 49
  interfaces := #[]
  cf := some (fileOf pool1 33 #[] #[{ accessFlags := 1, nameIndex := 5, descriptorIndex := 6, attributes := #[] }, { accessFlags := 9, nameIndex := 37, descriptorIndex := 38, attributes := #[] }] 49 2 #[] #[])
  fields := #[]
  methods := #[k1m0, k1m1]
  instanceTypes := #[]
  staticTypes := #[]
  resolved := Array.replicate 46 none
  statics := none }

def pool2 : Array CpInfo := pool [(1, .class_ 2), (0, u "java/lang/constant/Constable"), (0, .class_ 4), (0, u "java/lang/Object")] 6

/-- java/lang/constant/Constable -/
def k2 : Class := { plain "java/lang/constant/Constable" (some 0) with
  accessFlags := 1537
  interfaces := #[]
  cf := some (fileOf pool2 1 #[] #[] 1537 3 #[] #[])
  fields := #[]
  methods := #[]
  instanceTypes := #[]
  staticTypes := #[]
  resolved := Array.replicate 11 none
  statics := none }

def pool3 : Array CpInfo := pool [(1, .class_ 2), (0, u "java/lang/Comparable"), (0, .class_ 4), (0, u "java/lang/Object")] 7

/-- java/lang/Comparable -/
def k3 : Class := { plain "java/lang/Comparable" (some 0) with
  accessFlags := 1537
  interfaces := #[]
  cf := some (fileOf pool3 1 #[] #[] 1537 3 #[] #[])
  fields := #[]
  methods := #[]
  instanceTypes := #[]
  staticTypes := #[]
  resolved := Array.replicate 12 none
  statics := none }

def pool4 : Array CpInfo := pool [(1, .class_ 2), (0, u "java/io/Serializable"), (0, .class_ 4), (0, u "java/lang/Object")] 2

/-- java/io/Serializable -/
def k4 : Class := { plain "java/io/Serializable" (some 0) with
  accessFlags := 1537
  interfaces := #[]
  cf := some (fileOf pool4 1 #[] #[] 1537 3 #[] #[])
  fields := #[]
  methods := #[]
  instanceTypes := #[]
  staticTypes := #[]
  resolved := Array.replicate 7 none
  statics := none }

def pool5 : Array CpInfo := pool [(2, .class_ 4), (1, u "java/lang/Enum"), (0, u "name"), (0, u "Ljava/lang/String;"), (0, .fieldref 2 8), (0, .nameAndType 9 10), (0, u "ordinal"), (0, u "I"), (1, .class_ 14), (1, u "java/lang/Object"), (4, u "hash"), (86, .class_ 108), (1, u "java/lang/Enum$EnumDesc"), (2, .class_ 112), (0, u "java/lang/constant/Constable"), (0, .class_ 114), (0, u "java/lang/Comparable"), (0, .class_ 116), (0, u "java/io/Serializable"), (9, u "()I")] 77

def k5c0 : Code := { maxStack := 1, maxLocals := 1, code := jdk_37_method_2_code, exceptionTable := #[], attributes := #[] }
def k5m0 : Method := { name := "ordinal", desc := "()I", sig := { parameters := [], returnType := some .int }, accessFlags := 17, code := some k5c0 }
/-- java/lang/Enum -/
def k5 : Class := { plain "java/lang/Enum" (some 0) with
  accessFlags := 1057
  interfaces := #[2, 3, 4]
  cf := some (fileOf pool5 2 #[.nestMembers #[106]] #[{ accessFlags := 17, nameIndex := 9, descriptorIndex := 126, attributes := #[] }] 1057 12 #[111, 113, 115] #[{ accessFlags := 18, nameIndex := 5, descriptorIndex := 6, attributes := #[] }, { accessFlags := 18, nameIndex := 9, descriptorIndex := 10, attributes := #[] }, { accessFlags := 2, nameIndex := 19, descriptorIndex := 10, attributes := #[] }])
  fields := #[{ name := "name", type := (.object "java/lang/String"), accessFlags := 18, slot := 0, constantValue := 0 }, { name := "ordinal", type := .int, accessFlags := 18, slot := 1, constantValue := 0 }, { name := "hash", type := .int, accessFlags := 2, slot := 2, constantValue := 0 }]
  methods := #[k5m0]
  instanceTypes := #[(.object "java/lang/String"), .int, .int]
  staticTypes := #[]
  resolved := Array.replicate 204 none
  statics := none }

def pool6 : Array CpInfo := pool [(1, .class_ 2), (0, u "com/example/tychon/tychon/model/Condition$Relation"), (2, u "EQUAL"), (0, u "Lcom/example/tychon/tychon/model/Condition$Relation;"), (2, u "NOT_EQUAL"), (2, u "LESS"), (2, u "AT_MOST"), (2, u "GREATER"), (2, u "AT_LEAST"), (2, u "$VALUES"), (0, u "[Lcom/example/tychon/tychon/model/Condition$Relation;"), (6, .class_ 34), (1, u "java/lang/Enum"), (8, u "symbol"), (0, u "Ljava/lang/String;"), (10, .methodref 56 57), (0, .class_ 58), (0, .nameAndType 59 60), (0, u "java/lang/Long"), (0, u "compare"), (0, u "(JJ)I"), (0, .methodref 1 62), (0, .nameAndType 63 64), (0, u "ordinal"), (0, u "()I"), (38, u "test"), (0, u "(JJ)Z"), (6, .class_ 112), (0, u "com/example/tychon/tychon/model/Condition")] 2

def k6c0 : Code := { maxStack := 4, maxLocals := 6, code := prog_17_method_6_code, exceptionTable := #[], attributes := #[] }
def k6m0 : Method := { name := "test", desc := "(JJ)Z", sig := { parameters := [.long, .long], returnType := some .boolean }, accessFlags := 1, code := some k6c0 }
/-- com/example/tychon/tychon/model/Condition$Relation -/
def k6 : Class := { plain "com/example/tychon/tychon/model/Condition$Relation" (some 5) with
  accessFlags := 16433
  interfaces := #[]
  cf := some (fileOf pool6 1 #[.nestHost 111] #[{ accessFlags := 1, nameIndex := 103, descriptorIndex := 104, attributes := #[] }] 16433 32 #[] #[{ accessFlags := 16409, nameIndex := 5, descriptorIndex := 6, attributes := #[] }, { accessFlags := 16409, nameIndex := 9, descriptorIndex := 6, attributes := #[] }, { accessFlags := 16409, nameIndex := 12, descriptorIndex := 6, attributes := #[] }, { accessFlags := 16409, nameIndex := 15, descriptorIndex := 6, attributes := #[] }, { accessFlags := 16409, nameIndex := 18, descriptorIndex := 6, attributes := #[] }, { accessFlags := 16409, nameIndex := 21, descriptorIndex := 6, attributes := #[] }, { accessFlags := 18, nameIndex := 43, descriptorIndex := 44, attributes := #[] }, { accessFlags := 4122, nameIndex := 24, descriptorIndex := 25, attributes := #[] }])
  fields := #[{ name := "EQUAL", type := (.object "com/example/tychon/tychon/model/Condition$Relation"), accessFlags := 16409, slot := 0, constantValue := 0 }, { name := "NOT_EQUAL", type := (.object "com/example/tychon/tychon/model/Condition$Relation"), accessFlags := 16409, slot := 1, constantValue := 0 }, { name := "LESS", type := (.object "com/example/tychon/tychon/model/Condition$Relation"), accessFlags := 16409, slot := 2, constantValue := 0 }, { name := "AT_MOST", type := (.object "com/example/tychon/tychon/model/Condition$Relation"), accessFlags := 16409, slot := 3, constantValue := 0 }, { name := "GREATER", type := (.object "com/example/tychon/tychon/model/Condition$Relation"), accessFlags := 16409, slot := 4, constantValue := 0 }, { name := "AT_LEAST", type := (.object "com/example/tychon/tychon/model/Condition$Relation"), accessFlags := 16409, slot := 5, constantValue := 0 }, { name := "symbol", type := (.object "java/lang/String"), accessFlags := 18, slot := 3, constantValue := 0 }, { name := "$VALUES", type := (.array (.object "com/example/tychon/tychon/model/Condition$Relation")), accessFlags := 4122, slot := 6, constantValue := 0 }]
  methods := #[k6m0]
  instanceTypes := #[(.object "java/lang/String"), .int, .int, (.object "java/lang/String")]
  staticTypes := #[(.object "com/example/tychon/tychon/model/Condition$Relation"), (.object "com/example/tychon/tychon/model/Condition$Relation"), (.object "com/example/tychon/tychon/model/Condition$Relation"), (.object "com/example/tychon/tychon/model/Condition$Relation"), (.object "com/example/tychon/tychon/model/Condition$Relation"), (.object "com/example/tychon/tychon/model/Condition$Relation"), (.array (.object "com/example/tychon/tychon/model/Condition$Relation"))]
  resolved := Array.replicate 115 none
  statics := some 0 }

def pool7 : Array CpInfo := pool [(2, .class_ 4), (1, u "java/lang/Object"), (0, u "<init>"), (0, u "()V"), (1, .class_ 10), (1, u "java/lang/Number"), (2, .class_ 14), (0, u "java/io/Serializable"), (0, u "serialVersionUID"), (0, u "J")] 20

def k7m0 : Method := { name := "<init>", desc := "()V", sig := { parameters := [], returnType := none }, accessFlags := 1, code := none }
/-- java/lang/Number -/
def k7 : Class := { plain "java/lang/Number" (some 0) with
  accessFlags := 1057
  interfaces := #[4]
  cf := some (fileOf pool7 8 #[] #[{ accessFlags := 1, nameIndex := 5, descriptorIndex := 6, attributes := #[] }] 1057 2 #[13] #[{ accessFlags := 26, nameIndex := 15, descriptorIndex := 16, attributes := #[] }])
  fields := #[{ name := "serialVersionUID", type := .long, accessFlags := 26, slot := 0, constantValue := 0 }]
  methods := #[k7m0]
  instanceTypes := #[]
  staticTypes := #[.long]
  resolved := Array.replicate 37 none
  statics := none }

def pool8 : Array CpInfo := pool [(1, .class_ 2), (0, u "java/lang/constant/ConstantDesc"), (0, .class_ 4), (0, u "java/lang/Object")] 32

/-- java/lang/constant/ConstantDesc -/
def k8 : Class := { plain "java/lang/constant/ConstantDesc" (some 0) with
  accessFlags := 1537
  interfaces := #[]
  cf := some (fileOf pool8 1 #[] #[] 1537 3 #[] #[])
  fields := #[]
  methods := #[]
  instanceTypes := #[]
  staticTypes := #[]
  resolved := Array.replicate 37 none
  statics := none }

def pool9 : Array CpInfo := pool [(1, .class_ 2), (0, u "java/lang/Long"), (232, .class_ 237), (1, u "java/lang/Long$LongCache"), (33, .class_ 272), (0, u "java/lang/Number"), (2, u "value"), (0, u "J"), (27, u "compare"), (0, u "(JJ)I"), (55, u "TYPE"), (0, u "Ljava/lang/Class;"), (0, .class_ 364), (0, u "java/lang/Comparable"), (0, .class_ 366), (0, u "java/lang/constant/Constable"), (0, .class_ 368), (0, u "java/lang/constant/ConstantDesc"), (0, u "MIN_VALUE"), (1, u "MAX_VALUE"), (4, u "SIZE"), (0, u "I"), (1, u "BYTES"), (1, u "serialVersionUID")] 142

def k9c0 : Code := { maxStack := 4, maxLocals := 4, code := jdk_35_method_42_code, exceptionTable := #[], attributes := #[] }
def k9m0 : Method := { name := "compare", desc := "(JJ)I", sig := { parameters := [.long, .long], returnType := some .int }, accessFlags := 9, code := some k9c0 }
/-- java/lang/Long -/
def k9 : Class := { plain "java/lang/Long" (some 7) with
  accessFlags := 49
  interfaces := #[3, 2, 8]
  cf := some (fileOf pool9 1 #[.nestMembers #[235]] #[{ accessFlags := 9, nameIndex := 304, descriptorIndex := 305, attributes := #[] }] 49 271 #[363, 365, 367] #[{ accessFlags := 25, nameIndex := 369, descriptorIndex := 276, attributes := #[] }, { accessFlags := 25, nameIndex := 371, descriptorIndex := 276, attributes := #[] }, { accessFlags := 25, nameIndex := 361, descriptorIndex := 362, attributes := #[] }, { accessFlags := 18, nameIndex := 275, descriptorIndex := 276, attributes := #[] }, { accessFlags := 25, nameIndex := 376, descriptorIndex := 377, attributes := #[] }, { accessFlags := 25, nameIndex := 379, descriptorIndex := 377, attributes := #[] }, { accessFlags := 26, nameIndex := 381, descriptorIndex := 276, attributes := #[] }])
  fields := #[{ name := "MIN_VALUE", type := .long, accessFlags := 25, slot := 0, constantValue := 0 }, { name := "MAX_VALUE", type := .long, accessFlags := 25, slot := 1, constantValue := 0 }, { name := "TYPE", type := (.object "java/lang/Class"), accessFlags := 25, slot := 2, constantValue := 0 }, { name := "value", type := .long, accessFlags := 18, slot := 0, constantValue := 0 }, { name := "SIZE", type := .int, accessFlags := 25, slot := 3, constantValue := 0 }, { name := "BYTES", type := .int, accessFlags := 25, slot := 4, constantValue := 0 }, { name := "serialVersionUID", type := .long, accessFlags := 26, slot := 5, constantValue := 0 }]
  methods := #[k9m0]
  instanceTypes := #[.long]
  staticTypes := #[.long, .long, (.object "java/lang/Class"), .int, .int, .long]
  resolved := Array.replicate 524 none
  statics := none }

def pool10 : Array CpInfo := pool [(1, u "java/lang/Cloneable"), (0, .class_ 1), (0, u "java/lang/Object"), (0, .class_ 3)] 3

/-- java/lang/Cloneable -/
def k10 : Class := { plain "java/lang/Cloneable" (some 0) with
  accessFlags := 1537
  interfaces := #[]
  cf := some (fileOf pool10 2 #[] #[] 1537 4 #[] #[])
  fields := #[]
  methods := #[]
  instanceTypes := #[]
  staticTypes := #[]
  resolved := Array.replicate 8 none
  statics := none }

/-- the primitive byte -/
def k11 : Class := { plain "byte" none with kind := .primitive 'B', accessFlags := 0x411 }
/-- [B -/
def k12 : Class := { plain "[B" (some 0) with kind := .array 11 .byte, interfaces := #[10, 4], accessFlags := 1041 }

/-- the primitive int -/
def k13 : Class := { plain "int" none with kind := .primitive 'I', accessFlags := 0x411 }
/-- [I -/
def k14 : Class := { plain "[I" (some 0) with kind := .array 13 .int, interfaces := #[10, 4], accessFlags := 1041 }

def heap : Heap := #[{ cls := 6, slots := #[.ref 1, .ref 2, .ref 3, .ref 4, .ref 5, .ref 6, .null], vm := .statics 6 },
  { cls := 6, slots := #[.null, .int 0, .int 0, .null], vm := .none },
  { cls := 6, slots := #[.null, .int 1, .int 0, .null], vm := .none },
  { cls := 6, slots := #[.null, .int 2, .int 0, .null], vm := .none },
  { cls := 6, slots := #[.null, .int 3, .int 0, .null], vm := .none },
  { cls := 6, slots := #[.null, .int 4, .int 0, .null], vm := .none },
  { cls := 6, slots := #[.null, .int 5, .int 0, .null], vm := .none }]
def classes : Array Class := #[k0, k1, k2, k3, k4, k5, k6, k7, k8, k9, k10, k11, k12, k13, k14]
def interned : List (Array UInt16 × Addr) := []
def slotsUsed : Nat := 31
def theMethod : MethodId := ⟨1, 1⟩
def args0 : Array Value := #[.long 5, .long 7, .int 1, .int 2]
def aboutOver (below : List Frame) : State where
  vm := { classes := classes, interned := interned.toArray }
  heap := heap
  slotsUsed := slotsUsed
  threads := #[{ frames := .invoking theMethod args0 :: below }]
def below0 : List Frame := [.native { method := ⟨0, 0⟩, args := #[] }]
def about1 : State := aboutOver below0
def p0 : Program := .bare "" "" ""
def e0 : Env := launch0.env 0 0 0
theorem w_frames : about1.frames = Frame.invoking theMethod args0 :: below0 := rfl
set_option maxRecDepth 65536 in
theorem w_args : argsFit about1.vm theMethod args0 = true := by decide +kernel
set_option maxRecDepth 65536 in
theorem w_heap : heapFits about1 = true := by decide +kernel
set_option maxRecDepth 65536 in
theorem w_runnable : about1.curStatus? = some .runnable := by decide +kernel
set_option maxRecDepth 65536 in
theorem w_alone : about1.alone = true := by decide +kernel
set_option maxRecDepth 65536 in
theorem w_named : about1.methodNamed? x = some theMethod := by decide +kernel
set_option maxRecDepth 65536 in
theorem w_hears : about1.hears theMethod below0 = true := by decide +kernel
set_option maxRecDepth 65536 in
theorem w_ripe : about1.ripe theMethod args0 below0 = true := by decide +kernel
theorem w_running : about1.status = .running := rfl
set_option maxRecDepth 65536 in
theorem w_room : about1.hasRoom e0.platform room_1 = true :=
  launch0.hasRoom_least _ room_1 (by decide +kernel) (by decide +kernel) (by decide +kernel) (by decide +kernel) (by decide +kernel) (by decide +kernel)
theorem allAtoms_all (ts : List Jvm.Cond) (a : Array Jvm.Value) (st : Jvm.State) : (allAtoms ts).before a st = ts.all (fun c => c.before a st) := by
  induction ts with
  | nil => rfl
  | cons c t ih =>
    show (Jvm.Cond.and c (allAtoms t)).before a st = _
    rw [Jvm.Cond.before_and, ih, List.all_cons]
def words1 : List Jvm.Cond := Jvm.Cond.code x code maxLocals ret :: tables_1
/-- a 'code' word, met by the world's own term for the bytes: nothing is compared byte by byte -/
theorem code_word {y : MethodName} {bytes : ByteArray} {mx : Nat} {rt : Option FieldType} {a : Array Value} {s : State} {m : MethodId} {meth : Method} {c : Code} (h1 : s.methodNamed? y = some m) (h2 : s.vm.method? m = some meth) (h3 : meth.code = some c) (h4 : c.code = bytes)
    (h5 : (c.maxLocals == mx && c.exceptionTable.isEmpty && decide (c.maxStack ≤ mostOperands) && decide (meth.sig.returnType = rt) && !meth.locks && decide (parseMethodDescriptor y.desc = some meth.sig)) = true) : (Jvm.Cond.code y bytes mx rt).before a s = true := by
  simp only [Bool.and_eq_true, beq_iff_eq, Bool.not_eq_true', decide_eq_true_eq] at h5
  obtain ⟨⟨⟨⟨⟨g1, g2⟩, g3⟩, g4⟩, g5⟩, g6⟩ := h5
  simp [Cond.before, Cond.holds, Cond.value, h1, h2, h3, h4, g1, g2, g3, g4, g5, g6]
def isCode : Jvm.Cond → Bool
  | .code _ _ _ _ => true
  | _ => false
theorem all_split {L : List Jvm.Cond} {P : Jvm.Cond → Bool} (h1 : L.all (fun c => isCode c || P c) = true) (h2 : ∀ c ∈ L.filter isCode, P c = true) : L.all P = true := by
  refine List.all_eq_true.mpr fun c hc => ?_
  have h := List.all_eq_true.mp h1 c hc
  rcases Bool.eq_false_or_eq_true (isCode c) with hi | hi
  · exact h2 c (List.mem_filter.mpr ⟨hc, hi⟩)
  · simpa [hi] using h
set_option maxRecDepth 65536 in
theorem w_c0 : (Jvm.Cond.code x code maxLocals ret).before args0 about1 = true := code_word (m := ⟨1, 1⟩) (meth := k1m1) (c := k1c1) (by decide +kernel) rfl rfl rfl (by decide +kernel)
set_option maxRecDepth 65536 in
theorem w_c1 : (Jvm.Cond.code ({ cls := "com/example/tychon/tychon/model/Condition$Relation", name := "test", desc := "(JJ)Z" } : Jvm.MethodName) prog_17_method_6_code (6 : Nat) (Option.some Jvm.ClassFile.FieldType.boolean)).before args0 about1 = true := code_word (m := ⟨6, 0⟩) (meth := k6m0) (c := k6c0) (by decide +kernel) rfl rfl rfl (by decide +kernel)
set_option maxRecDepth 65536 in
theorem w_c2 : (Jvm.Cond.code ({ cls := "java/lang/Long", name := "compare", desc := "(JJ)I" } : Jvm.MethodName) jdk_35_method_42_code (4 : Nat) (Option.some Jvm.ClassFile.FieldType.int)).before args0 about1 = true := code_word (m := ⟨9, 0⟩) (meth := k9m0) (c := k9c0) (by decide +kernel) rfl rfl rfl (by decide +kernel)
set_option maxRecDepth 65536 in
theorem w_c3 : (Jvm.Cond.code ({ cls := "java/lang/Enum", name := "ordinal", desc := "()I" } : Jvm.MethodName) jdk_37_method_2_code (1 : Nat) (Option.some Jvm.ClassFile.FieldType.int)).before args0 about1 = true := code_word (m := ⟨5, 0⟩) (meth := k5m0) (c := k5c0) (by decide +kernel) rfl rfl rfl (by decide +kernel)
def codes1 : List Jvm.Cond := [Jvm.Cond.code x code maxLocals ret, Jvm.Cond.code ({ cls := "com/example/tychon/tychon/model/Condition$Relation", name := "test", desc := "(JJ)Z" } : Jvm.MethodName) prog_17_method_6_code (6 : Nat) (Option.some Jvm.ClassFile.FieldType.boolean), Jvm.Cond.code ({ cls := "java/lang/Long", name := "compare", desc := "(JJ)I" } : Jvm.MethodName) jdk_35_method_42_code (4 : Nat) (Option.some Jvm.ClassFile.FieldType.int), Jvm.Cond.code ({ cls := "java/lang/Enum", name := "ordinal", desc := "()I" } : Jvm.MethodName) jdk_37_method_2_code (1 : Nat) (Option.some Jvm.ClassFile.FieldType.int)]
set_option maxRecDepth 65536 in
theorem codes_eq : words1.filter isCode = codes1 := rfl
theorem w_codes : ∀ c ∈ words1.filter isCode, c.before args0 about1 = true := by
  rw [codes_eq]
  intro c hc
  simp only [codes1, List.mem_cons, List.not_mem_nil, or_false] at hc
  rcases hc with rfl | rfl | rfl | rfl
  · exact w_c0
  · exact w_c1
  · exact w_c2
  · exact w_c3
set_option maxRecDepth 65536 in
theorem w_t1 : (words1.take 24).all (fun c => isCode c || c.before args0 about1) = true := by decide +kernel
set_option maxRecDepth 65536 in
theorem w_t2 : (words1.drop 24).all (fun c => isCode c || c.before args0 about1) = true := by decide +kernel
theorem w_tables : (allAtoms (Jvm.Cond.code x code maxLocals ret :: tables_1)).before args0 about1 = true := by
  rw [allAtoms_all]
  show words1.all (fun c => c.before args0 about1) = true
  refine all_split ?_ w_codes
  rw [← List.take_append_drop 24 words1, List.all_append, w_t1, w_t2]
  rfl
set_option maxRecDepth 65536 in
theorem w_case : (Jvm.Cond.and given_1 narrow_1).before args0 about1 = true := by decide +kernel
theorem w_applies : (headSpec (Jvm.Cond.code x code maxLocals ret :: tables_1) room_1).applies x e0.platform about1 = true :=
  (Spec.applies_iff w_frames).mpr ⟨w_running, w_runnable, w_alone, w_named, w_hears, w_ripe, w_room, w_tables⟩
theorem atStart : AtStart classFile x code maxLocals ret World_1 tables_1 room_1 Calls_1 rest_1 Pre_1 launch0 p0 e0 about1 theMethod args0 below0 :=
  ⟨lists_1, trivial, launch0.admits_env _ _ _, launch0.least_env, fairChoices_fair.cas, fairChoices_fair.clock, w_frames, w_args, w_heap, w_applies, trivial, trivial, w_case⟩
end start1
theorem witness_1 : WitnessClaimed_1 := ⟨start1.p0, start1.e0, start1.about1, start1.theMethod, start1.args0, start1.below0, start1.atStart⟩
end Jvm.Pilot.@@N@@
