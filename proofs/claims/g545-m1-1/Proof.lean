import JvmDerived
import JvmDerived.Pilot.@@N@@Statement
import JvmDerived.Pilot.@@N@@Code
set_option linter.unusedVariables false
set_option linter.unusedSimpArgs false
namespace Jvm.Own
open Sem ClassFile Op Lib Jvm.Stand Jvm.Free Jvm.LawKit Jvm.RoadKit
/-- the run goes on from the frame g over T and comes to an end of which P holds -/
def Go (p : Program) (e : Env) (below : List Frame) (P : Outcome → State → Prop) (T : State) (g : JFrame) : Prop :=
  ∃ U o, Steps p.tables e below (T.setTop g) U ∧ U.status = .running ∧ Ended U below o ∧ P o U
/-- what a body's end says: it returned v; it wrote in new cells alone, kept the heap h0 but for ws and the start's heap whole; Q of what it returned and of the heap -/
def PostOf (Z s : State) (h0 : Heap) (ws : List Addr) (kc ks : Nat) (Q : Option Value → Heap → Prop) (o : Outcome) (U : State) : Prop :=
  ∃ v L, o = .returned v ∧ (Fr Z.heap.size L ∧ Keep h0 U.heap ws ∧ Ext Z.heap U.heap ∧ Q v U.heap) ∧ FrameEnd s o U L kc ks
/-- a body's contract for the arguments as at the heap h0 -/
def OMeets (l : Launch) (Z : State) (y : MethodName) (bytes : ByteArray) (nl : Nat) (ret : Option FieldType) (R : Room) (as : Array Value) (h0 : Heap) (ws : List Addr) (Q : Option Value → Heap → Prop) : Prop :=
  ∀ wd : List Jvm.Cond, MetFree l y (head1 (Jvm.Cond.code y bytes nl ret :: wd) R) (fun a U => a = as ∧ Z.Warmed39 U.vm ∧ U.heap = h0) (fun _ _ _ _ _ => True)
    (fun _ U o U' => PostOf Z U h0 ws R.cells R.slots Q o U')
/-- where the run of one body stands: what is fixed, the library's Stand, the heap, what was written, what is kept -/
def St (p : Program) (l : Launch) (e : Env) (R : Room) (s : State) (m : MethodId) (args : Array Value) (below : List Frame) (meth : Method) (c : Code) (Z : State) (own : String) (bytes : ByteArray) (nl : Nat) (ret : Option FieldType) (nm : String)
    (h0 : Heap) (ws : List Addr) (T : State) (h : Heap) (locs : List Loc) (cells slots : Nat) : Prop :=
  (p.tables.exec = Jvm.exec ∧ c.code = bytes ∧ c.maxLocals = nl ∧ Z.Warmed39 s.vm ∧ s.vm.findClass own = some m.cls ∧ meth.sig.returnType = ret ∧ meth.locks = false ∧ meth.name = nm) ∧
  Stand p l e R s m args below meth c T locs cells slots ∧ T.heap = h ∧ Fr Z.heap.size locs ∧ Keep h0 h ws ∧ Ext Z.heap h
section Steps
variable {p : Program} {l : Launch} {e : Env} {R : Room} {s : State} {m : MethodId} {args : Array Value} {below : List Frame} {meth : Method} {c : Code} {Z : State} {own : String} {bytes : ByteArray} {nl : Nat} {ret : Option FieldType} {nm : String}
  {h0 : Heap} {ws : List Addr} {T : State} {h : Heap} {locs : List Loc} {cells slots : Nat} {P : Outcome → State → Prop} {pc pc' : Nat} {Ls Ls' : Array Slot} {st : List Value} {a0 : Array Value}
theorem off0 {a b : Nat} {o : Int} (h : (a : Int) + o = (b : Int)) : 0 ≤ (a : Int) + o := by omega
theorem off1 {a b : Nat} {o : Int} (h : (a : Int) + o = (b : Int)) : ((a : Int) + o).toNat = b := by omega
theorem Go.of {T' : State} {g g' : JFrame} (k : Go p e below P T' g') (f : ∀ t, Steps p.tables e below (T'.setTop g') t → Steps p.tables e below (T.setTop g) t) : Go p e below P T g := by
  obtain ⟨U, o, h1, h2⟩ := k
  exact ⟨U, o, f _ h1, h2⟩
theorem Go.imp {g : JFrame} {P' : Outcome → State → Prop} (k : Go p e below P T g) (f : ∀ o U, P o U → P' o U) : Go p e below P' T g := by
  obtain ⟨U, o, h1, h2, h3, h4⟩ := k
  exact ⟨U, o, h1, h2, h3, f _ _ h4⟩
theorem St.ex (S : St p l e R s m args below meth c Z own bytes nl ret nm h0 ws T h locs cells slots) : p.tables.exec = Jvm.exec := S.1.1
theorem St.hd (S : St p l e R s m args below meth c Z own bytes nl ret nm h0 ws T h locs cells slots) {r : Except DecodeError (Instr × Nat)} (h2 : decode bytes pc = r) : decode c.code pc = r := S.1.2.1 ▸ h2
theorem St.hnl (S : St p l e R s m args below meth c Z own bytes nl ret nm h0 ws T h locs cells slots) : c.maxLocals = nl := S.1.2.2.1
theorem St.hZ (S : St p l e R s m args below meth c Z own bytes nl ret nm h0 ws T h locs cells slots) : Z.Warmed39 s.vm := S.1.2.2.2.1
theorem St.hown (S : St p l e R s m args below meth c Z own bytes nl ret nm h0 ws T h locs cells slots) : s.vm.findClass own = some m.cls := S.1.2.2.2.2.1
theorem St.hret (S : St p l e R s m args below meth c Z own bytes nl ret nm h0 ws T h locs cells slots) : meth.sig.returnType = ret := S.1.2.2.2.2.2.1
theorem St.locks (S : St p l e R s m args below meth c Z own bytes nl ret nm h0 ws T h locs cells slots) : meth.locks = false := S.1.2.2.2.2.2.2.1
theorem St.hnm (S : St p l e R s m args below meth c Z own bytes nl ret nm h0 ws T h locs cells slots) : meth.name = nm := S.1.2.2.2.2.2.2.2
theorem St.X (S : St p l e R s m args below meth c Z own bytes nl ret nm h0 ws T h locs cells slots) : Stand p l e R s m args below meth c T locs cells slots := S.2.1
theorem St.eT (S : St p l e R s m args below meth c Z own bytes nl ret nm h0 ws T h locs cells slots) : T.heap = h := S.2.2.1
theorem St.fr (S : St p l e R s m args below meth c Z own bytes nl ret nm h0 ws T h locs cells slots) : Fr Z.heap.size locs := S.2.2.2.1
theorem St.keep (S : St p l e R s m args below meth c Z own bytes nl ret nm h0 ws T h locs cells slots) : Keep h0 h ws := S.2.2.2.2.1
theorem St.ext (S : St p l e R s m args below meth c Z own bytes nl ret nm h0 ws T h locs cells slots) : Ext Z.heap h := S.2.2.2.2.2
theorem St.more (S : St p l e R s m args below meth c Z own bytes nl ret nm h0 ws T h locs cells slots) {cells' slots' : Nat} (hc : cells ≤ cells') (hs : slots ≤ slots') : St p l e R s m args below meth c Z own bytes nl ret nm h0 ws T h locs cells' slots' := ⟨S.1, S.X.more hc hs, S.2.2⟩
theorem St.next (S : St p l e R s m args below meth c Z own bytes nl ret nm h0 ws T h locs cells slots) {T' : State} {h' : Heap} {locs' : List Loc} {cells' slots' : Nat} (X : Stand p l e R s m args below meth c T' locs' cells' slots') (e1 : T'.heap = h') (N : Fr Z.heap.size locs') (K : Keep h0 h' ws) (E : Ext Z.heap h') : St p l e R s m args below meth c Z own bytes nl ret nm h0 ws T' h' locs' cells' slots' := ⟨S.1, X, e1, N, K, E⟩
theorem Go.iloadN (S : St p l e R s m args below meth c Z own bytes nl ret nm h0 ws T h locs cells slots) {k : Fin 4} {v : Int32} (hd : decode bytes pc = .ok (.iload_n k, 1)) (hl : Ls[k.val]? = some (.val (.int v))) (hp : pc + 1 = pc') (k : Go p e below P T (mkF m pc' Ls (.int v :: st))) : Go p e below P T (mkF m pc Ls st) := by
  subst hp
  exact k.of fun t q => XS.iloadN S.X.here S.ex rfl (S.hd hd) hl q
theorem Go.iload (S : St p l e R s m args below meth c Z own bytes nl ret nm h0 ws T h locs cells slots) {k : Nat} {v : Int32} (hd : decode bytes pc = .ok (.iload k, 2)) (hl : Ls[k]? = some (.val (.int v))) (hp : pc + 2 = pc') (k : Go p e below P T (mkF m pc' Ls (.int v :: st))) : Go p e below P T (mkF m pc Ls st) := by
  subst hp
  exact k.of fun t q => XS.iload S.X.here S.ex rfl (S.hd hd) hl q
theorem Go.istoreN (S : St p l e R s m args below meth c Z own bytes nl ret nm h0 ws T h locs cells slots) {k : Fin 4} {v : Int32} (hd : decode bytes pc = .ok (.istore_n k, 1)) (hl : storeLocals Ls k.val (.int v) = some Ls') (hp : pc + 1 = pc') (k : Go p e below P T (mkF m pc' Ls' st)) : Go p e below P T (mkF m pc Ls (.int v :: st)) := by
  subst hp
  exact k.of fun t q => XS.istoreN S.X.here S.ex rfl (S.hd hd) rfl hl q
theorem Go.istore (S : St p l e R s m args below meth c Z own bytes nl ret nm h0 ws T h locs cells slots) {k : Nat} {v : Int32} (hd : decode bytes pc = .ok (.istore k, 2)) (hl : storeLocals Ls k (.int v) = some Ls') (hp : pc + 2 = pc') (k : Go p e below P T (mkF m pc' Ls' st)) : Go p e below P T (mkF m pc Ls (.int v :: st)) := by
  subst hp
  exact k.of fun t q => XS.istore S.X.here S.ex rfl (S.hd hd) rfl hl q
theorem Go.lloadN (S : St p l e R s m args below meth c Z own bytes nl ret nm h0 ws T h locs cells slots) {k : Fin 4} {v : Int64} (hd : decode bytes pc = .ok (.lload_n k, 1)) (hl : Ls[k.val]? = some (.val (.long v))) (hp : pc + 1 = pc') (k : Go p e below P T (mkF m pc' Ls (.long v :: st))) : Go p e below P T (mkF m pc Ls st) := by
  subst hp
  exact k.of fun t q => XS.lloadN S.X.here S.ex rfl (S.hd hd) hl q
theorem Go.lload (S : St p l e R s m args below meth c Z own bytes nl ret nm h0 ws T h locs cells slots) {k : Nat} {v : Int64} (hd : decode bytes pc = .ok (.lload k, 2)) (hl : Ls[k]? = some (.val (.long v))) (hp : pc + 2 = pc') (k : Go p e below P T (mkF m pc' Ls (.long v :: st))) : Go p e below P T (mkF m pc Ls st) := by
  subst hp
  exact k.of fun t q => XS.lload S.X.here S.ex rfl (S.hd hd) hl q
theorem Go.lstoreN (S : St p l e R s m args below meth c Z own bytes nl ret nm h0 ws T h locs cells slots) {k : Fin 4} {v : Int64} (hd : decode bytes pc = .ok (.lstore_n k, 1)) (hl : storeLocals Ls k.val (.long v) = some Ls') (hp : pc + 1 = pc') (k : Go p e below P T (mkF m pc' Ls' st)) : Go p e below P T (mkF m pc Ls (.long v :: st)) := by
  subst hp
  exact k.of fun t q => XS.lstoreN S.X.here S.ex rfl (S.hd hd) rfl hl q
theorem Go.lstore (S : St p l e R s m args below meth c Z own bytes nl ret nm h0 ws T h locs cells slots) {k : Nat} {v : Int64} (hd : decode bytes pc = .ok (.lstore k, 2)) (hl : storeLocals Ls k (.long v) = some Ls') (hp : pc + 2 = pc') (k : Go p e below P T (mkF m pc' Ls' st)) : Go p e below P T (mkF m pc Ls (.long v :: st)) := by
  subst hp
  exact k.of fun t q => XS.lstore S.X.here S.ex rfl (S.hd hd) rfl hl q
theorem Go.aloadN (S : St p l e R s m args below meth c Z own bytes nl ret nm h0 ws T h locs cells slots) {k : Fin 4} {v : Value} (hd : decode bytes pc = .ok (.aload_n k, 1)) (hl : Ls[k.val]? = some (.val v)) (hr : v.isRef = true) (hp : pc + 1 = pc') (k : Go p e below P T (mkF m pc' Ls (v :: st))) : Go p e below P T (mkF m pc Ls st) := by
  subst hp
  exact k.of fun t q => XS.aloadN S.X.here S.ex rfl (S.hd hd) hl hr q
theorem Go.aload (S : St p l e R s m args below meth c Z own bytes nl ret nm h0 ws T h locs cells slots) {k : Nat} {v : Value} (hd : decode bytes pc = .ok (.aload k, 2)) (hl : Ls[k]? = some (.val v)) (hr : v.isRef = true) (hp : pc + 2 = pc') (k : Go p e below P T (mkF m pc' Ls (v :: st))) : Go p e below P T (mkF m pc Ls st) := by
  subst hp
  exact k.of fun t q => XS.aload S.X.here S.ex rfl (S.hd hd) hl hr q
theorem Go.astoreN (S : St p l e R s m args below meth c Z own bytes nl ret nm h0 ws T h locs cells slots) {k : Fin 4} {v : Value} (hd : decode bytes pc = .ok (.astore_n k, 1)) (hr : v.isRef = true) (hl : storeLocals Ls k.val v = some Ls') (hp : pc + 1 = pc') (k : Go p e below P T (mkF m pc' Ls' st)) : Go p e below P T (mkF m pc Ls (v :: st)) := by
  subst hp
  exact k.of fun t q => XS.astoreN S.X.here S.ex rfl (S.hd hd) rfl hr hl q
theorem Go.astore (S : St p l e R s m args below meth c Z own bytes nl ret nm h0 ws T h locs cells slots) {k : Nat} {v : Value} (hd : decode bytes pc = .ok (.astore k, 2)) (hr : v.isRef = true) (hl : storeLocals Ls k v = some Ls') (hp : pc + 2 = pc') (k : Go p e below P T (mkF m pc' Ls' st)) : Go p e below P T (mkF m pc Ls (v :: st)) := by
  subst hp
  exact k.of fun t q => XS.astore S.X.here S.ex rfl (S.hd hd) rfl hr hl q
theorem Go.iconst (S : St p l e R s m args below meth c Z own bytes nl ret nm h0 ws T h locs cells slots) {i : Int} {v : Int32} (hd : decode bytes pc = .ok (.iconst i, 1)) (hv : Int32.ofInt i = v) (hp : pc + 1 = pc') (k : Go p e below P T (mkF m pc' Ls (.int v :: st))) : Go p e below P T (mkF m pc Ls st) := by
  subst hp hv
  exact k.of fun t q => XS.iconst S.X.here S.ex rfl (S.hd hd) q
theorem Go.bipush (S : St p l e R s m args below meth c Z own bytes nl ret nm h0 ws T h locs cells slots) {i : Int} {v : Int32} (hd : decode bytes pc = .ok (.bipush i, 2)) (hv : (Int8.ofInt i).toInt32 = v) (hp : pc + 2 = pc') (k : Go p e below P T (mkF m pc' Ls (.int v :: st))) : Go p e below P T (mkF m pc Ls st) := by
  subst hp hv
  exact k.of fun t q => XS.bipush S.X.here S.ex rfl (S.hd hd) q
theorem Go.sipush (S : St p l e R s m args below meth c Z own bytes nl ret nm h0 ws T h locs cells slots) {i : Int} {v : Int32} (hd : decode bytes pc = .ok (.sipush i, 3)) (hv : (Int16.ofInt i).toInt32 = v) (hp : pc + 3 = pc') (k : Go p e below P T (mkF m pc' Ls (.int v :: st))) : Go p e below P T (mkF m pc Ls st) := by
  subst hp hv
  exact k.of fun t q => XS.sipush S.X.here S.ex rfl (S.hd hd) q
theorem Go.lconst (S : St p l e R s m args below meth c Z own bytes nl ret nm h0 ws T h locs cells slots) {i : Fin 2} {v : Int64} (hd : decode bytes pc = .ok (.lconst i, 1)) (hv : Int64.ofNat i = v) (hp : pc + 1 = pc') (k : Go p e below P T (mkF m pc' Ls (.long v :: st))) : Go p e below P T (mkF m pc Ls st) := by
  subst hp hv
  exact k.of fun t q => XS.lconst S.X.here S.ex rfl (S.hd hd) q
theorem Go.aconst_null (S : St p l e R s m args below meth c Z own bytes nl ret nm h0 ws T h locs cells slots)  (hd : decode bytes pc = .ok (.aconst_null, 1)) (hp : pc + 1 = pc') (k : Go p e below P T (mkF m pc' Ls (.null :: st))) : Go p e below P T (mkF m pc Ls st) := by
  subst hp
  exact k.of fun t q => XS.aconstNull S.X.here S.ex rfl (S.hd hd) q
theorem Go.iadd (S : St p l e R s m args below meth c Z own bytes nl ret nm h0 ws T h locs cells slots) {x y : Int32} (hd : decode bytes pc = .ok (.iadd, 1)) (hp : pc + 1 = pc') (k : Go p e below P T (mkF m pc' Ls (.int (x + y) :: st))) : Go p e below P T (mkF m pc Ls (.int y :: .int x :: st)) := by
  subst hp
  exact k.of fun t q => XS.iadd S.X.here S.ex rfl (S.hd hd) rfl q
theorem Go.ladd (S : St p l e R s m args below meth c Z own bytes nl ret nm h0 ws T h locs cells slots) {x y : Int64} (hd : decode bytes pc = .ok (.ladd, 1)) (hp : pc + 1 = pc') (k : Go p e below P T (mkF m pc' Ls (.long (x + y) :: st))) : Go p e below P T (mkF m pc Ls (.long y :: .long x :: st)) := by
  subst hp
  exact k.of fun t q => XS.ladd S.X.here S.ex rfl (S.hd hd) rfl q
theorem Go.isub (S : St p l e R s m args below meth c Z own bytes nl ret nm h0 ws T h locs cells slots) {x y : Int32} (hd : decode bytes pc = .ok (.isub, 1)) (hp : pc + 1 = pc') (k : Go p e below P T (mkF m pc' Ls (.int (x - y) :: st))) : Go p e below P T (mkF m pc Ls (.int y :: .int x :: st)) := by
  subst hp
  exact k.of fun t q => XS.isub S.X.here S.ex rfl (S.hd hd) rfl q
theorem Go.lsub (S : St p l e R s m args below meth c Z own bytes nl ret nm h0 ws T h locs cells slots) {x y : Int64} (hd : decode bytes pc = .ok (.lsub, 1)) (hp : pc + 1 = pc') (k : Go p e below P T (mkF m pc' Ls (.long (x - y) :: st))) : Go p e below P T (mkF m pc Ls (.long y :: .long x :: st)) := by
  subst hp
  exact k.of fun t q => XS.lsub S.X.here S.ex rfl (S.hd hd) rfl q
theorem Go.imul (S : St p l e R s m args below meth c Z own bytes nl ret nm h0 ws T h locs cells slots) {x y : Int32} (hd : decode bytes pc = .ok (.imul, 1)) (hp : pc + 1 = pc') (k : Go p e below P T (mkF m pc' Ls (.int (x * y) :: st))) : Go p e below P T (mkF m pc Ls (.int y :: .int x :: st)) := by
  subst hp
  exact k.of fun t q => XS.imul S.X.here S.ex rfl (S.hd hd) rfl q
theorem Go.lmul (S : St p l e R s m args below meth c Z own bytes nl ret nm h0 ws T h locs cells slots) {x y : Int64} (hd : decode bytes pc = .ok (.lmul, 1)) (hp : pc + 1 = pc') (k : Go p e below P T (mkF m pc' Ls (.long (x * y) :: st))) : Go p e below P T (mkF m pc Ls (.long y :: .long x :: st)) := by
  subst hp
  exact k.of fun t q => XS.lmul S.X.here S.ex rfl (S.hd hd) rfl q
theorem Go.iand (S : St p l e R s m args below meth c Z own bytes nl ret nm h0 ws T h locs cells slots) {x y : Int32} (hd : decode bytes pc = .ok (.iand, 1)) (hp : pc + 1 = pc') (k : Go p e below P T (mkF m pc' Ls (.int (x &&& y) :: st))) : Go p e below P T (mkF m pc Ls (.int y :: .int x :: st)) := by
  subst hp
  exact k.of fun t q => XS.iand S.X.here S.ex rfl (S.hd hd) rfl q
theorem Go.land (S : St p l e R s m args below meth c Z own bytes nl ret nm h0 ws T h locs cells slots) {x y : Int64} (hd : decode bytes pc = .ok (.land, 1)) (hp : pc + 1 = pc') (k : Go p e below P T (mkF m pc' Ls (.long (x &&& y) :: st))) : Go p e below P T (mkF m pc Ls (.long y :: .long x :: st)) := by
  subst hp
  exact k.of fun t q => XS.land S.X.here S.ex rfl (S.hd hd) rfl q
theorem Go.ior (S : St p l e R s m args below meth c Z own bytes nl ret nm h0 ws T h locs cells slots) {x y : Int32} (hd : decode bytes pc = .ok (.ior, 1)) (hp : pc + 1 = pc') (k : Go p e below P T (mkF m pc' Ls (.int (x ||| y) :: st))) : Go p e below P T (mkF m pc Ls (.int y :: .int x :: st)) := by
  subst hp
  exact k.of fun t q => XS.ior S.X.here S.ex rfl (S.hd hd) rfl q
theorem Go.lor (S : St p l e R s m args below meth c Z own bytes nl ret nm h0 ws T h locs cells slots) {x y : Int64} (hd : decode bytes pc = .ok (.lor, 1)) (hp : pc + 1 = pc') (k : Go p e below P T (mkF m pc' Ls (.long (x ||| y) :: st))) : Go p e below P T (mkF m pc Ls (.long y :: .long x :: st)) := by
  subst hp
  exact k.of fun t q => XS.lor S.X.here S.ex rfl (S.hd hd) rfl q
theorem Go.ixor (S : St p l e R s m args below meth c Z own bytes nl ret nm h0 ws T h locs cells slots) {x y : Int32} (hd : decode bytes pc = .ok (.ixor, 1)) (hp : pc + 1 = pc') (k : Go p e below P T (mkF m pc' Ls (.int (x ^^^ y) :: st))) : Go p e below P T (mkF m pc Ls (.int y :: .int x :: st)) := by
  subst hp
  exact k.of fun t q => XS.ixor S.X.here S.ex rfl (S.hd hd) rfl q
theorem Go.lxor (S : St p l e R s m args below meth c Z own bytes nl ret nm h0 ws T h locs cells slots) {x y : Int64} (hd : decode bytes pc = .ok (.lxor, 1)) (hp : pc + 1 = pc') (k : Go p e below P T (mkF m pc' Ls (.long (x ^^^ y) :: st))) : Go p e below P T (mkF m pc Ls (.long y :: .long x :: st)) := by
  subst hp
  exact k.of fun t q => XS.lxor S.X.here S.ex rfl (S.hd hd) rfl q
theorem Go.ishl (S : St p l e R s m args below meth c Z own bytes nl ret nm h0 ws T h locs cells slots) {x : Int32} {y : Int32} (hd : decode bytes pc = .ok (.ishl, 1)) (hp : pc + 1 = pc') (k : Go p e below P T (mkF m pc' Ls (.int (x <<< (y &&& 31)) :: st))) : Go p e below P T (mkF m pc Ls (.int y :: .int x :: st)) := by
  subst hp
  exact k.of fun t q => XS.ishl S.X.here S.ex rfl (S.hd hd) rfl q
theorem Go.ishr (S : St p l e R s m args below meth c Z own bytes nl ret nm h0 ws T h locs cells slots) {x : Int32} {y : Int32} (hd : decode bytes pc = .ok (.ishr, 1)) (hp : pc + 1 = pc') (k : Go p e below P T (mkF m pc' Ls (.int (x >>> (y &&& 31)) :: st))) : Go p e below P T (mkF m pc Ls (.int y :: .int x :: st)) := by
  subst hp
  exact k.of fun t q => XS.ishr S.X.here S.ex rfl (S.hd hd) rfl q
theorem Go.iushr (S : St p l e R s m args below meth c Z own bytes nl ret nm h0 ws T h locs cells slots) {x : Int32} {y : Int32} (hd : decode bytes pc = .ok (.iushr, 1)) (hp : pc + 1 = pc') (k : Go p e below P T (mkF m pc' Ls (.int ((x.toUInt32 >>> (y &&& 31).toUInt32).toInt32) :: st))) : Go p e below P T (mkF m pc Ls (.int y :: .int x :: st)) := by
  subst hp
  exact k.of fun t q => XS.iushr S.X.here S.ex rfl (S.hd hd) rfl q
theorem Go.lshl (S : St p l e R s m args below meth c Z own bytes nl ret nm h0 ws T h locs cells slots) {x : Int64} {y : Int32} (hd : decode bytes pc = .ok (.lshl, 1)) (hp : pc + 1 = pc') (k : Go p e below P T (mkF m pc' Ls (.long (x <<< (y &&& 0x3f).toInt64) :: st))) : Go p e below P T (mkF m pc Ls (.int y :: .long x :: st)) := by
  subst hp
  exact k.of fun t q => XS.lshl S.X.here S.ex rfl (S.hd hd) rfl q
theorem Go.lshr (S : St p l e R s m args below meth c Z own bytes nl ret nm h0 ws T h locs cells slots) {x : Int64} {y : Int32} (hd : decode bytes pc = .ok (.lshr, 1)) (hp : pc + 1 = pc') (k : Go p e below P T (mkF m pc' Ls (.long (x >>> (y &&& 0x3f).toInt64) :: st))) : Go p e below P T (mkF m pc Ls (.int y :: .long x :: st)) := by
  subst hp
  exact k.of fun t q => XS.lshr S.X.here S.ex rfl (S.hd hd) rfl q
theorem Go.lushr (S : St p l e R s m args below meth c Z own bytes nl ret nm h0 ws T h locs cells slots) {x : Int64} {y : Int32} (hd : decode bytes pc = .ok (.lushr, 1)) (hp : pc + 1 = pc') (k : Go p e below P T (mkF m pc' Ls (.long ((x.toUInt64 >>> (y &&& 0x3f).toInt64.toUInt64).toInt64) :: st))) : Go p e below P T (mkF m pc Ls (.int y :: .long x :: st)) := by
  subst hp
  exact k.of fun t q => XS.lushr S.X.here S.ex rfl (S.hd hd) rfl q
theorem Go.i2l (S : St p l e R s m args below meth c Z own bytes nl ret nm h0 ws T h locs cells slots) {x : Int32} (hd : decode bytes pc = .ok (.i2l, 1)) (hp : pc + 1 = pc') (k : Go p e below P T (mkF m pc' Ls (.long (x.toInt64) :: st))) : Go p e below P T (mkF m pc Ls (.int x :: st)) := by
  subst hp
  exact k.of fun t q => XS.i2l S.X.here S.ex rfl (S.hd hd) rfl q
theorem Go.l2i (S : St p l e R s m args below meth c Z own bytes nl ret nm h0 ws T h locs cells slots) {x : Int64} (hd : decode bytes pc = .ok (.l2i, 1)) (hp : pc + 1 = pc') (k : Go p e below P T (mkF m pc' Ls (.int (x.toInt32) :: st))) : Go p e below P T (mkF m pc Ls (.long x :: st)) := by
  subst hp
  exact k.of fun t q => XS.l2i S.X.here S.ex rfl (S.hd hd) rfl q
theorem Go.i2b (S : St p l e R s m args below meth c Z own bytes nl ret nm h0 ws T h locs cells slots) {x : Int32} (hd : decode bytes pc = .ok (.i2b, 1)) (hp : pc + 1 = pc') (k : Go p e below P T (mkF m pc' Ls (.int (x.toInt8.toInt32) :: st))) : Go p e below P T (mkF m pc Ls (.int x :: st)) := by
  subst hp
  exact k.of fun t q => XS.i2b S.X.here S.ex rfl (S.hd hd) rfl q
theorem Go.i2s (S : St p l e R s m args below meth c Z own bytes nl ret nm h0 ws T h locs cells slots) {x : Int32} (hd : decode bytes pc = .ok (.i2s, 1)) (hp : pc + 1 = pc') (k : Go p e below P T (mkF m pc' Ls (.int (x.toInt16.toInt32) :: st))) : Go p e below P T (mkF m pc Ls (.int x :: st)) := by
  subst hp
  exact k.of fun t q => XS.i2s S.X.here S.ex rfl (S.hd hd) rfl q
theorem Go.i2c (S : St p l e R s m args below meth c Z own bytes nl ret nm h0 ws T h locs cells slots) {x : Int32} (hd : decode bytes pc = .ok (.i2c, 1)) (hp : pc + 1 = pc') (k : Go p e below P T (mkF m pc' Ls (.int (x.toUInt32.toUInt16.toUInt32.toInt32) :: st))) : Go p e below P T (mkF m pc Ls (.int x :: st)) := by
  subst hp
  exact k.of fun t q => XS.i2c S.X.here S.ex rfl (S.hd hd) rfl q
theorem Go.ineg (S : St p l e R s m args below meth c Z own bytes nl ret nm h0 ws T h locs cells slots) {x : Int32} (hd : decode bytes pc = .ok (.ineg, 1)) (hp : pc + 1 = pc') (k : Go p e below P T (mkF m pc' Ls (.int (-x) :: st))) : Go p e below P T (mkF m pc Ls (.int x :: st)) := by
  subst hp
  exact k.of fun t q => XS.ineg S.X.here S.ex rfl (S.hd hd) rfl q
theorem Go.lneg (S : St p l e R s m args below meth c Z own bytes nl ret nm h0 ws T h locs cells slots) {x : Int64} (hd : decode bytes pc = .ok (.lneg, 1)) (hp : pc + 1 = pc') (k : Go p e below P T (mkF m pc' Ls (.long (-x) :: st))) : Go p e below P T (mkF m pc Ls (.long x :: st)) := by
  subst hp
  exact k.of fun t q => XS.lneg S.X.here S.ex rfl (S.hd hd) rfl q
theorem Go.idiv (S : St p l e R s m args below meth c Z own bytes nl ret nm h0 ws T h locs cells slots) {x y : Int32} (hd : decode bytes pc = .ok (.idiv, 1)) (hy : y ≠ 0) (hp : pc + 1 = pc') (k : Go p e below P T (mkF m pc' Ls (.int (x / y) :: st))) : Go p e below P T (mkF m pc Ls (.int y :: .int x :: st)) := by
  subst hp
  exact k.of fun t q => XS.idiv S.X.here S.ex rfl (S.hd hd) rfl hy q
theorem Go.ldiv (S : St p l e R s m args below meth c Z own bytes nl ret nm h0 ws T h locs cells slots) {x y : Int64} (hd : decode bytes pc = .ok (.ldiv, 1)) (hy : y ≠ 0) (hp : pc + 1 = pc') (k : Go p e below P T (mkF m pc' Ls (.long (x / y) :: st))) : Go p e below P T (mkF m pc Ls (.long y :: .long x :: st)) := by
  subst hp
  exact k.of fun t q => XS.ldiv S.X.here S.ex rfl (S.hd hd) rfl hy q
theorem Go.irem (S : St p l e R s m args below meth c Z own bytes nl ret nm h0 ws T h locs cells slots) {x y : Int32} (hd : decode bytes pc = .ok (.irem, 1)) (hy : y ≠ 0) (hp : pc + 1 = pc') (k : Go p e below P T (mkF m pc' Ls (.int (x % y) :: st))) : Go p e below P T (mkF m pc Ls (.int y :: .int x :: st)) := by
  subst hp
  exact k.of fun t q => Jvm.RoadKit.iremM S.X S.ex rfl (S.hd hd) rfl hy q
theorem Go.lrem (S : St p l e R s m args below meth c Z own bytes nl ret nm h0 ws T h locs cells slots) {x y : Int64} (hd : decode bytes pc = .ok (.lrem, 1)) (hy : y ≠ 0) (hp : pc + 1 = pc') (k : Go p e below P T (mkF m pc' Ls (.long (x % y) :: st))) : Go p e below P T (mkF m pc Ls (.long y :: .long x :: st)) := by
  subst hp
  rw [← lrem_mod] at k
  exact k.of fun t q => XS.lrem S.X.here S.ex rfl (S.hd hd) rfl hy q
theorem Go.iinc (S : St p l e R s m args below meth c Z own bytes nl ret nm h0 ws T h locs cells slots) {k : Nat} {cst : Int} {x : Int32} (hd : decode bytes pc = .ok (.iinc k cst, 3)) (hl : Ls[k]? = some (.val (.int x))) (hl' : storeLocals Ls k (.int (x + Int32.ofInt cst)) = some Ls') (hp : pc + 3 = pc') (k : Go p e below P T (mkF m pc' Ls' st)) : Go p e below P T (mkF m pc Ls st) := by
  subst hp
  exact k.of fun t q => XS.iinc S.X.here S.ex rfl (S.hd hd) hl hl' q
theorem Go.dup (S : St p l e R s m args below meth c Z own bytes nl ret nm h0 ws T h locs cells slots) {x : Value} (hd : decode bytes pc = .ok (.dup, 1)) (hc : x.category = 1) (hp : pc + 1 = pc') (k : Go p e below P T (mkF m pc' Ls (x :: x :: st))) : Go p e below P T (mkF m pc Ls (x :: st)) := by
  subst hp
  exact k.of fun t q => XS.dup S.X.here S.ex rfl (S.hd hd) rfl hc q
theorem Go.pop (S : St p l e R s m args below meth c Z own bytes nl ret nm h0 ws T h locs cells slots) {x : Value} (hd : decode bytes pc = .ok (.pop, 1)) (hc : x.category = 1) (hp : pc + 1 = pc') (k : Go p e below P T (mkF m pc' Ls st)) : Go p e below P T (mkF m pc Ls (x :: st)) := by
  subst hp
  exact k.of fun t q => XS.pop S.X.here S.ex rfl (S.hd hd) rfl hc q
theorem Go.dup_x1 (S : St p l e R s m args below meth c Z own bytes nl ret nm h0 ws T h locs cells slots) {x y : Value} (hd : decode bytes pc = .ok (.dup_x1, 1)) (hc : x.category = 1) (hc' : y.category = 1) (hp : pc + 1 = pc') (k : Go p e below P T (mkF m pc' Ls (x :: y :: x :: st))) : Go p e below P T (mkF m pc Ls (x :: y :: st)) := by
  subst hp
  exact k.of fun t q => XS.dupX1 S.X.here S.ex rfl (S.hd hd) rfl hc hc' q
theorem Go.goto (S : St p l e R s m args below meth c Z own bytes nl ret nm h0 ws T h locs cells slots) {o : Int} (hd : decode bytes pc = .ok (.goto o, 3)) (hp : (pc : Int) + o = (pc' : Int)) (k : Go p e below P T (mkF m pc' Ls st)) : Go p e below P T (mkF m pc Ls st) :=
  k.of fun t q => XS.goto S.X.here S.ex rfl (pc0 := pc) rfl (S.hd hd) (off0 hp) (off1 hp) q
theorem Go.if_eq (S : St p l e R s m args below meth c Z own bytes nl ret nm h0 ws T h locs cells slots) {x : Int32} {o : Int} {pt : Nat} (hd : decode bytes pc = .ok (.ifCond .eq o, 3)) (ht : (pc : Int) + o = (pt : Int)) (hf : pc + 3 = pc') (ky : x = 0 → Go p e below P T (mkF m pt Ls st)) (kn : ¬ x = 0 → Go p e below P T (mkF m pc' Ls st)) : Go p e below P T (mkF m pc Ls (.int x :: st)) := by
  subst hf
  by_cases q : x = 0
  · exact (ky q).of fun t q' => XS.ifYes S.X.here S.ex rfl (pc0 := pc) rfl (S.hd hd) rfl (Jvm.Free.XT.i0_eq_t q) (off0 ht) (off1 ht) q'
  · exact (kn q).of fun t q' => XS.ifNo S.X.here S.ex rfl (S.hd hd) rfl (Jvm.Free.XT.i0_eq_f q) q'
theorem Go.icmp_eq (S : St p l e R s m args below meth c Z own bytes nl ret nm h0 ws T h locs cells slots) {x y : Int32} {o : Int} {pt : Nat} (hd : decode bytes pc = .ok (.if_icmp .eq o, 3)) (ht : (pc : Int) + o = (pt : Int)) (hf : pc + 3 = pc') (ky : x = y → Go p e below P T (mkF m pt Ls st)) (kn : ¬ x = y → Go p e below P T (mkF m pc' Ls st)) : Go p e below P T (mkF m pc Ls (.int y :: .int x :: st)) := by
  subst hf
  by_cases q : x = y
  · exact (ky q).of fun t q' => XS.icmpYes S.X.here S.ex rfl (pc0 := pc) rfl (S.hd hd) rfl (Jvm.Free.XT.ii_eq_t q) (off0 ht) (off1 ht) q'
  · exact (kn q).of fun t q' => XS.icmpNo S.X.here S.ex rfl (S.hd hd) rfl (Jvm.Free.XT.ii_eq_f q) q'
theorem Go.lcmp_eq (S : St p l e R s m args below meth c Z own bytes nl ret nm h0 ws T h locs cells slots) {x y : Int64} {o : Int} {pt : Nat} {pc1 : Nat} (hd1 : decode bytes pc = .ok (.lcmp, 1)) (h1 : pc + 1 = pc1) (hd : decode bytes pc1 = .ok (.ifCond .eq o, 3)) (ht : (pc1 : Int) + o = (pt : Int)) (hf : pc1 + 3 = pc') (ky : x = y → Go p e below P T (mkF m pt Ls st)) (kn : ¬ x = y → Go p e below P T (mkF m pc' Ls st)) : Go p e below P T (mkF m pc Ls (.long y :: .long x :: st)) := by
  subst hf h1
  by_cases q : x = y
  · exact (ky q).of fun t q' => Jvm.Free.XT.lcmp S.X.here S.ex rfl (S.hd hd1) rfl (XS.ifYes S.X.here S.ex rfl (pc0 := pc + 1) rfl (S.hd hd) rfl (Jvm.Free.XT.ll_eq_t q) (off0 ht) (off1 ht) q')
  · exact (kn q).of fun t q' => Jvm.Free.XT.lcmp S.X.here S.ex rfl (S.hd hd1) rfl (XS.ifNo S.X.here S.ex rfl (S.hd hd) rfl (Jvm.Free.XT.ll_eq_f q) q')
theorem Go.if_ne (S : St p l e R s m args below meth c Z own bytes nl ret nm h0 ws T h locs cells slots) {x : Int32} {o : Int} {pt : Nat} (hd : decode bytes pc = .ok (.ifCond .ne o, 3)) (ht : (pc : Int) + o = (pt : Int)) (hf : pc + 3 = pc') (ky : ¬ x = 0 → Go p e below P T (mkF m pt Ls st)) (kn : x = 0 → Go p e below P T (mkF m pc' Ls st)) : Go p e below P T (mkF m pc Ls (.int x :: st)) := by
  subst hf
  by_cases q : x = 0
  · exact (kn q).of fun t q' => XS.ifNo S.X.here S.ex rfl (S.hd hd) rfl (Jvm.Free.XT.i0_ne_f q) q'
  · exact (ky q).of fun t q' => XS.ifYes S.X.here S.ex rfl (pc0 := pc) rfl (S.hd hd) rfl (Jvm.Free.XT.i0_ne_t q) (off0 ht) (off1 ht) q'
theorem Go.icmp_ne (S : St p l e R s m args below meth c Z own bytes nl ret nm h0 ws T h locs cells slots) {x y : Int32} {o : Int} {pt : Nat} (hd : decode bytes pc = .ok (.if_icmp .ne o, 3)) (ht : (pc : Int) + o = (pt : Int)) (hf : pc + 3 = pc') (ky : ¬ x = y → Go p e below P T (mkF m pt Ls st)) (kn : x = y → Go p e below P T (mkF m pc' Ls st)) : Go p e below P T (mkF m pc Ls (.int y :: .int x :: st)) := by
  subst hf
  by_cases q : x = y
  · exact (kn q).of fun t q' => XS.icmpNo S.X.here S.ex rfl (S.hd hd) rfl (Jvm.Free.XT.ii_ne_f q) q'
  · exact (ky q).of fun t q' => XS.icmpYes S.X.here S.ex rfl (pc0 := pc) rfl (S.hd hd) rfl (Jvm.Free.XT.ii_ne_t q) (off0 ht) (off1 ht) q'
theorem Go.lcmp_ne (S : St p l e R s m args below meth c Z own bytes nl ret nm h0 ws T h locs cells slots) {x y : Int64} {o : Int} {pt : Nat} {pc1 : Nat} (hd1 : decode bytes pc = .ok (.lcmp, 1)) (h1 : pc + 1 = pc1) (hd : decode bytes pc1 = .ok (.ifCond .ne o, 3)) (ht : (pc1 : Int) + o = (pt : Int)) (hf : pc1 + 3 = pc') (ky : ¬ x = y → Go p e below P T (mkF m pt Ls st)) (kn : x = y → Go p e below P T (mkF m pc' Ls st)) : Go p e below P T (mkF m pc Ls (.long y :: .long x :: st)) := by
  subst hf h1
  by_cases q : x = y
  · exact (kn q).of fun t q' => Jvm.Free.XT.lcmp S.X.here S.ex rfl (S.hd hd1) rfl (XS.ifNo S.X.here S.ex rfl (S.hd hd) rfl (Jvm.Free.XT.ll_ne_f q) q')
  · exact (ky q).of fun t q' => Jvm.Free.XT.lcmp S.X.here S.ex rfl (S.hd hd1) rfl (XS.ifYes S.X.here S.ex rfl (pc0 := pc + 1) rfl (S.hd hd) rfl (Jvm.Free.XT.ll_ne_t q) (off0 ht) (off1 ht) q')
theorem Go.if_lt (S : St p l e R s m args below meth c Z own bytes nl ret nm h0 ws T h locs cells slots) {x : Int32} {o : Int} {pt : Nat} (hd : decode bytes pc = .ok (.ifCond .lt o, 3)) (ht : (pc : Int) + o = (pt : Int)) (hf : pc + 3 = pc') (ky : x < 0 → Go p e below P T (mkF m pt Ls st)) (kn : ¬ x < 0 → Go p e below P T (mkF m pc' Ls st)) : Go p e below P T (mkF m pc Ls (.int x :: st)) := by
  subst hf
  by_cases q : x < 0
  · exact (ky q).of fun t q' => XS.ifYes S.X.here S.ex rfl (pc0 := pc) rfl (S.hd hd) rfl (Jvm.Free.XT.i0_lt_t q) (off0 ht) (off1 ht) q'
  · exact (kn q).of fun t q' => XS.ifNo S.X.here S.ex rfl (S.hd hd) rfl (Jvm.Free.XT.i0_lt_f q) q'
theorem Go.icmp_lt (S : St p l e R s m args below meth c Z own bytes nl ret nm h0 ws T h locs cells slots) {x y : Int32} {o : Int} {pt : Nat} (hd : decode bytes pc = .ok (.if_icmp .lt o, 3)) (ht : (pc : Int) + o = (pt : Int)) (hf : pc + 3 = pc') (ky : x < y → Go p e below P T (mkF m pt Ls st)) (kn : ¬ x < y → Go p e below P T (mkF m pc' Ls st)) : Go p e below P T (mkF m pc Ls (.int y :: .int x :: st)) := by
  subst hf
  by_cases q : x < y
  · exact (ky q).of fun t q' => XS.icmpYes S.X.here S.ex rfl (pc0 := pc) rfl (S.hd hd) rfl (Jvm.Free.XT.ii_lt_t q) (off0 ht) (off1 ht) q'
  · exact (kn q).of fun t q' => XS.icmpNo S.X.here S.ex rfl (S.hd hd) rfl (Jvm.Free.XT.ii_lt_f q) q'
theorem Go.lcmp_lt (S : St p l e R s m args below meth c Z own bytes nl ret nm h0 ws T h locs cells slots) {x y : Int64} {o : Int} {pt : Nat} {pc1 : Nat} (hd1 : decode bytes pc = .ok (.lcmp, 1)) (h1 : pc + 1 = pc1) (hd : decode bytes pc1 = .ok (.ifCond .lt o, 3)) (ht : (pc1 : Int) + o = (pt : Int)) (hf : pc1 + 3 = pc') (ky : x < y → Go p e below P T (mkF m pt Ls st)) (kn : ¬ x < y → Go p e below P T (mkF m pc' Ls st)) : Go p e below P T (mkF m pc Ls (.long y :: .long x :: st)) := by
  subst hf h1
  by_cases q : x < y
  · exact (ky q).of fun t q' => Jvm.Free.XT.lcmp S.X.here S.ex rfl (S.hd hd1) rfl (XS.ifYes S.X.here S.ex rfl (pc0 := pc + 1) rfl (S.hd hd) rfl (Jvm.Free.XT.ll_lt_t q) (off0 ht) (off1 ht) q')
  · exact (kn q).of fun t q' => Jvm.Free.XT.lcmp S.X.here S.ex rfl (S.hd hd1) rfl (XS.ifNo S.X.here S.ex rfl (S.hd hd) rfl (Jvm.Free.XT.ll_lt_f q) q')
theorem Go.if_ge (S : St p l e R s m args below meth c Z own bytes nl ret nm h0 ws T h locs cells slots) {x : Int32} {o : Int} {pt : Nat} (hd : decode bytes pc = .ok (.ifCond .ge o, 3)) (ht : (pc : Int) + o = (pt : Int)) (hf : pc + 3 = pc') (ky : ¬ x < 0 → Go p e below P T (mkF m pt Ls st)) (kn : x < 0 → Go p e below P T (mkF m pc' Ls st)) : Go p e below P T (mkF m pc Ls (.int x :: st)) := by
  subst hf
  by_cases q : x < 0
  · exact (kn q).of fun t q' => XS.ifNo S.X.here S.ex rfl (S.hd hd) rfl (Jvm.Free.XT.i0_ge_f q) q'
  · exact (ky q).of fun t q' => XS.ifYes S.X.here S.ex rfl (pc0 := pc) rfl (S.hd hd) rfl (Jvm.Free.XT.i0_ge_t q) (off0 ht) (off1 ht) q'
theorem Go.icmp_ge (S : St p l e R s m args below meth c Z own bytes nl ret nm h0 ws T h locs cells slots) {x y : Int32} {o : Int} {pt : Nat} (hd : decode bytes pc = .ok (.if_icmp .ge o, 3)) (ht : (pc : Int) + o = (pt : Int)) (hf : pc + 3 = pc') (ky : ¬ x < y → Go p e below P T (mkF m pt Ls st)) (kn : x < y → Go p e below P T (mkF m pc' Ls st)) : Go p e below P T (mkF m pc Ls (.int y :: .int x :: st)) := by
  subst hf
  by_cases q : x < y
  · exact (kn q).of fun t q' => XS.icmpNo S.X.here S.ex rfl (S.hd hd) rfl (Jvm.Free.XT.ii_ge_f q) q'
  · exact (ky q).of fun t q' => XS.icmpYes S.X.here S.ex rfl (pc0 := pc) rfl (S.hd hd) rfl (Jvm.Free.XT.ii_ge_t q) (off0 ht) (off1 ht) q'
theorem Go.lcmp_ge (S : St p l e R s m args below meth c Z own bytes nl ret nm h0 ws T h locs cells slots) {x y : Int64} {o : Int} {pt : Nat} {pc1 : Nat} (hd1 : decode bytes pc = .ok (.lcmp, 1)) (h1 : pc + 1 = pc1) (hd : decode bytes pc1 = .ok (.ifCond .ge o, 3)) (ht : (pc1 : Int) + o = (pt : Int)) (hf : pc1 + 3 = pc') (ky : ¬ x < y → Go p e below P T (mkF m pt Ls st)) (kn : x < y → Go p e below P T (mkF m pc' Ls st)) : Go p e below P T (mkF m pc Ls (.long y :: .long x :: st)) := by
  subst hf h1
  by_cases q : x < y
  · exact (kn q).of fun t q' => Jvm.Free.XT.lcmp S.X.here S.ex rfl (S.hd hd1) rfl (XS.ifNo S.X.here S.ex rfl (S.hd hd) rfl (Jvm.Free.XT.ll_ge_f q) q')
  · exact (ky q).of fun t q' => Jvm.Free.XT.lcmp S.X.here S.ex rfl (S.hd hd1) rfl (XS.ifYes S.X.here S.ex rfl (pc0 := pc + 1) rfl (S.hd hd) rfl (Jvm.Free.XT.ll_ge_t q) (off0 ht) (off1 ht) q')
theorem Go.if_gt (S : St p l e R s m args below meth c Z own bytes nl ret nm h0 ws T h locs cells slots) {x : Int32} {o : Int} {pt : Nat} (hd : decode bytes pc = .ok (.ifCond .gt o, 3)) (ht : (pc : Int) + o = (pt : Int)) (hf : pc + 3 = pc') (ky : 0 < x → Go p e below P T (mkF m pt Ls st)) (kn : ¬ 0 < x → Go p e below P T (mkF m pc' Ls st)) : Go p e below P T (mkF m pc Ls (.int x :: st)) := by
  subst hf
  by_cases q : 0 < x
  · exact (ky q).of fun t q' => XS.ifYes S.X.here S.ex rfl (pc0 := pc) rfl (S.hd hd) rfl (Jvm.Free.XT.i0_gt_t q) (off0 ht) (off1 ht) q'
  · exact (kn q).of fun t q' => XS.ifNo S.X.here S.ex rfl (S.hd hd) rfl (Jvm.Free.XT.i0_gt_f q) q'
theorem Go.icmp_gt (S : St p l e R s m args below meth c Z own bytes nl ret nm h0 ws T h locs cells slots) {x y : Int32} {o : Int} {pt : Nat} (hd : decode bytes pc = .ok (.if_icmp .gt o, 3)) (ht : (pc : Int) + o = (pt : Int)) (hf : pc + 3 = pc') (ky : y < x → Go p e below P T (mkF m pt Ls st)) (kn : ¬ y < x → Go p e below P T (mkF m pc' Ls st)) : Go p e below P T (mkF m pc Ls (.int y :: .int x :: st)) := by
  subst hf
  by_cases q : y < x
  · exact (ky q).of fun t q' => XS.icmpYes S.X.here S.ex rfl (pc0 := pc) rfl (S.hd hd) rfl (Jvm.Free.XT.ii_gt_t q) (off0 ht) (off1 ht) q'
  · exact (kn q).of fun t q' => XS.icmpNo S.X.here S.ex rfl (S.hd hd) rfl (Jvm.Free.XT.ii_gt_f q) q'
theorem Go.lcmp_gt (S : St p l e R s m args below meth c Z own bytes nl ret nm h0 ws T h locs cells slots) {x y : Int64} {o : Int} {pt : Nat} {pc1 : Nat} (hd1 : decode bytes pc = .ok (.lcmp, 1)) (h1 : pc + 1 = pc1) (hd : decode bytes pc1 = .ok (.ifCond .gt o, 3)) (ht : (pc1 : Int) + o = (pt : Int)) (hf : pc1 + 3 = pc') (ky : y < x → Go p e below P T (mkF m pt Ls st)) (kn : ¬ y < x → Go p e below P T (mkF m pc' Ls st)) : Go p e below P T (mkF m pc Ls (.long y :: .long x :: st)) := by
  subst hf h1
  by_cases q : y < x
  · exact (ky q).of fun t q' => Jvm.Free.XT.lcmp S.X.here S.ex rfl (S.hd hd1) rfl (XS.ifYes S.X.here S.ex rfl (pc0 := pc + 1) rfl (S.hd hd) rfl (Jvm.Free.XT.ll_gt_t q) (off0 ht) (off1 ht) q')
  · exact (kn q).of fun t q' => Jvm.Free.XT.lcmp S.X.here S.ex rfl (S.hd hd1) rfl (XS.ifNo S.X.here S.ex rfl (S.hd hd) rfl (Jvm.Free.XT.ll_gt_f q) q')
theorem Go.if_le (S : St p l e R s m args below meth c Z own bytes nl ret nm h0 ws T h locs cells slots) {x : Int32} {o : Int} {pt : Nat} (hd : decode bytes pc = .ok (.ifCond .le o, 3)) (ht : (pc : Int) + o = (pt : Int)) (hf : pc + 3 = pc') (ky : ¬ 0 < x → Go p e below P T (mkF m pt Ls st)) (kn : 0 < x → Go p e below P T (mkF m pc' Ls st)) : Go p e below P T (mkF m pc Ls (.int x :: st)) := by
  subst hf
  by_cases q : 0 < x
  · exact (kn q).of fun t q' => XS.ifNo S.X.here S.ex rfl (S.hd hd) rfl (Jvm.Free.XT.i0_le_f q) q'
  · exact (ky q).of fun t q' => XS.ifYes S.X.here S.ex rfl (pc0 := pc) rfl (S.hd hd) rfl (Jvm.Free.XT.i0_le_t q) (off0 ht) (off1 ht) q'
theorem Go.icmp_le (S : St p l e R s m args below meth c Z own bytes nl ret nm h0 ws T h locs cells slots) {x y : Int32} {o : Int} {pt : Nat} (hd : decode bytes pc = .ok (.if_icmp .le o, 3)) (ht : (pc : Int) + o = (pt : Int)) (hf : pc + 3 = pc') (ky : ¬ y < x → Go p e below P T (mkF m pt Ls st)) (kn : y < x → Go p e below P T (mkF m pc' Ls st)) : Go p e below P T (mkF m pc Ls (.int y :: .int x :: st)) := by
  subst hf
  by_cases q : y < x
  · exact (kn q).of fun t q' => XS.icmpNo S.X.here S.ex rfl (S.hd hd) rfl (Jvm.Free.XT.ii_le_f q) q'
  · exact (ky q).of fun t q' => XS.icmpYes S.X.here S.ex rfl (pc0 := pc) rfl (S.hd hd) rfl (Jvm.Free.XT.ii_le_t q) (off0 ht) (off1 ht) q'
theorem Go.lcmp_le (S : St p l e R s m args below meth c Z own bytes nl ret nm h0 ws T h locs cells slots) {x y : Int64} {o : Int} {pt : Nat} {pc1 : Nat} (hd1 : decode bytes pc = .ok (.lcmp, 1)) (h1 : pc + 1 = pc1) (hd : decode bytes pc1 = .ok (.ifCond .le o, 3)) (ht : (pc1 : Int) + o = (pt : Int)) (hf : pc1 + 3 = pc') (ky : ¬ y < x → Go p e below P T (mkF m pt Ls st)) (kn : y < x → Go p e below P T (mkF m pc' Ls st)) : Go p e below P T (mkF m pc Ls (.long y :: .long x :: st)) := by
  subst hf h1
  by_cases q : y < x
  · exact (kn q).of fun t q' => Jvm.Free.XT.lcmp S.X.here S.ex rfl (S.hd hd1) rfl (XS.ifNo S.X.here S.ex rfl (S.hd hd) rfl (Jvm.Free.XT.ll_le_f q) q')
  · exact (ky q).of fun t q' => Jvm.Free.XT.lcmp S.X.here S.ex rfl (S.hd hd1) rfl (XS.ifYes S.X.here S.ex rfl (pc0 := pc + 1) rfl (S.hd hd) rfl (Jvm.Free.XT.ll_le_t q) (off0 ht) (off1 ht) q')
theorem Go.acmp_eq (S : St p l e R s m args below meth c Z own bytes nl ret nm h0 ws T h locs cells slots) {x y : Value} {o : Int} {pt : Nat} (hd : decode bytes pc = .ok (.if_acmp .eq o, 3)) (ht : (pc : Int) + o = (pt : Int)) (hf : pc + 3 = pc') (rx : x.isRef = true) (ry : y.isRef = true) (ky : x = y → Go p e below P T (mkF m pt Ls st)) (kn : ¬ x = y → Go p e below P T (mkF m pc' Ls st)) : Go p e below P T (mkF m pc Ls (y :: x :: st)) := by
  subst hf
  by_cases q : x = y
  · exact (ky q).of fun t q' => Jvm.RoadKit.acmp (g := mkF m pc Ls (y :: x :: st)) S.X S.ex rfl rx ry (pc0 := pc) (same := true) rfl (S.hd hd) rfl (decide_eq_true q) (off0 ht) ((off1 ht).symm.trans (if_pos rfl).symm) q'
  · exact (kn q).of fun t q' => Jvm.RoadKit.acmp (g := mkF m pc Ls (y :: x :: st)) S.X S.ex rfl rx ry (pc0 := pc) (same := false) rfl (S.hd hd) rfl (decide_eq_false q) (off0 ht) ((if_neg (fun z => nomatch z)).symm) q'
theorem Go.acmp_ne (S : St p l e R s m args below meth c Z own bytes nl ret nm h0 ws T h locs cells slots) {x y : Value} {o : Int} {pt : Nat} (hd : decode bytes pc = .ok (.if_acmp .ne o, 3)) (ht : (pc : Int) + o = (pt : Int)) (hf : pc + 3 = pc') (rx : x.isRef = true) (ry : y.isRef = true) (ky : ¬ x = y → Go p e below P T (mkF m pt Ls st)) (kn : x = y → Go p e below P T (mkF m pc' Ls st)) : Go p e below P T (mkF m pc Ls (y :: x :: st)) := by
  subst hf
  by_cases q : x = y
  · exact (kn q).of fun t q' => Jvm.RoadKit.acmp (g := mkF m pc Ls (y :: x :: st)) S.X S.ex rfl rx ry (pc0 := pc) (same := true) rfl (S.hd hd) rfl (decide_eq_true q) (off0 ht) ((if_neg (fun z => nomatch z)).symm) q'
  · exact (ky q).of fun t q' => Jvm.RoadKit.acmp (g := mkF m pc Ls (y :: x :: st)) S.X S.ex rfl rx ry (pc0 := pc) (same := false) rfl (S.hd hd) rfl (decide_eq_false q) (off0 ht) ((off1 ht).symm.trans (if_pos rfl).symm) q'
theorem Go.ifnullY (S : St p l e R s m args below meth c Z own bytes nl ret nm h0 ws T h locs cells slots) {o : Int} {pt : Nat} (hd : decode bytes pc = .ok (.ifnull o, 3)) (ht : (pc : Int) + o = (pt : Int)) (k : Go p e below P T (mkF m pt Ls st)) : Go p e below P T (mkF m pc Ls (.null :: st)) :=
  k.of fun t q => XS.ifnullYes S.X.here S.ex rfl (pc0 := pc) rfl (S.hd hd) rfl (off0 ht) (off1 ht) q
theorem Go.ifnullN (S : St p l e R s m args below meth c Z own bytes nl ret nm h0 ws T h locs cells slots) {o : Int} {b : Addr} (hd : decode bytes pc = .ok (.ifnull o, 3)) (hf : pc + 3 = pc') (k : Go p e below P T (mkF m pc' Ls st)) : Go p e below P T (mkF m pc Ls (.ref b :: st)) := by
  subst hf
  exact k.of fun t q => XS.ifnullNo S.X.here S.ex rfl (S.hd hd) rfl q
theorem Go.ifnonnullY (S : St p l e R s m args below meth c Z own bytes nl ret nm h0 ws T h locs cells slots) {o : Int} {pt : Nat} {b : Addr} (hd : decode bytes pc = .ok (.ifnonnull o, 3)) (ht : (pc : Int) + o = (pt : Int)) (k : Go p e below P T (mkF m pt Ls st)) : Go p e below P T (mkF m pc Ls (.ref b :: st)) :=
  k.of fun t q => XS.ifnonnullYes S.X.here S.ex rfl (pc0 := pc) rfl (S.hd hd) rfl (off0 ht) (off1 ht) q
theorem Go.ifnonnullN (S : St p l e R s m args below meth c Z own bytes nl ret nm h0 ws T h locs cells slots) {o : Int} (hd : decode bytes pc = .ok (.ifnonnull o, 3)) (hf : pc + 3 = pc') (k : Go p e below P T (mkF m pc' Ls st)) : Go p e below P T (mkF m pc Ls (.null :: st)) := by
  subst hf
  exact k.of fun t q => XS.ifnonnullNo S.X.here S.ex rfl (S.hd hd) rfl q
theorem Go.ldc (S : St p l e R s m args below meth c Z own bytes nl ret nm h0 ws T h locs cells slots) {index : Nat} {v : Int32} (w : (Jvm.Cond.constant own index v).before a0 Z = true) (hd : decode bytes pc = .ok (.ldc index, 2)) (hp : pc + 2 = pc') (k : Go p e below P T (mkF m pc' Ls (.int v :: st))) : Go p e below P T (mkF m pc Ls st) := by
  subst hp
  exact k.of fun t q => S.X.ldcInt S.ex S.hown (mvT S.hZ w) (g := mkF m pc Ls st) rfl (S.hd hd) _ q
theorem Go.ldc2 (S : St p l e R s m args below meth c Z own bytes nl ret nm h0 ws T h locs cells slots) {index : Nat} {v : Int64} (w : (Jvm.Cond.constantLong own index v).before a0 Z = true) (hd : decode bytes pc = .ok (.ldc2_w index, 3)) (hp : pc + 3 = pc') (k : Go p e below P T (mkF m pc' Ls (.long v :: st))) : Go p e below P T (mkF m pc Ls st) := by
  subst hp
  exact k.of fun t q => S.X.ldc2Long S.ex S.hown (mvT S.hZ w) (g := mkF m pc Ls st) rfl (S.hd hd) _ q
theorem Go.leaves (S : St p l e R s m args below meth c Z own bytes nl ret nm h0 ws T h locs cells slots) {kc ks : Nat} {Q : Option Value → Heap → Prop} {g : JFrame} {v : Option Value} (hv : ret = none → v = none) (hc : cells ≤ kc) (hs : slots ≤ ks)
    (step : ∀ fs : List Frame, (∀ (f : JFrame) (acts : List Action), f.method = m → f.locked = none → f.entered = [] → (doReturn e (T.setTop f) acts v).1 = T.setFrames fs) → Steps p.tables e below (T.setTop g) (T.setFrames fs)) (q : Q v h) : Go p e below (PostOf Z s h0 ws kc ks Q) T g := by
  obtain ⟨fs, hr, hrun, hended, hW, hsame⟩ := S.X.leave (v := v) (fun q => hv (S.hret ▸ q)) S.locks
  refine ⟨_, _, step fs hr, hrun, hended, v, locs, rfl, ⟨S.fr, ?_, ?_, ?_⟩, ⟨_, rfl⟩, hW, hsame.mono hc hs⟩
  · show Keep h0 T.heap ws
    rw [S.eT]; exact S.keep
  · show Ext Z.heap T.heap
    rw [S.eT]; exact S.ext
  · show Q v T.heap
    rw [S.eT]; exact q
theorem St.leaves0 (S : St p l e R s m args below meth c Z own bytes nl ret nm h0 ws T h locs cells slots) {kc ks : Nat} {Q : Option Value → Heap → Prop} {g : JFrame} {w : Value} {t : FieldType} (hret : ret = some t) (hc : cells ≤ kc) (hs : slots ≤ ks) (q : Q (some w) h)
    (step : ∀ fs : List Frame, (∀ (f : JFrame) (acts : List Action), f.method = m → f.locked = none → f.entered = [] → (doReturn e (T.setTop f) acts (some w)).1 = T.setFrames fs) → Steps p.tables e below (T.setTop g) (T.setFrames fs)) : Go p e below (PostOf Z s h0 ws kc ks Q) T g :=
  Go.leaves S (fun q => by rw [hret] at q; cases q) hc hs step q
theorem narrow_ref {t : FieldType} {w : Value} (ht : t.isReference = true) (hw : w.isRef = true) : narrow t w = w := by
  rcases ref_cases hw with rfl | ⟨a, rfl⟩ <;> cases t <;> rfl
theorem Go.ireturn (S : St p l e R s m args below meth c Z own bytes nl ret nm h0 ws T h locs cells slots) {kc ks : Nat} {Q : Option Value → Heap → Prop} {z : Int32} (hret : ret = some .int) (hd : decode bytes pc = .ok (.ireturn, 1)) (hc : cells ≤ kc) (hs : slots ≤ ks) (q : Q (some (.int z)) h) : Go p e below (PostOf Z s h0 ws kc ks Q) T (mkF m pc Ls (.int z :: st)) :=
  S.leaves0 hret hc hs q fun fs hr => retOut S.X S.ex (t := .int) (i := .ireturn) (S.hret.trans hret) rfl (Or.inl ⟨rfl, Or.inl rfl, z, rfl⟩) (S.hd hd) hr
theorem Go.lreturn (S : St p l e R s m args below meth c Z own bytes nl ret nm h0 ws T h locs cells slots) {kc ks : Nat} {Q : Option Value → Heap → Prop} {z : Int64} (hret : ret = some .long) (hd : decode bytes pc = .ok (.lreturn, 1)) (hc : cells ≤ kc) (hs : slots ≤ ks) (q : Q (some (.long z)) h) : Go p e below (PostOf Z s h0 ws kc ks Q) T (mkF m pc Ls (.long z :: st)) :=
  S.leaves0 hret hc hs q fun fs hr => retOut S.X S.ex (t := .long) (i := .lreturn) (S.hret.trans hret) rfl (Or.inr (Or.inl ⟨rfl, rfl, z, rfl⟩)) (S.hd hd) hr
theorem Go.areturn (S : St p l e R s m args below meth c Z own bytes nl ret nm h0 ws T h locs cells slots) {kc ks : Nat} {Q : Option Value → Heap → Prop} {w : Value} {t : FieldType} (hret : ret = some t) (ht : t.isReference = true) (hw : w.isRef = true) (hd : decode bytes pc = .ok (.areturn, 1)) (hc : cells ≤ kc) (hs : slots ≤ ks) (q : Q (some w) h) : Go p e below (PostOf Z s h0 ws kc ks Q) T (mkF m pc Ls (w :: st)) :=
  S.leaves0 hret hc hs q fun fs hr => retOut S.X S.ex (i := .areturn) (S.hret.trans hret) (narrow_ref ht hw) (Or.inr (Or.inr (Or.inr (Or.inr ⟨rfl, ht, hw⟩)))) (S.hd hd) hr
theorem Go.zreturn (S : St p l e R s m args below meth c Z own bytes nl ret nm h0 ws T h locs cells slots) {kc ks : Nat} {Q : Option Value → Heap → Prop} {z z' : Int32} {t : FieldType} (hret : ret = some t) (ht : t = .boolean ∨ t = .byte ∨ t = .char ∨ t = .short) (hd : decode bytes pc = .ok (.ireturn, 1)) (hz : nar t z = z') (hc : cells ≤ kc) (hs : slots ≤ ks) (q : Q (some (.int z')) h) : Go p e below (PostOf Z s h0 ws kc ks Q) T (mkF m pc Ls (.int z :: st)) := by
  subst hz
  exact S.leaves0 hret hc hs q fun fs hr => retN S.X S.ex (S.hret.trans hret) ht (S.hd hd) hr
theorem Go.vreturn (S : St p l e R s m args below meth c Z own bytes nl ret nm h0 ws T h locs cells slots) {kc ks : Nat} {Q : Option Value → Heap → Prop} (hret : ret = none) (hd : decode bytes pc = .ok (.return_, 1)) (hc : cells ≤ kc) (hs : slots ≤ ks) (q : Q none h) : Go p e below (PostOf Z s h0 ws kc ks Q) T (mkF m pc Ls []) :=
  Go.leaves S (fun _ => rfl) hc hs (fun fs hr => S.X.returnOut S.ex (S.hret.trans hret) (S.hd hd) hr) q
theorem Go.getfield (S : St p l e R s m args below meth c Z own bytes nl ret nm h0 ws T h locs cells slots) {R0 O n d host : String} {index : Nat} {a : Addr} {v : Value} (w : ((Jvm.Cond.fieldLink own index R0 n d).before a0 Z = true ∨ (Jvm.Cond.fieldLinkNest own index R0 n d host).before a0 Z = true)) (via : Via Z R0 O n d) (F : Fld Z h a O n d v) (hd : decode bytes pc = .ok (.getfield index, 3)) (hp : pc + 3 = pc')
    (k : ∀ T', St p l e R s m args below meth c Z own bytes nl ret nm h0 ws T' h locs cells slots → Go p e below P T' (mkF m pc' Ls (v :: st))) : Go p e below P T (mkF m pc Ls (.ref a :: st)) := by
  subst hp
  obtain ⟨T', X', e', f⟩ := getF S.X S.ex S.hZ S.hown w via S.eT F (g := mkF m pc Ls (.ref a :: st)) rfl rfl (S.hd hd)
  exact (k T' (S.next X' e' S.fr S.keep S.ext)).of f
theorem Go.getstatic (S : St p l e R s m args below meth c Z own bytes nl ret nm h0 ws T h locs cells slots) {R0 O n d host : String} {index : Nat} {v : Value} (w : ((Jvm.Cond.fieldLink own index R0 n d).before a0 Z = true ∨ (Jvm.Cond.fieldLinkNest own index R0 n d host).before a0 Z = true)) (via : Via Z R0 O n d) (F : Sta Z Z.heap O n d v) (hd : decode bytes pc = .ok (.getstatic index, 3)) (hp : pc + 3 = pc')
    (k : ∀ T', St p l e R s m args below meth c Z own bytes nl ret nm h0 ws T' h locs cells slots → Go p e below P T' (mkF m pc' Ls (v :: st))) : Go p e below P T (mkF m pc Ls st) := by
  subst hp
  obtain ⟨T', X', e', f⟩ := getS2 S.X S.ex S.hZ S.hown w via S.eT (F.ext S.ext) (g := mkF m pc Ls st) rfl (S.hd hd)
  exact (k T' (S.next X' e' S.fr S.keep S.ext)).of f
theorem St.wrote (S : St p l e R s m args below meth c Z own bytes nl ret nm h0 ws T h locs cells slots) {T' : State} {h' : Heap} {a : Addr} {sl : Nat} {v : Value} (X : Stand p l e R s m args below meth c T' (locs ++ [⟨a, sl⟩]) cells slots) (e1 : T'.heap = h') (W : Wr h h' a sl v) (hz : Z.heap.size ≤ a) (hws : a ∈ ws ∨ h0.size ≤ a) : St p l e R s m args below meth c Z own bytes nl ret nm h0 ws T' h' (locs ++ [⟨a, sl⟩]) cells slots :=
  S.next X e1 (Fr.snoc X S.fr hz) (S.keep.wr W hws) (Old.wr (n0 := Z.heap.size) ⟨rfl, S.ext⟩ W hz).2
theorem Go.putfield (S : St p l e R s m args below meth c Z own bytes nl ret nm h0 ws T h locs cells slots) {R0 O n d host C : String} {index kk : Nat} {ty : FieldType} {a : Addr} {v old : Value} (w : ((Jvm.Cond.fieldLink own index R0 n d).before a0 Z = true ∨ (Jvm.Cond.fieldLinkNest own index R0 n d host).before a0 Z = true)) (via : Via Z R0 O n d) (F : Fld Z h a O n d old) (E : Exa Z h a C)
    (L : (Jvm.Cond.lays C O n d).before a0 Z = true ∨ ((Jvm.Cond.laysFinal C O n d).before a0 Z = true ∧ own = O ∧ nm = "<init>")) (wi : (Jvm.Cond.instantiable C kk).before a0 Z = true) (hty : parseFieldDescriptor d = some ty) (hn : narrow ty v = v) (hf : fits ty v = true)
    (hz : Z.heap.size ≤ a) (hws : a ∈ ws ∨ h0.size ≤ a) (hd : decode bytes pc = .ok (.putfield index, 3)) (hp : pc + 3 = pc')
    (k : ∀ T' h' locs', St p l e R s m args below meth c Z own bytes nl ret nm h0 ws T' h' locs' cells slots → Wr h h' a (Jvm.RoadKit.slotOf Z O n d) v → Go p e below P T' (mkF m pc' Ls st)) : Go p e below P T (mkF m pc Ls (v :: .ref a :: st)) := by
  subst hp
  obtain ⟨T', h', X', e', W, f⟩ := putF S.X S.ex S.hZ S.hown w via S.eT F E (L.imp id fun q => ⟨q.1, q.2.1, S.hnm.trans q.2.2⟩) wi hty hn hf (g := mkF m pc Ls (v :: .ref a :: st)) rfl rfl (S.hd hd)
  exact (k T' h' _ (S.wrote X' e' W hz hws) W).of f
theorem Go.putfieldN (S : St p l e R s m args below meth c Z own bytes nl ret nm h0 ws T h locs cells slots) {R0 O n d C : String} {index kk : Nat} {ty : FieldType} {a : Addr} {v v' old : Value} (w : (Jvm.Cond.fieldLink own index R0 n d).before a0 Z = true) (via : Via Z R0 O n d) (F : Fld Z h a O n d old) (E : Exa Z h a C)
    (L : (Jvm.Cond.lays C O n d).before a0 Z = true ∨ ((Jvm.Cond.laysFinal C O n d).before a0 Z = true ∧ own = O ∧ nm = "<init>")) (wi : (Jvm.Cond.instantiable C kk).before a0 Z = true) (hty : parseFieldDescriptor d = some ty) (hn : narrow ty v = v') (hf : fits ty v' = true)
    (hz : Z.heap.size ≤ a) (hws : a ∈ ws ∨ h0.size ≤ a) (hd : decode bytes pc = .ok (.putfield index, 3)) (hp : pc + 3 = pc')
    (k : ∀ T' h' locs', St p l e R s m args below meth c Z own bytes nl ret nm h0 ws T' h' locs' cells slots → Wr h h' a (Jvm.RoadKit.slotOf Z O n d) v' → Go p e below P T' (mkF m pc' Ls st)) : Go p e below P T (mkF m pc Ls (v :: .ref a :: st)) := by
  subst hp
  obtain ⟨T', h', X', e', W, f⟩ := putFN S.X S.ex S.hZ S.hown w via S.eT F E (L.imp id fun q => ⟨q.1, q.2.1, S.hnm.trans q.2.2⟩) wi hty hn hf (g := mkF m pc Ls (v :: .ref a :: st)) rfl rfl (S.hd hd)
  exact (k T' h' _ (S.wrote X' e' W hz hws) W).of f
theorem St.made (S : St p l e R s m args below meth c Z own bytes nl ret nm h0 ws T h locs cells slots) {T' : State} {h' : Heap} {cells' slots' : Nat} (X : Stand p l e R s m args below meth c T' locs cells' slots') (e1 : T'.heap = h') (E : Ext h h') : St p l e R s m args below meth c Z own bytes nl ret nm h0 ws T' h' locs cells' slots' :=
  S.next X e1 S.fr (S.keep.ext E) (Old.ext (n0 := Z.heap.size) ⟨rfl, S.ext⟩ E).2
theorem Go.new (S : St p l e R s m args below meth c Z own bytes nl ret nm h0 ws T h locs cells slots) {C : String} {index n : Nat} (w : (Jvm.Cond.classLink own index C).before a0 Z = true) (wi : (Jvm.Cond.instantiable C n).before a0 Z = true) (wz : (Jvm.Cond.initialized C).before a0 Z = true) (hd : decode bytes pc = .ok (.new index, 3)) (hc : cells + 1 ≤ R.cells) (hl : slots + n ≤ R.slots) (hp : pc + 3 = pc')
    (k : ∀ T' h' a, St p l e R s m args below meth c Z own bytes nl ret nm h0 ws T' h' locs (cells + 1) (slots + n) → Ext h h' → h.size = a → Z.heap.size ≤ a → h0.size ≤ a → Exa Z h' a C → (∀ {O nm d : String} {ty : FieldType}, Laid Z a0 C O nm d → parseFieldDescriptor d = some ty → Fld Z h' a O nm d (defaultValue ty)) → Go p e below P T' (mkF m pc' Ls (.ref a :: st))) : Go p e below P T (mkF m pc Ls st) := by
  subst hp
  obtain ⟨T', h', X', e', E, A, D, -, f⟩ := newO S.X S.ex S.hZ S.hown w wi wz S.eT (g := mkF m pc Ls st) rfl (S.hd hd) hc hl
  exact (k T' h' h.size (S.made X' e' E) E rfl S.ext.1 S.keep.1 A D).of f
theorem Go.newarray (S : St p l e R s m args below meth c Z own bytes nl ret nm h0 ws T h locs cells slots) {aty : ArrayType} {n : Int32} {cap : Nat} {ty : FieldType} {dv : Value} (hty : newarray.typeOf aty = ty) (hdv : defaultValue ty = dv) (w : (Jvm.Cond.arrayClass ty).before a0 Z = true) (hd : decode bytes pc = .ok (.newarray aty, 2)) (hn : ¬ n < 0) (hcap : n.toNatClampNeg ≤ cap) (hb : cap * 8 ≤ 536870912) (hc : cells + 1 ≤ R.cells) (hl : slots + cap ≤ R.slots) (hp : pc + 2 = pc')
    (k : ∀ T' h' a cA, St p l e R s m args below meth c Z own bytes nl ret nm h0 ws T' h' locs (cells + 1) (slots + cap) → Ext h h' → h.size = a → Z.heap.size ≤ a → h0.size ≤ a → Arv Z h' a cA ty n (List.replicate cap dv) dv → Go p e below P T' (mkF m pc' Ls (.ref a :: st))) : Go p e below P T (mkF m pc Ls (.int n :: st)) := by
  subst hp hty hdv
  obtain ⟨T', h', cA, X', e', E, A, f⟩ := newP S.X S.ex S.hZ w S.eT (g := mkF m pc Ls (.int n :: st)) rfl (S.hd hd) rfl hn hcap hb hc hl
  exact (k T' h' h.size cA (S.made X' e' E) E rfl S.ext.1 S.keep.1 ((Arv.new A hn).pad (pad_rep [] _ cap))).of f
theorem Go.anewarray (S : St p l e R s m args below meth c Z own bytes nl ret nm h0 ws T h locs cells slots) {C : String} {index : Nat} {n : Int32} {cap : Nat} (w1 : (Jvm.Cond.classLink own index C).before a0 Z = true) (w2 : (Jvm.Cond.arrayOver (.object C)).before a0 Z = true) (hd : decode bytes pc = .ok (.anewarray index, 3)) (hn : ¬ n < 0) (hcap : n.toNatClampNeg ≤ cap) (hb : cap * 8 ≤ 536870912) (hc : cells + 1 ≤ R.cells) (hl : slots + cap ≤ R.slots) (hp : pc + 3 = pc')
    (k : ∀ T' h' a cA, St p l e R s m args below meth c Z own bytes nl ret nm h0 ws T' h' locs (cells + 1) (slots + cap) → Ext h h' → h.size = a → Z.heap.size ≤ a → h0.size ≤ a → Arv Z h' a cA (.object C) n (List.replicate cap .null) .null → Ovr Z cA C → Go p e below P T' (mkF m pc' Ls (.ref a :: st))) : Go p e below P T (mkF m pc Ls (.int n :: st)) := by
  subst hp
  obtain ⟨T', h', cA, X', e', E, A, O, f⟩ := newR S.X S.ex S.hZ S.hown w1 w2 S.eT (g := mkF m pc Ls (.int n :: st)) rfl (S.hd hd) rfl hn hcap hb hc hl
  exact (k T' h' h.size cA (S.made X' e' E) E rfl S.ext.1 S.keep.1 ((Arv.new A hn).pad (pad_rep [] _ cap)) O).of f
theorem Go.iastore (S : St p l e R s m args below meth c Z own bytes nl ret nm h0 ws T h locs cells slots) {a : Addr} {kA : ClassId} {n j : Int32} {x : Int32} {vs : List Value} {dv : Value} {i : Nat} (V : Arv Z h a kA .int n vs dv) (hj : ¬ j < 0 ∧ j < n) (hi : j.toNatClampNeg = i) (hl : i < vs.length) (hz : Z.heap.size ≤ a) (hws : a ∈ ws ∨ h0.size ≤ a) (hd : decode bytes pc = .ok (.iastore, 1)) (hp : pc + 1 = pc')
    (k : ∀ T' h' locs', St p l e R s m args below meth c Z own bytes nl ret nm h0 ws T' h' locs' cells slots → Wr h h' a j.toNatClampNeg (.int x) → Arv Z h' a kA .int n (vs.set i (.int x)) dv → Go p e below P T' (mkF m pc' Ls st)) : Go p e below P T (mkF m pc Ls (.int x :: .int j :: .ref a :: st)) := by
  subst hp
  obtain ⟨cl, A, q1, q2, q3, H, F⟩ := V
  obtain ⟨T', h', X', e', W, f⟩ := stI S.X S.ex S.hZ S.eT A (j := j) (x := x) (inb_of q2 hj) (g := mkF m pc Ls (.int x :: .int j :: .ref a :: st)) rfl rfl (S.hd hd)
  exact (k T' h' _ (S.wrote X' e' W hz hws) W (Arv.set A q1 q2 q3 H F rfl W i hi hl)).of f
theorem Go.castore (S : St p l e R s m args below meth c Z own bytes nl ret nm h0 ws T h locs cells slots) {a : Addr} {kA : ClassId} {n j : Int32} {x : Int32} {vs : List Value} {dv : Value} {i : Nat} (V : Arv Z h a kA .char n vs dv) (hj : ¬ j < 0 ∧ j < n) (hi : j.toNatClampNeg = i) (hl : i < vs.length) (hz : Z.heap.size ≤ a) (hws : a ∈ ws ∨ h0.size ≤ a) (hd : decode bytes pc = .ok (.castore, 1)) (hp : pc + 1 = pc')
    (k : ∀ T' h' locs', St p l e R s m args below meth c Z own bytes nl ret nm h0 ws T' h' locs' cells slots → Wr h h' a j.toNatClampNeg (.int (nar .char x)) → Arv Z h' a kA .char n (vs.set i (.int (nar .char x))) dv → Go p e below P T' (mkF m pc' Ls st)) : Go p e below P T (mkF m pc Ls (.int x :: .int j :: .ref a :: st)) := by
  subst hp
  obtain ⟨cl, A, q1, q2, q3, H, F⟩ := V
  obtain ⟨T', h', X', e', W, f⟩ := stC S.X S.ex S.hZ S.eT A (j := j) (x := x) (inb_of q2 hj) (g := mkF m pc Ls (.int x :: .int j :: .ref a :: st)) rfl rfl (S.hd hd)
  exact (k T' h' _ (S.wrote X' e' W hz hws) W (Arv.set A q1 q2 q3 H F (fits_nar_char _) W i hi hl)).of f
theorem Go.bastore (S : St p l e R s m args below meth c Z own bytes nl ret nm h0 ws T h locs cells slots) {a : Addr} {kA : ClassId} {n j : Int32} {x : Int32} {vs : List Value} {dv : Value} {i : Nat} (V : Arv Z h a kA .byte n vs dv) (hj : ¬ j < 0 ∧ j < n) (hi : j.toNatClampNeg = i) (hl : i < vs.length) (hz : Z.heap.size ≤ a) (hws : a ∈ ws ∨ h0.size ≤ a) (hd : decode bytes pc = .ok (.bastore, 1)) (hp : pc + 1 = pc')
    (k : ∀ T' h' locs', St p l e R s m args below meth c Z own bytes nl ret nm h0 ws T' h' locs' cells slots → Wr h h' a j.toNatClampNeg (.int (nar .byte x)) → Arv Z h' a kA .byte n (vs.set i (.int (nar .byte x))) dv → Go p e below P T' (mkF m pc' Ls st)) : Go p e below P T (mkF m pc Ls (.int x :: .int j :: .ref a :: st)) := by
  subst hp
  obtain ⟨cl, A, q1, q2, q3, H, F⟩ := V
  obtain ⟨T', h', X', e', W, f⟩ := stB S.X S.ex S.hZ S.eT A (j := j) (x := x) (inb_of q2 hj) (g := mkF m pc Ls (.int x :: .int j :: .ref a :: st)) rfl rfl (S.hd hd)
  exact (k T' h' _ (S.wrote X' e' W hz hws) W (Arv.set A q1 q2 q3 H F (fits_nar_byte _) W i hi hl)).of f
theorem Go.lastore (S : St p l e R s m args below meth c Z own bytes nl ret nm h0 ws T h locs cells slots) {a : Addr} {kA : ClassId} {n j : Int32} {x : Int64} {vs : List Value} {dv : Value} {i : Nat} (V : Arv Z h a kA .long n vs dv) (hj : ¬ j < 0 ∧ j < n) (hi : j.toNatClampNeg = i) (hl : i < vs.length) (hz : Z.heap.size ≤ a) (hws : a ∈ ws ∨ h0.size ≤ a) (hd : decode bytes pc = .ok (.lastore, 1)) (hp : pc + 1 = pc')
    (k : ∀ T' h' locs', St p l e R s m args below meth c Z own bytes nl ret nm h0 ws T' h' locs' cells slots → Wr h h' a j.toNatClampNeg (.long x) → Arv Z h' a kA .long n (vs.set i (.long x)) dv → Go p e below P T' (mkF m pc' Ls st)) : Go p e below P T (mkF m pc Ls (.long x :: .int j :: .ref a :: st)) := by
  subst hp
  obtain ⟨cl, A, q1, q2, q3, H, F⟩ := V
  obtain ⟨T', h', X', e', W, f⟩ := stJ S.X S.ex S.hZ S.eT A (j := j) (x := x) (inb_of q2 hj) (g := mkF m pc Ls (.long x :: .int j :: .ref a :: st)) rfl rfl (S.hd hd)
  exact (k T' h' _ (S.wrote X' e' W hz hws) W (Arv.set A q1 q2 q3 H F rfl W i hi hl)).of f
theorem Go.aastore (S : St p l e R s m args below meth c Z own bytes nl ret nm h0 ws T h locs cells slots) {a : Addr} {kA : ClassId} {ty : FieldType} {n j : Int32} {v : Value} {vs : List Value} {dv : Value} {i : Nat} (V : Arv Z h a kA ty n vs dv) (hty : ty.isReference = true) (hj : ¬ j < 0 ∧ j < n) (hi : j.toNatClampNeg = i) (hl : i < vs.length) (hfit : fits ty v = true) (F : Sto Z h a v) (hz : Z.heap.size ≤ a) (hws : a ∈ ws ∨ h0.size ≤ a) (hd : decode bytes pc = .ok (.aastore, 1)) (hp : pc + 1 = pc')
    (k : ∀ T' h' locs', St p l e R s m args below meth c Z own bytes nl ret nm h0 ws T' h' locs' cells slots → Wr h h' a j.toNatClampNeg v → Arv Z h' a kA ty n (vs.set i v) dv → Go p e below P T' (mkF m pc' Ls st)) : Go p e below P T (mkF m pc Ls (v :: .int j :: .ref a :: st)) := by
  subst hp
  obtain ⟨cl, A, q1, q2, q3, H, F'⟩ := V
  obtain ⟨T', h', X', e', W, f⟩ := stR S.X S.ex S.hZ S.eT A (j := j) (v := v) (inb_of q2 hj) hty F (g := mkF m pc Ls (v :: .int j :: .ref a :: st)) rfl rfl (S.hd hd)
  exact (k T' h' _ (S.wrote X' e' W hz hws) W (Arv.set A q1 q2 q3 H F' hfit W i hi hl)).of f
theorem Go.iaload (S : St p l e R s m args below meth c Z own bytes nl ret nm h0 ws T h locs cells slots) {a : Addr} {kA : ClassId} {n j : Int32} {v : Value} {vs : List Value} {dv : Value} (V : Arv Z h a kA .int n vs dv) (hj : ¬ j < 0 ∧ j < n) (hv : vs.getD j.toNatClampNeg dv = v) (hd : decode bytes pc = .ok (.iaload, 1)) (hp : pc + 1 = pc') (k : Go p e below P T (mkF m pc' Ls (v :: st))) : Go p e below P T (mkF m pc Ls (.int j :: .ref a :: st)) := by
  subst hp
  obtain ⟨cl, A, q1, q2, q3, H, F⟩ := V
  exact k.of fun t q => S.X.iaload S.ex (j := j) (v := v) (by rw [S.eT]; exact A.1) (State.isArrayOf_alike S.hZ.alike A.2.1) A.2.2 (inb_of q2 hj) (H.at (inb_of q2 hj) hv) (g := mkF m pc Ls (.int j :: .ref a :: st)) rfl rfl (S.hd hd) _ q
theorem Go.laload (S : St p l e R s m args below meth c Z own bytes nl ret nm h0 ws T h locs cells slots) {a : Addr} {kA : ClassId} {n j : Int32} {v : Value} {vs : List Value} {dv : Value} (V : Arv Z h a kA .long n vs dv) (hj : ¬ j < 0 ∧ j < n) (hv : vs.getD j.toNatClampNeg dv = v) (hd : decode bytes pc = .ok (.laload, 1)) (hp : pc + 1 = pc') (k : Go p e below P T (mkF m pc' Ls (v :: st))) : Go p e below P T (mkF m pc Ls (.int j :: .ref a :: st)) := by
  subst hp
  obtain ⟨cl, A, q1, q2, q3, H, F⟩ := V
  exact k.of fun t q => S.X.laload S.ex (j := j) (v := v) (by rw [S.eT]; exact A.1) (State.isArrayOf_alike S.hZ.alike A.2.1) A.2.2 (inb_of q2 hj) (H.at (inb_of q2 hj) hv) (g := mkF m pc Ls (.int j :: .ref a :: st)) rfl rfl (S.hd hd) _ q
theorem Go.caload (S : St p l e R s m args below meth c Z own bytes nl ret nm h0 ws T h locs cells slots) {a : Addr} {kA : ClassId} {n j : Int32} {v : Value} {vs : List Value} {dv : Value} (V : Arv Z h a kA .char n vs dv) (hj : ¬ j < 0 ∧ j < n) (hv : vs.getD j.toNatClampNeg dv = v) (hd : decode bytes pc = .ok (.caload, 1)) (hp : pc + 1 = pc') (k : Go p e below P T (mkF m pc' Ls (v :: st))) : Go p e below P T (mkF m pc Ls (.int j :: .ref a :: st)) := by
  subst hp
  obtain ⟨cl, A, q1, q2, q3, H, F⟩ := V
  exact k.of fun t q => S.X.caload S.ex (j := j) (v := v) (by rw [S.eT]; exact A.1) (State.isArrayOf_alike S.hZ.alike A.2.1) A.2.2 (inb_of q2 hj) (H.at (inb_of q2 hj) hv) (g := mkF m pc Ls (.int j :: .ref a :: st)) rfl rfl (S.hd hd) _ q
theorem Go.baload (S : St p l e R s m args below meth c Z own bytes nl ret nm h0 ws T h locs cells slots) {a : Addr} {kA : ClassId} {n j : Int32} {v : Value} {vs : List Value} {dv : Value} (V : Arv Z h a kA .byte n vs dv) (hj : ¬ j < 0 ∧ j < n) (hv : vs.getD j.toNatClampNeg dv = v) (hd : decode bytes pc = .ok (.baload, 1)) (hp : pc + 1 = pc') (k : Go p e below P T (mkF m pc' Ls (v :: st))) : Go p e below P T (mkF m pc Ls (.int j :: .ref a :: st)) := by
  subst hp
  obtain ⟨cl, A, q1, q2, q3, H, F⟩ := V
  exact k.of fun t q => S.X.baloadBytes S.ex (j := j) (v := v) (by rw [S.eT]; exact A.1) (State.isArrayOf_alike S.hZ.alike A.2.1) A.2.2 (inb_of q2 hj) (H.at (inb_of q2 hj) hv) (g := mkF m pc Ls (.int j :: .ref a :: st)) rfl rfl (S.hd hd) _ q
theorem Go.aaload (S : St p l e R s m args below meth c Z own bytes nl ret nm h0 ws T h locs cells slots) {a : Addr} {kA : ClassId} {ty : FieldType} {n j : Int32} {v : Value} {vs : List Value} {dv : Value} (V : Arv Z h a kA ty n vs dv) (hty : ty.isReference = true) (hj : ¬ j < 0 ∧ j < n) (hv : vs.getD j.toNatClampNeg dv = v) (hd : decode bytes pc = .ok (.aaload, 1)) (hp : pc + 1 = pc') (k : Go p e below P T (mkF m pc' Ls (v :: st))) : Go p e below P T (mkF m pc Ls (.int j :: .ref a :: st)) := by
  subst hp
  obtain ⟨cl, A, q1, q2, q3, H, F⟩ := V
  exact k.of fun t q => S.X.aaload S.ex (j := j) (v := v) (by rw [S.eT]; exact A.1) (State.isArrayOf_alike S.hZ.alike A.2.1) hty A.2.2 (inb_of q2 hj) (H.at (inb_of q2 hj) hv) (g := mkF m pc Ls (.int j :: .ref a :: st)) rfl rfl (S.hd hd) _ q
theorem Go.arraylength (S : St p l e R s m args below meth c Z own bytes nl ret nm h0 ws T h locs cells slots) {a : Addr} {kA : ClassId} {ty : FieldType} {n : Int32} {vs : List Value} {dv : Value} (V : Arv Z h a kA ty n vs dv) (hd : decode bytes pc = .ok (.arraylength, 1)) (hp : pc + 1 = pc') (k : Go p e below P T (mkF m pc' Ls (.int n :: st))) : Go p e below P T (mkF m pc Ls (.ref a :: st)) := by
  subst hp
  obtain ⟨cl, A, q1, q2, q3, H, F⟩ := V
  exact k.of fun t q => S.X.arraylength S.ex (by rw [S.eT]; exact A.1) (State.isArrayOf_alike S.hZ.alike A.2.1) (g := mkF m pc Ls (.ref a :: st)) rfl rfl (S.hd hd) _ (by rw [len_of q2 q3]; exact q)
theorem Go.initObject (S : St p l e R s m args below meth c Z own bytes nl ret nm h0 ws T h locs cells slots) {idx : Nat} {a : Addr} {W : Nat} (w1 : (Jvm.Cond.methodLink own idx Lib.objectInit).before a0 Z = true) (w2 : (Jvm.Cond.instanceMethod Lib.objectInit).before a0 Z = true) (w3 : (Jvm.Cond.code Lib.objectInit ⟨#[0xb1]⟩ 1 none).before a0 Z = true) (hd : decode bytes pc = .ok (.invokespecial idx, 3)) (hsz : Ls.size = nl) (hf : 1 ≤ R.frames) (hW : (st.map fun v => v.category).sum = W) (hl : W + 12 ≤ R.locals) (hp : pc + 3 = pc')
    (k : ∀ T', St p l e R s m args below meth c Z own bytes nl ret nm h0 ws T' h locs cells slots → Go p e below P T' (mkF m pc' Ls st)) : Go p e below P T (mkF m pc Ls (.ref a :: st)) := by
  subst hp
  obtain ⟨T', X', e', f⟩ := initO S.X S.ex S.hZ S.hown w1 w2 w3 S.eT (g := mkF m pc Ls (.ref a :: st)) rfl (hsz.trans S.hnl.symm) rfl (S.hd hd) hf (W := W) (by show 2 * 0 + _ ≤ _; rw [hW]; omega) hl
  exact (k T' (S.next X' e' S.fr S.keep S.ext)).of f
theorem Go.checkcast (S : St p l e R s m args below meth c Z own bytes nl ret nm h0 ws T h locs cells slots) {C : String} {index : Nat} {a : Addr} (w : (Jvm.Cond.classLink own index C).before a0 Z = true) (F : Ins Z h a C true) (hd : decode bytes pc = .ok (.checkcast index, 3)) (hp : pc + 3 = pc')
    (k : ∀ T', St p l e R s m args below meth c Z own bytes nl ret nm h0 ws T' h locs cells slots → Go p e below P T' (mkF m pc' Ls (.ref a :: st))) : Go p e below P T (mkF m pc Ls (.ref a :: st)) := by
  subst hp
  obtain ⟨T', X', e', f⟩ := castY S.X S.ex S.hZ S.hown w S.eT F (g := mkF m pc Ls (.ref a :: st)) rfl rfl (S.hd hd)
  exact (k T' (S.next X' e' S.fr S.keep S.ext)).of f
theorem Go.instanceofY (S : St p l e R s m args below meth c Z own bytes nl ret nm h0 ws T h locs cells slots) {C : String} {index : Nat} {a : Addr} (w : (Jvm.Cond.classLink own index C).before a0 Z = true) (F : Ins Z h a C true) (hd : decode bytes pc = .ok (.instanceof index, 3)) (hp : pc + 3 = pc')
    (k : ∀ T', St p l e R s m args below meth c Z own bytes nl ret nm h0 ws T' h locs cells slots → Go p e below P T' (mkF m pc' Ls (.int 1 :: st))) : Go p e below P T (mkF m pc Ls (.ref a :: st)) := by
  subst hp
  obtain ⟨T', X', e', f⟩ := instY S.X S.ex S.hZ S.hown w S.eT F (g := mkF m pc Ls (.ref a :: st)) rfl rfl (S.hd hd)
  exact (k T' (S.next X' e' S.fr S.keep S.ext)).of f
theorem Go.invokestatic (S : St p l e R s m args below meth c Z own bytes nl ret nm h0 ws T h locs cells slots) {y : MethodName} {bytes' : ByteArray} {nl' : Nat} {ret' : Option FieldType} {rm : Room} {as' : Array Value} {ws' : List Addr} {Q' : Option Value → Heap → Prop} {index W : Nat} {ps : List FieldType} {r : Option FieldType} {argsL : List Value} (M : OMeets l Z y bytes' nl' ret' rm as' h ws' Q') (w1 : (Jvm.Cond.methodLink own index y).before a0 Z = true) (w2 : (Jvm.Cond.static y).before a0 Z = true) (w3 : (Jvm.Cond.initialized y.cls).before a0 Z = true) (w4 : (Jvm.Cond.code y bytes' nl' ret').before a0 Z = true) (hy : y.cls ≠ "java/lang/invoke/MethodHandle" ∧ y.cls ≠ "java/lang/invoke/VarHandle") (hd : decode bytes pc = .ok (.invokestatic index, 3)) (hsz : Ls.size = nl) (hlen : parseMethodDescriptor y.desc = some ⟨ps, r⟩) (hn : argsL.length = ps.length) (has : argsL.toArray = as') {stk : List Value} (hstk : stk = argsL.reverse ++ st) (hf : rm.frames + 1 ≤ R.frames) (hW : (st.map fun v => v.category).sum = W) (hl : W + (nl' + 11) + rm.locals ≤ R.locals) (hc : cells + rm.cells ≤ R.cells) (hs : slots + rm.slots ≤ R.slots) (hws : ∀ x ∈ ws', x ∈ ws ∨ h0.size ≤ x) (hp : pc + 3 = pc')
    (k : ∀ v T' h' locs', St p l e R s m args below meth c Z own bytes nl ret nm h0 ws T' h' locs' (cells + rm.cells) (slots + rm.slots) → Keep h h' ws' → Q' v h' → Go p e below P T' (mkF m pc' Ls (v.toList ++ st))) : Go p e below P T (mkF m pc Ls stk) := by
  subst hp hstk
  obtain ⟨v, _, ⟨T', L', k', n'⟩, -, X', ⟨L, hQ, l1, l2, l3⟩, f⟩ := Jvm.LawKit.callS S.X S.ex S.hown (mvT S.hZ w1) (mvT S.hZ w2) (mvT S.hZ w3) (mvT S.hZ w4) hy (backOf (Q := fun v U L => Fr Z.heap.size L ∧ Keep h U ws' ∧ Ext Z.heap U ∧ Q' v U) (W := W) (M []) S.hZ w4 w3 hf hl) (g := mkF m pc Ls (argsL.reverse ++ st)) rfl (hsz.trans S.hnl.symm) (argsL := argsL) (rest := st) (lenOf hlen hn) rfl (by show 2 * 0 + _ ≤ _; rw [hW]; omega) (S.hd hd) (fun _ _ => ⟨has, S.eT, hc, hs⟩)
  dsimp only [Pt.U, Pt.locs, Pt.cells, Pt.slots] at X' l1 l2 l3 hQ f
  subst l1 l2 l3
  obtain ⟨N, K', E', q⟩ := hQ
  exact (k v T' T'.heap _ (S.next X' rfl (S.fr.app N) (S.keep.trans K' hws) E') K' q).of f
theorem Go.invokespecial (S : St p l e R s m args below meth c Z own bytes nl ret nm h0 ws T h locs cells slots) {y : MethodName} {bytes' : ByteArray} {nl' : Nat} {ret' : Option FieldType} {rm : Room} {as' : Array Value} {ws' : List Addr} {Q' : Option Value → Heap → Prop} {index W : Nat} {ps : List FieldType} {r : Option FieldType} {argsL : List Value} {a : Addr} (M : OMeets l Z y bytes' nl' ret' rm as' h ws' Q') (hi : y.name = "<init>") (hr0 : ret' = none) (w1 : (Jvm.Cond.methodLink own index y).before a0 Z = true) (w2 : (Jvm.Cond.instanceMethod y).before a0 Z = true) (w3 : (Jvm.Cond.initialized y.cls).before a0 Z = true) (w4 : (Jvm.Cond.code y bytes' nl' ret').before a0 Z = true) (hy : y.cls ≠ "java/lang/invoke/MethodHandle" ∧ y.cls ≠ "java/lang/invoke/VarHandle") (hd : decode bytes pc = .ok (.invokespecial index, 3)) (hsz : Ls.size = nl) (hlen : parseMethodDescriptor y.desc = some ⟨ps, r⟩) (hn : argsL.length = ps.length) (has : (.ref a :: argsL).toArray = as') {stk : List Value} (hstk : stk = argsL.reverse ++ .ref a :: st) (hf : rm.frames + 1 ≤ R.frames) (hW : (st.map fun v => v.category).sum = W) (hl : W + (nl' + 11) + rm.locals ≤ R.locals) (hc : cells + rm.cells ≤ R.cells) (hs : slots + rm.slots ≤ R.slots) (hws : ∀ x ∈ ws', x ∈ ws ∨ h0.size ≤ x) (hp : pc + 3 = pc')
    (k : ∀ v T' h' locs', St p l e R s m args below meth c Z own bytes nl ret nm h0 ws T' h' locs' (cells + rm.cells) (slots + rm.slots) → Keep h h' ws' → Q' v h' → Go p e below P T' (mkF m pc' Ls (v.toList ++ st))) : Go p e below P T (mkF m pc Ls stk) := by
  subst hp hstk hr0
  obtain ⟨v, _, ⟨T', L', k', n'⟩, -, X', ⟨L, hQ, l1, l2, l3⟩, f⟩ := S.X.specialBack S.ex hi S.hown (mvT S.hZ w1) (mvT S.hZ w2) (mvT S.hZ w4) hy (backOf (Q := fun v U L => Fr Z.heap.size L ∧ Keep h U ws' ∧ Ext Z.heap U ∧ Q' v U) (W := W) (M []) S.hZ w4 w3 hf hl) (g := mkF m pc Ls (argsL.reverse ++ .ref a :: st)) rfl (hsz.trans S.hnl.symm) (Steps.refl _) (a := a) (argsL := argsL) (rest := st) (lenOf hlen hn) rfl (by show 2 * 0 + _ ≤ _; rw [hW]; omega) (S.hd hd) (fun _ _ => ⟨has, S.eT, hc, hs⟩)
  dsimp only [Pt.U, Pt.locs, Pt.cells, Pt.slots] at X' l1 l2 l3 hQ f
  subst l1 l2 l3
  obtain ⟨N, K', E', q⟩ := hQ
  exact (k v T' T'.heap _ (S.next X' rfl (S.fr.app N) (S.keep.trans K' hws) E') K' q).of fun t q => f.trans q
theorem Go.invokevirtual (S : St p l e R s m args below meth c Z own bytes nl ret nm h0 ws T h locs cells slots) {y : MethodName} {bytes' : ByteArray} {nl' : Nat} {ret' : Option FieldType} {rm : Room} {as' : Array Value} {ws' : List Addr} {Q' : Option Value → Heap → Prop} {index W : Nat} {ps : List FieldType} {r : Option FieldType} {argsL : List Value} {a : Addr} {x : MethodName} {C : String} (M : OMeets l Z y bytes' nl' ret' rm as' h ws' Q') (w1 : (Jvm.Cond.methodLink own index x).before a0 Z = true) (w2 : (Jvm.Cond.declares x).before a0 Z = true) (hnf : NotFace s x) (w5 : (Jvm.Cond.selects C x y).before a0 Z = true) (w6 : (Jvm.Cond.instanceMethod y).before a0 Z = true) (w3 : (Jvm.Cond.initialized y.cls).before a0 Z = true) (w4 : (Jvm.Cond.code y bytes' nl' ret').before a0 Z = true) (hy : x.cls ≠ "java/lang/invoke/MethodHandle" ∧ x.cls ≠ "java/lang/invoke/VarHandle") (E : Exa Z h a C) (hd : decode bytes pc = .ok (.invokevirtual index, 3)) (hsz : Ls.size = nl) (hlen : parseMethodDescriptor x.desc = some ⟨ps, r⟩) (hn : argsL.length = ps.length) (has : (.ref a :: argsL).toArray = as') {stk : List Value} (hstk : stk = argsL.reverse ++ .ref a :: st) (hf : rm.frames + 1 ≤ R.frames) (hW : (st.map fun v => v.category).sum = W) (hl : W + (nl' + 11) + rm.locals ≤ R.locals) (hc : cells + rm.cells ≤ R.cells) (hs : slots + rm.slots ≤ R.slots) (hws : ∀ x ∈ ws', x ∈ ws ∨ h0.size ≤ x) (hp : pc + 3 = pc')
    (k : ∀ v T' h' locs', St p l e R s m args below meth c Z own bytes nl ret nm h0 ws T' h' locs' (cells + rm.cells) (slots + rm.slots) → Keep h h' ws' → Q' v h' → Go p e below P T' (mkF m pc' Ls (v.toList ++ st))) : Go p e below P T (mkF m pc Ls stk) := by
  subst hp hstk
  obtain ⟨cq, kq, q1, q2, q3⟩ := isOf S.hZ S.eT E
  obtain ⟨v, _, ⟨T', L', k', n'⟩, -, X', ⟨L, hQ, l1, l2, l3⟩, f⟩ := S.X.virtualBack S.ex S.hown (mvT S.hZ w1) (mvT S.hZ w2) hnf (mvT S.hZ w5) (mvT S.hZ w6) hy (backOf (Q := fun v U L => Fr Z.heap.size L ∧ Keep h U ws' ∧ Ext Z.heap U ∧ Q' v U) (W := W) (M []) S.hZ w4 w3 hf hl) q1 q3 (g := mkF m pc Ls (argsL.reverse ++ .ref a :: st)) rfl (hsz.trans S.hnl.symm) (Steps.refl _) (argsL := argsL) (rest := st) (lenOf hlen hn) rfl (by show 2 * 0 + _ ≤ _; rw [hW]; omega) (S.hd hd) (fun _ _ => ⟨has, S.eT, hc, hs⟩)
  dsimp only [Pt.U, Pt.locs, Pt.cells, Pt.slots] at X' l1 l2 l3 hQ f
  subst l1 l2 l3
  obtain ⟨N, K', E', q⟩ := hQ
  exact (k v T' T'.heap _ (S.next X' rfl (S.fr.app N) (S.keep.trans K' hws) E') K' q).of fun t q => f.trans q
theorem St.nf (S : St p l e R s m args below meth c Z own bytes nl ret nm h0 ws T h locs cells slots) {C : String} {x : MethodName} (w : (Jvm.Cond.selects C x x).before a0 Z = true) : NotFace s x := notFace_of_selects (args := #[]) (mvT S.hZ w)
theorem Go.invokevirtualUp (S : St p l e R s m args below meth c Z own bytes nl ret nm h0 ws T h locs cells slots) {y : MethodName} {bytes' : ByteArray} {nl' : Nat} {ret' : Option FieldType} {rm : Room} {as' : Array Value} {ws' : List Addr} {Q' : Option Value → Heap → Prop} {index W : Nat} {ps : List FieldType} {r : Option FieldType} {argsL : List Value} {a : Addr} {x : MethodName} {C owner : String} (M : OMeets l Z y bytes' nl' ret' rm as' h ws' Q') (w1 : (Jvm.Cond.methodLink own index x).before a0 Z = true) (w2 : (Jvm.Cond.declares ⟨owner, x.name, x.desc⟩).before a0 Z = true) (w7 : (Jvm.Cond.sameMethod x.cls owner x.name x.desc).before a0 Z = true) (w5 : (Jvm.Cond.selects C x y).before a0 Z = true) (w6 : (Jvm.Cond.instanceMethod y).before a0 Z = true) (w3 : (Jvm.Cond.initialized y.cls).before a0 Z = true) (w4 : (Jvm.Cond.code y bytes' nl' ret').before a0 Z = true) (hy : owner ≠ "java/lang/invoke/MethodHandle" ∧ owner ≠ "java/lang/invoke/VarHandle") (E : Exa Z h a C) (hd : decode bytes pc = .ok (.invokevirtual index, 3)) (hsz : Ls.size = nl) (hlen : parseMethodDescriptor x.desc = some ⟨ps, r⟩) (hn : argsL.length = ps.length) (has : (.ref a :: argsL).toArray = as') {stk : List Value} (hstk : stk = argsL.reverse ++ .ref a :: st) (hf : rm.frames + 1 ≤ R.frames) (hW : (st.map fun v => v.category).sum = W) (hl : W + (nl' + 11) + rm.locals ≤ R.locals) (hc : cells + rm.cells ≤ R.cells) (hs : slots + rm.slots ≤ R.slots) (hws : ∀ x ∈ ws', x ∈ ws ∨ h0.size ≤ x) (hp : pc + 3 = pc')
    (k : ∀ v T' h' locs', St p l e R s m args below meth c Z own bytes nl ret nm h0 ws T' h' locs' (cells + rm.cells) (slots + rm.slots) → Keep h h' ws' → Q' v h' → Go p e below P T' (mkF m pc' Ls (v.toList ++ st))) : Go p e below P T (mkF m pc Ls stk) := by
  subst hp hstk
  obtain ⟨cq, kq, q1, q2, q3⟩ := isOf S.hZ S.eT E
  obtain ⟨v, _, ⟨T', L', k', n'⟩, -, X', ⟨L, hQ, l1, l2, l3⟩, f⟩ := S.X.virtualBackUp S.ex S.hown (mvT S.hZ w1) (mvT S.hZ w7) (mvT S.hZ w2) hy (mvT S.hZ w5) (mvT S.hZ w6) (backOf (Q := fun v U L => Fr Z.heap.size L ∧ Keep h U ws' ∧ Ext Z.heap U ∧ Q' v U) (W := W) (M []) S.hZ w4 w3 hf hl) q1 q3 (g := mkF m pc Ls (argsL.reverse ++ .ref a :: st)) rfl (hsz.trans S.hnl.symm) (Steps.refl _) (argsL := argsL) (rest := st) (lenOf hlen hn) rfl (by show 2 * 0 + _ ≤ _; rw [hW]; omega) (S.hd hd) (fun _ _ => ⟨has, S.eT, hc, hs⟩)
  dsimp only [Pt.U, Pt.locs, Pt.cells, Pt.slots] at X' l1 l2 l3 hQ f
  subst l1 l2 l3
  obtain ⟨N, K', E', q⟩ := hQ
  exact (k v T' T'.heap _ (S.next X' rfl (S.fr.app N) (S.keep.trans K' hws) E') K' q).of fun t q => f.trans q
theorem Go.tableswitch (S : St p l e R s m args below meth c Z own bytes nl ret nm h0 ws T h locs cells slots) {dflt low high : Int} {offs : Array Int} {len : Nat} {o : Int} {i : Int32} (hd : decode bytes pc = .ok (.tableswitch dflt low high offs, len)) (hin : ¬ (i.toInt < low ∨ i.toInt > high)) (hoff : offs[(i.toInt - low).toNat]? = some o) (hp : (pc : Int) + o = (pc' : Int)) (k : Go p e below P T (mkF m pc' Ls st)) : Go p e below P T (mkF m pc Ls (.int i :: st)) :=
  k.of fun t q => XS.tswIn S.X.here S.ex rfl (pc0 := pc) rfl (S.hd hd) rfl hin hoff (off0 hp) (off1 hp) q
theorem Go.instanceofN (S : St p l e R s m args below meth c Z own bytes nl ret nm h0 ws T h locs cells slots) {C K : String} {index : Nat} {a : Addr} (w : (Jvm.Cond.classLink own index K).before a0 Z = true) (E : Exa Z h a C) (F : ∃ c t, Z.vm.findClass C = some c ∧ Z.vm.findClass K = some t ∧ Z.vm.assignable c t = false) (hd : decode bytes pc = .ok (.instanceof index, 3)) (hp : pc + 3 = pc')
    (k : ∀ T', St p l e R s m args below meth c Z own bytes nl ret nm h0 ws T' h locs cells slots → Go p e below P T' (mkF m pc' Ls (.int 0 :: st))) : Go p e below P T (mkF m pc Ls (.ref a :: st)) := by
  subst hp
  obtain ⟨T', X', e', f⟩ := instNo S.X S.ex S.hZ S.hown w S.eT E F (g := mkF m pc Ls (.ref a :: st)) rfl rfl (S.hd hd)
  exact (k T' (S.next X' e' S.fr S.keep S.ext)).of f
theorem Go.instanceofNull (S : St p l e R s m args below meth c Z own bytes nl ret nm h0 ws T h locs cells slots) {index : Nat} (hd : decode bytes pc = .ok (.instanceof index, 3)) (hp : pc + 3 = pc') (k : Go p e below P T (mkF m pc' Ls (.int 0 :: st))) : Go p e below P T (mkF m pc Ls (.null :: st)) := by
  subst hp
  exact k.of fun t q => S.X.instanceofNull S.ex (g := mkF m pc Ls (.null :: st)) rfl rfl (S.hd hd) _ q
theorem Go.checkcastNull (S : St p l e R s m args below meth c Z own bytes nl ret nm h0 ws T h locs cells slots) {index : Nat} (hd : decode bytes pc = .ok (.checkcast index, 3)) (hp : pc + 3 = pc') (k : Go p e below P T (mkF m pc' Ls (.null :: st))) : Go p e below P T (mkF m pc Ls (.null :: st)) := by
  subst hp
  exact k.of fun t q => S.X.checkcastNull S.ex (g := mkF m pc Ls (.null :: st)) rfl rfl (S.hd hd) _ q
theorem Go.aaloadA (S : St p l e R s m args below meth c Z own bytes nl ret nm h0 ws T h locs cells slots) {a : Addr} {cl : Cell} {ty : FieldType} {j : Int32} {v : Value} (A : Arr Z h a cl ty) (hty : ty.isReference = true) (hj : ¬ (j < 0 ∨ cl.slots.size ≤ j.toNatClampNeg)) (hv : cl.slots[j.toNatClampNeg]? = some v) (hd : decode bytes pc = .ok (.aaload, 1)) (hp : pc + 1 = pc') (k : Go p e below P T (mkF m pc' Ls (v :: st))) : Go p e below P T (mkF m pc Ls (.int j :: .ref a :: st)) := by
  subst hp
  exact k.of fun t q => S.X.aaload S.ex (j := j) (v := v) (by rw [S.eT]; exact A.1) (State.isArrayOf_alike S.hZ.alike A.2.1) hty A.2.2 hj hv (g := mkF m pc Ls (.int j :: .ref a :: st)) rfl rfl (S.hd hd) _ q
theorem Go.clone (S : St p l e R s m args below meth c Z own bytes nl ret nm h0 ws T h locs cells slots) {ad : String} {index : Nat} {a : Addr} {kA : ClassId} {ty : FieldType} {n : Int32} {vs : List Value} {dv : Value} {W cap : Nat} (w1 : (Jvm.Cond.methodLink own index ⟨ad, "clone", "()Ljava/lang/Object;"⟩).before a0 Z = true) (w2 : (Jvm.Cond.sameMethod ad "java/lang/Object" "clone" "()Ljava/lang/Object;").before a0 Z = true) (w3 : (Jvm.Cond.native ⟨"java/lang/Object", "clone", "()Ljava/lang/Object;"⟩).before a0 Z = true) (w4 : (Jvm.Cond.instanceMethod ⟨"java/lang/Object", "clone", "()Ljava/lang/Object;"⟩).before a0 Z = true) (w5 : (Jvm.Cond.selects ad ⟨ad, "clone", "()Ljava/lang/Object;"⟩ ⟨"java/lang/Object", "clone", "()Ljava/lang/Object;"⟩).before a0 Z = true) (w6 : (Jvm.Cond.castable ad "java/lang/Cloneable").before a0 Z = true)
    (V : Arv Z Z.heap a kA ty n vs dv) (hfit : Fit Z) (E : Exa Z Z.heap a ad) (hd : decode bytes pc = .ok (.invokevirtual index, 3)) (hsz : Ls.size = nl) (hf : 1 ≤ R.frames) (hW : (st.map fun v => v.category).sum = W) (hl : W + 14 ≤ R.locals) (hcap : n.toNatClampNeg ≤ cap) (hc : cells + 1 ≤ R.cells) (hsl : slots + cap ≤ R.slots) (hp : pc + 3 = pc')
    (k : ∀ T' h' b, St p l e R s m args below meth c Z own bytes nl ret nm h0 ws T' h' locs (cells + 1) (slots + cap) → Ext h h' → h.size = b → Arv Z h' b kA ty n vs dv → Exa Z h' b ad → Go p e below P T' (mkF m pc' Ls (.ref b :: st))) : Go p e below P T (mkF m pc Ls (.ref a :: st)) := by
  subst hp
  obtain ⟨cl, A, q1, q2, q3, H, F⟩ := V
  obtain ⟨T', h', X', e', E', A', EA, f⟩ := cloneA S.X S.ex S.hZ S.hown w1 w2 w3 w4 w5 w6 S.eT (A.ext S.ext) (E.ext S.ext) (FitC.start hfit A) (g := mkF m pc Ls (.ref a :: st)) rfl (hsz.trans S.hnl.symm) rfl (S.hd hd) hf (W := W) (by show 2 * 0 + _ ≤ _; rw [hW]; omega) hl (cap := cap) (by rw [q2]; exact hcap) hc hsl
  exact (k T' h' h.size (S.made X' e' E') E' rfl ⟨_, A', q1, q2, q3, H, F⟩ EA).of f
theorem OMeets.body {y : MethodName} {Q : Option Value → Heap → Prop} {as : Array Value} (hpl : plainFor y = true) (hE : Ext Z.heap h0) (Ls : Array Slot) (hef : ∀ m : MethodId, entryFrame m as nl = mkF m 0 Ls [])
    (H : ∀ p e s m below meth c T, St p l e R s m as below meth c Z y.cls bytes nl ret y.name h0 ws T h0 [] 0 0 → Go p e below (PostOf Z s h0 ws R.cells R.slots Q) T (mkF m 0 Ls [])) : OMeets l Z y bytes nl ret R as h0 ws Q := by
  intro wd
  refine MetFree.of_bodySF hpl hisR ?_
  intro p e s m args below meth c s₁ Bd hml hP _
  obtain ⟨rfl, hZ, hh⟩ := hP
  have X0 : Stand p l e R s m args below meth c s₁ [] 0 0 := Stand.of_body Bd
  have e0 : s₁.heap = h0 := by rw [← hh, Bd.state]; rfl
  have hg := H p e s m below meth c s₁ ⟨⟨Bd.exec, Bd.bytes, hml, hZ, findClass_of_methodNamed Bd.named, Bd.returns, Bd.notSynchronized, (name_of_methodNamed Bd.named Bd.method).1⟩, X0, e0, Fr.nil _, Keep.refl _ _, hE⟩
  rw [hef]
  exact hg
end Steps
end Jvm.Own
namespace Jvm.Pilot.@@N@@
open Jvm Jvm.ClassFile Sem Op Lib Jvm.Free Jvm.Stand Jvm.LawKit Jvm.RoadKit Jvm.Own Bundle Jvm.Pilot.@@N@@.Jvm.D
abbrev HW (Z : State) (a0 : Array Value) : Prop := ∀ d ∈ tables_1, d.before a0 Z = true
theorem wd0 {Z : State} {a0 : Array Value} (hw : HW Z a0) : Jvm.Cond.before (Jvm.Cond.classLink "com/example/strict_queue/strictqueue/storage/RecoveryPointEqualsPinLaw" (7 : Nat) "com/example/strict_queue/strictqueue/storage/RecoveryPoint") a0 Z = true := hw _ (List.mem_of_getElem? (i := 0) rfl)
theorem wd1 {Z : State} {a0 : Array Value} (hw : HW Z a0) : Jvm.Cond.before (Jvm.Cond.instantiable "com/example/strict_queue/strictqueue/storage/RecoveryPoint" (3 : Nat)) a0 Z = true := hw _ (List.mem_of_getElem? (i := 1) rfl)
theorem wd2 {Z : State} {a0 : Array Value} (hw : HW Z a0) : Jvm.Cond.before (Jvm.Cond.initialized "com/example/strict_queue/strictqueue/storage/RecoveryPoint") a0 Z = true := hw _ (List.mem_of_getElem? (i := 2) rfl)
theorem wd3 {Z : State} {a0 : Array Value} (hw : HW Z a0) : Jvm.Cond.before (Jvm.Cond.methodLink "com/example/strict_queue/strictqueue/storage/RecoveryPointEqualsPinLaw" (9 : Nat) ({ cls := "com/example/strict_queue/strictqueue/storage/RecoveryPoint", name := "<init>", desc := "(JJJ)V" } : Jvm.MethodName)) a0 Z = true := hw _ (List.mem_of_getElem? (i := 3) rfl)
theorem wd4 {Z : State} {a0 : Array Value} (hw : HW Z a0) : Jvm.Cond.before (Jvm.Cond.instanceMethod ({ cls := "com/example/strict_queue/strictqueue/storage/RecoveryPoint", name := "<init>", desc := "(JJJ)V" } : Jvm.MethodName)) a0 Z = true := hw _ (List.mem_of_getElem? (i := 4) rfl)
theorem wd5 {Z : State} {a0 : Array Value} (hw : HW Z a0) : Jvm.Cond.before (Jvm.Cond.code ({ cls := "com/example/strict_queue/strictqueue/storage/RecoveryPoint", name := "<init>", desc := "(JJJ)V" } : Jvm.MethodName) prog_36_method_1_code (7 : Nat) (Option.none : Option Jvm.ClassFile.FieldType)) a0 Z = true := hw _ (List.mem_of_getElem? (i := 5) rfl)
theorem wd6 {Z : State} {a0 : Array Value} (hw : HW Z a0) : Jvm.Cond.before (Jvm.Cond.methodLink "com/example/strict_queue/strictqueue/storage/RecoveryPoint" (1 : Nat) ({ cls := "java/lang/Object", name := "<init>", desc := "()V" } : Jvm.MethodName)) a0 Z = true := hw _ (List.mem_of_getElem? (i := 6) rfl)
theorem wd7 {Z : State} {a0 : Array Value} (hw : HW Z a0) : Jvm.Cond.before (Jvm.Cond.instanceMethod ({ cls := "java/lang/Object", name := "<init>", desc := "()V" } : Jvm.MethodName)) a0 Z = true := hw _ (List.mem_of_getElem? (i := 7) rfl)
theorem wd8 {Z : State} {a0 : Array Value} (hw : HW Z a0) : Jvm.Cond.before (Jvm.Cond.code ({ cls := "java/lang/Object", name := "<init>", desc := "()V" } : Jvm.MethodName) object_method_1_code (1 : Nat) (Option.none : Option Jvm.ClassFile.FieldType)) a0 Z = true := hw _ (List.mem_of_getElem? (i := 8) rfl)
theorem wd9 {Z : State} {a0 : Array Value} (hw : HW Z a0) : Jvm.Cond.before (Jvm.Cond.fieldLink "com/example/strict_queue/strictqueue/storage/RecoveryPoint" (7 : Nat) "com/example/strict_queue/strictqueue/storage/RecoveryPoint" "segment" "J") a0 Z = true := hw _ (List.mem_of_getElem? (i := 9) rfl)
theorem wd10 {Z : State} {a0 : Array Value} (hw : HW Z a0) : Jvm.Cond.before (Jvm.Cond.laysFinal "com/example/strict_queue/strictqueue/storage/RecoveryPoint" "com/example/strict_queue/strictqueue/storage/RecoveryPoint" "segment" "J") a0 Z = true := hw _ (List.mem_of_getElem? (i := 10) rfl)
theorem wd11 {Z : State} {a0 : Array Value} (hw : HW Z a0) : Jvm.Cond.before (Jvm.Cond.fieldLink "com/example/strict_queue/strictqueue/storage/RecoveryPoint" (13 : Nat) "com/example/strict_queue/strictqueue/storage/RecoveryPoint" "position" "J") a0 Z = true := hw _ (List.mem_of_getElem? (i := 11) rfl)
theorem wd12 {Z : State} {a0 : Array Value} (hw : HW Z a0) : Jvm.Cond.before (Jvm.Cond.laysFinal "com/example/strict_queue/strictqueue/storage/RecoveryPoint" "com/example/strict_queue/strictqueue/storage/RecoveryPoint" "position" "J") a0 Z = true := hw _ (List.mem_of_getElem? (i := 12) rfl)
theorem wd13 {Z : State} {a0 : Array Value} (hw : HW Z a0) : Jvm.Cond.before (Jvm.Cond.fieldLink "com/example/strict_queue/strictqueue/storage/RecoveryPoint" (16 : Nat) "com/example/strict_queue/strictqueue/storage/RecoveryPoint" "offset" "J") a0 Z = true := hw _ (List.mem_of_getElem? (i := 13) rfl)
theorem wd14 {Z : State} {a0 : Array Value} (hw : HW Z a0) : Jvm.Cond.before (Jvm.Cond.laysFinal "com/example/strict_queue/strictqueue/storage/RecoveryPoint" "com/example/strict_queue/strictqueue/storage/RecoveryPoint" "offset" "J") a0 Z = true := hw _ (List.mem_of_getElem? (i := 14) rfl)
theorem wd15 {Z : State} {a0 : Array Value} (hw : HW Z a0) : Jvm.Cond.before (Jvm.Cond.methodLink "com/example/strict_queue/strictqueue/storage/RecoveryPointEqualsPinLaw" (12 : Nat) ({ cls := "com/example/strict_queue/strictqueue/storage/RecoveryPoint", name := "equals", desc := "(Ljava/lang/Object;)Z" } : Jvm.MethodName)) a0 Z = true := hw _ (List.mem_of_getElem? (i := 15) rfl)
theorem wd16 {Z : State} {a0 : Array Value} (hw : HW Z a0) : Jvm.Cond.before (Jvm.Cond.declares ({ cls := "com/example/strict_queue/strictqueue/storage/RecoveryPoint", name := "equals", desc := "(Ljava/lang/Object;)Z" } : Jvm.MethodName)) a0 Z = true := hw _ (List.mem_of_getElem? (i := 16) rfl)
theorem wd17 {Z : State} {a0 : Array Value} (hw : HW Z a0) : Jvm.Cond.before (Jvm.Cond.instanceMethod ({ cls := "com/example/strict_queue/strictqueue/storage/RecoveryPoint", name := "equals", desc := "(Ljava/lang/Object;)Z" } : Jvm.MethodName)) a0 Z = true := hw _ (List.mem_of_getElem? (i := 17) rfl)
theorem wd18 {Z : State} {a0 : Array Value} (hw : HW Z a0) : Jvm.Cond.before (Jvm.Cond.selects "com/example/strict_queue/strictqueue/storage/RecoveryPoint" ({ cls := "com/example/strict_queue/strictqueue/storage/RecoveryPoint", name := "equals", desc := "(Ljava/lang/Object;)Z" } : Jvm.MethodName) ({ cls := "com/example/strict_queue/strictqueue/storage/RecoveryPoint", name := "equals", desc := "(Ljava/lang/Object;)Z" } : Jvm.MethodName)) a0 Z = true := hw _ (List.mem_of_getElem? (i := 18) rfl)
theorem wd19 {Z : State} {a0 : Array Value} (hw : HW Z a0) : Jvm.Cond.before (Jvm.Cond.code ({ cls := "com/example/strict_queue/strictqueue/storage/RecoveryPoint", name := "equals", desc := "(Ljava/lang/Object;)Z" } : Jvm.MethodName) prog_36_method_5_code (2 : Nat) (Option.some Jvm.ClassFile.FieldType.boolean)) a0 Z = true := hw _ (List.mem_of_getElem? (i := 19) rfl)
theorem wd20 {Z : State} {a0 : Array Value} (hw : HW Z a0) : Jvm.Cond.before (Jvm.Cond.classLink "com/example/strict_queue/strictqueue/storage/RecoveryPoint" (8 : Nat) "com/example/strict_queue/strictqueue/storage/RecoveryPoint") a0 Z = true := hw _ (List.mem_of_getElem? (i := 20) rfl)
theorem wd22 {Z : State} {a0 : Array Value} (hw : HW Z a0) : Jvm.Cond.before (Jvm.Cond.methodLink "com/example/strict_queue/strictqueue/storage/RecoveryPointEqualsPinLaw" (16 : Nat) ({ cls := "java/lang/Long", name := "valueOf", desc := "(J)Ljava/lang/Long;" } : Jvm.MethodName)) a0 Z = true := hw _ (List.mem_of_getElem? (i := 22) rfl)
theorem wd23 {Z : State} {a0 : Array Value} (hw : HW Z a0) : Jvm.Cond.before (Jvm.Cond.static ({ cls := "java/lang/Long", name := "valueOf", desc := "(J)Ljava/lang/Long;" } : Jvm.MethodName)) a0 Z = true := hw _ (List.mem_of_getElem? (i := 23) rfl)
theorem wd24 {Z : State} {a0 : Array Value} (hw : HW Z a0) : Jvm.Cond.before (Jvm.Cond.initialized "java/lang/Long") a0 Z = true := hw _ (List.mem_of_getElem? (i := 24) rfl)
theorem wd25 {Z : State} {a0 : Array Value} (hw : HW Z a0) : Jvm.Cond.before (Jvm.Cond.code ({ cls := "java/lang/Long", name := "valueOf", desc := "(J)Ljava/lang/Long;" } : Jvm.MethodName) jdk_35_method_24_code (3 : Nat) (Option.some (Jvm.ClassFile.FieldType.object "java/lang/Long"))) a0 Z = true := hw _ (List.mem_of_getElem? (i := 25) rfl)
theorem wd26 {Z : State} {a0 : Array Value} (hw : HW Z a0) : Jvm.Cond.before (Jvm.Cond.constantLong "java/lang/Long" (230 : Nat) (-128 : Int64)) a0 Z = true := hw _ (List.mem_of_getElem? (i := 26) rfl)
theorem wd27 {Z : State} {a0 : Array Value} (hw : HW Z a0) : Jvm.Cond.before (Jvm.Cond.classLink "java/lang/Long" (1 : Nat) "java/lang/Long") a0 Z = true := hw _ (List.mem_of_getElem? (i := 27) rfl)
theorem wd28 {Z : State} {a0 : Array Value} (hw : HW Z a0) : Jvm.Cond.before (Jvm.Cond.instantiable "java/lang/Long" (1 : Nat)) a0 Z = true := hw _ (List.mem_of_getElem? (i := 28) rfl)
theorem wd29 {Z : State} {a0 : Array Value} (hw : HW Z a0) : Jvm.Cond.before (Jvm.Cond.methodLink "java/lang/Long" (240 : Nat) ({ cls := "java/lang/Long", name := "<init>", desc := "(J)V" } : Jvm.MethodName)) a0 Z = true := hw _ (List.mem_of_getElem? (i := 29) rfl)
theorem wd30 {Z : State} {a0 : Array Value} (hw : HW Z a0) : Jvm.Cond.before (Jvm.Cond.instanceMethod ({ cls := "java/lang/Long", name := "<init>", desc := "(J)V" } : Jvm.MethodName)) a0 Z = true := hw _ (List.mem_of_getElem? (i := 30) rfl)
theorem wd32 {Z : State} {a0 : Array Value} (hw : HW Z a0) : Jvm.Cond.before (Jvm.Cond.code ({ cls := "java/lang/Long", name := "<init>", desc := "(J)V" } : Jvm.MethodName) jdk_35_method_26_code (3 : Nat) (Option.none : Option Jvm.ClassFile.FieldType)) a0 Z = true := hw _ (List.mem_of_getElem? (i := 32) rfl)
theorem wd33 {Z : State} {a0 : Array Value} (hw : HW Z a0) : Jvm.Cond.before (Jvm.Cond.methodLink "java/lang/Long" (270 : Nat) ({ cls := "java/lang/Number", name := "<init>", desc := "()V" } : Jvm.MethodName)) a0 Z = true := hw _ (List.mem_of_getElem? (i := 33) rfl)
theorem wd34 {Z : State} {a0 : Array Value} (hw : HW Z a0) : Jvm.Cond.before (Jvm.Cond.instanceMethod ({ cls := "java/lang/Number", name := "<init>", desc := "()V" } : Jvm.MethodName)) a0 Z = true := hw _ (List.mem_of_getElem? (i := 34) rfl)
theorem wd37 {Z : State} {a0 : Array Value} (hw : HW Z a0) : Jvm.Cond.before (Jvm.Cond.initialized "java/lang/Number") a0 Z = true := hw _ (List.mem_of_getElem? (i := 37) rfl)
theorem wd38 {Z : State} {a0 : Array Value} (hw : HW Z a0) : Jvm.Cond.before (Jvm.Cond.code ({ cls := "java/lang/Number", name := "<init>", desc := "()V" } : Jvm.MethodName) jdk_18_method_1_code (1 : Nat) (Option.none : Option Jvm.ClassFile.FieldType)) a0 Z = true := hw _ (List.mem_of_getElem? (i := 38) rfl)
theorem wd39 {Z : State} {a0 : Array Value} (hw : HW Z a0) : Jvm.Cond.before (Jvm.Cond.methodLink "java/lang/Number" (1 : Nat) ({ cls := "java/lang/Object", name := "<init>", desc := "()V" } : Jvm.MethodName)) a0 Z = true := hw _ (List.mem_of_getElem? (i := 39) rfl)
theorem wd40 {Z : State} {a0 : Array Value} (hw : HW Z a0) : Jvm.Cond.before (Jvm.Cond.fieldLink "java/lang/Long" (273 : Nat) "java/lang/Long" "value" "J") a0 Z = true := hw _ (List.mem_of_getElem? (i := 40) rfl)
theorem wd41 {Z : State} {a0 : Array Value} (hw : HW Z a0) : Jvm.Cond.before (Jvm.Cond.laysFinal "java/lang/Long" "java/lang/Long" "value" "J") a0 Z = true := hw _ (List.mem_of_getElem? (i := 41) rfl)
theorem wd42 {Z : State} {a0 : Array Value} (hw : HW Z a0) : Jvm.Cond.before (Jvm.Cond.superclass "java/lang/Long" "java/lang/Number") a0 Z = true := hw _ (List.mem_of_getElem? (i := 42) rfl)
theorem wd43 {Z : State} {a0 : Array Value} (hw : HW Z a0) : Jvm.Cond.before (Jvm.Cond.superclass "java/lang/Number" "java/lang/Object") a0 Z = true := hw _ (List.mem_of_getElem? (i := 43) rfl)
theorem wd44 {Z : State} {a0 : Array Value} (hw : HW Z a0) : Jvm.Cond.before (Jvm.Cond.noSuperclass "java/lang/Object") a0 Z = true := hw _ (List.mem_of_getElem? (i := 44) rfl)
theorem wd45 {Z : State} {a0 : Array Value} (hw : HW Z a0) : Jvm.Cond.before (Jvm.Cond.constantLong "java/lang/Long" (232 : Nat) (127 : Int64)) a0 Z = true := hw _ (List.mem_of_getElem? (i := 45) rfl)
theorem wd46 {Z : State} {a0 : Array Value} (hw : HW Z a0) : Jvm.Cond.before (Jvm.Cond.fieldLink "java/lang/Long" (234 : Nat) "java/lang/Long$LongCache" "cache" "[Ljava/lang/Long;") a0 Z = true := hw _ (List.mem_of_getElem? (i := 46) rfl)
theorem pn0 : plainName "java/lang/Number" = true := by first | (simp [plainName, overriddenIn]; done) | decide +kernel
theorem pn1 : plainName "java/lang/Long" = true := by first | (simp [plainName, overriddenIn]; done) | decide +kernel
theorem pn2 : plainName "com/example/strict_queue/strictqueue/storage/RecoveryPoint" = true := by first | (simp [plainName, overriddenIn]; done) | decide +kernel
theorem pn3 : plainName "com/example/strict_queue/strictqueue/storage/RecoveryPointEqualsPinLaw" = true := by first | (simp [plainName, overriddenIn]; done) | decide +kernel
theorem pd0 : parseMethodDescriptor "()V" = some ⟨[], none⟩ := by decide +kernel
theorem pd1 : parseMethodDescriptor "(J)V" = some ⟨[.long], none⟩ := by decide +kernel
theorem pd2 : parseMethodDescriptor "(JJJ)V" = some ⟨[.long, .long, .long], none⟩ := by decide +kernel
theorem pd3 : parseMethodDescriptor "(Ljava/lang/Object;)Z" = some ⟨[(.object "java/lang/Object")], some .boolean⟩ := by decide +kernel
theorem pd4 : parseMethodDescriptor "(J)Ljava/lang/Long;" = some ⟨[.long], some (.object "java/lang/Long")⟩ := by decide +kernel
theorem d_jdk_18_method_1_code_0 : decode jdk_18_method_1_code 0 = .ok (.aload_n 0, 1) := by decide +kernel
theorem d_jdk_18_method_1_code_1 : decode jdk_18_method_1_code 1 = .ok (.invokespecial 1, 3) := by decide +kernel
theorem d_jdk_18_method_1_code_4 : decode jdk_18_method_1_code 4 = .ok (.return_, 1) := by decide +kernel
theorem d_jdk_35_method_24_code_0 : decode jdk_35_method_24_code 0 = .ok (.sipush 128, 3) := by decide +kernel
theorem d_jdk_35_method_24_code_3 : decode jdk_35_method_24_code 3 = .ok (.istore_n 2, 1) := by decide +kernel
theorem d_jdk_35_method_24_code_4 : decode jdk_35_method_24_code 4 = .ok (.lload_n 0, 1) := by decide +kernel
theorem d_jdk_35_method_24_code_5 : decode jdk_35_method_24_code 5 = .ok (.ldc2_w 230, 3) := by decide +kernel
theorem d_jdk_35_method_24_code_8 : decode jdk_35_method_24_code 8 = .ok (.lcmp, 1) := by decide +kernel
theorem d_jdk_35_method_24_code_9 : decode jdk_35_method_24_code 9 = .ok (.ifCond .lt 22, 3) := by decide +kernel
theorem d_jdk_35_method_24_code_12 : decode jdk_35_method_24_code 12 = .ok (.lload_n 0, 1) := by decide +kernel
theorem d_jdk_35_method_24_code_13 : decode jdk_35_method_24_code 13 = .ok (.ldc2_w 232, 3) := by decide +kernel
theorem d_jdk_35_method_24_code_16 : decode jdk_35_method_24_code 16 = .ok (.lcmp, 1) := by decide +kernel
theorem d_jdk_35_method_24_code_17 : decode jdk_35_method_24_code 17 = .ok (.ifCond .gt 14, 3) := by decide +kernel
theorem d_jdk_35_method_24_code_20 : decode jdk_35_method_24_code 20 = .ok (.getstatic 234, 3) := by decide +kernel
theorem d_jdk_35_method_24_code_23 : decode jdk_35_method_24_code 23 = .ok (.lload_n 0, 1) := by decide +kernel
theorem d_jdk_35_method_24_code_24 : decode jdk_35_method_24_code 24 = .ok (.l2i, 1) := by decide +kernel
theorem d_jdk_35_method_24_code_25 : decode jdk_35_method_24_code 25 = .ok (.sipush 128, 3) := by decide +kernel
theorem d_jdk_35_method_24_code_28 : decode jdk_35_method_24_code 28 = .ok (.iadd, 1) := by decide +kernel
theorem d_jdk_35_method_24_code_29 : decode jdk_35_method_24_code 29 = .ok (.aaload, 1) := by decide +kernel
theorem d_jdk_35_method_24_code_30 : decode jdk_35_method_24_code 30 = .ok (.areturn, 1) := by decide +kernel
theorem d_jdk_35_method_24_code_31 : decode jdk_35_method_24_code 31 = .ok (.new 1, 3) := by decide +kernel
theorem d_jdk_35_method_24_code_34 : decode jdk_35_method_24_code 34 = .ok (.dup, 1) := by decide +kernel
theorem d_jdk_35_method_24_code_35 : decode jdk_35_method_24_code 35 = .ok (.lload_n 0, 1) := by decide +kernel
theorem d_jdk_35_method_24_code_36 : decode jdk_35_method_24_code 36 = .ok (.invokespecial 240, 3) := by decide +kernel
theorem d_jdk_35_method_24_code_39 : decode jdk_35_method_24_code 39 = .ok (.areturn, 1) := by decide +kernel
theorem d_jdk_35_method_26_code_0 : decode jdk_35_method_26_code 0 = .ok (.aload_n 0, 1) := by decide +kernel
theorem d_jdk_35_method_26_code_1 : decode jdk_35_method_26_code 1 = .ok (.invokespecial 270, 3) := by decide +kernel
theorem d_jdk_35_method_26_code_4 : decode jdk_35_method_26_code 4 = .ok (.aload_n 0, 1) := by decide +kernel
theorem d_jdk_35_method_26_code_5 : decode jdk_35_method_26_code 5 = .ok (.lload_n 1, 1) := by decide +kernel
theorem d_jdk_35_method_26_code_6 : decode jdk_35_method_26_code 6 = .ok (.putfield 273, 3) := by decide +kernel
theorem d_jdk_35_method_26_code_9 : decode jdk_35_method_26_code 9 = .ok (.return_, 1) := by decide +kernel
theorem d_prog_36_method_1_code_0 : decode prog_36_method_1_code 0 = .ok (.aload_n 0, 1) := by decide +kernel
theorem d_prog_36_method_1_code_1 : decode prog_36_method_1_code 1 = .ok (.invokespecial 1, 3) := by decide +kernel
theorem d_prog_36_method_1_code_4 : decode prog_36_method_1_code 4 = .ok (.aload_n 0, 1) := by decide +kernel
theorem d_prog_36_method_1_code_5 : decode prog_36_method_1_code 5 = .ok (.lload_n 1, 1) := by decide +kernel
theorem d_prog_36_method_1_code_6 : decode prog_36_method_1_code 6 = .ok (.putfield 7, 3) := by decide +kernel
theorem d_prog_36_method_1_code_9 : decode prog_36_method_1_code 9 = .ok (.aload_n 0, 1) := by decide +kernel
theorem d_prog_36_method_1_code_10 : decode prog_36_method_1_code 10 = .ok (.lload_n 3, 1) := by decide +kernel
theorem d_prog_36_method_1_code_11 : decode prog_36_method_1_code 11 = .ok (.putfield 13, 3) := by decide +kernel
theorem d_prog_36_method_1_code_14 : decode prog_36_method_1_code 14 = .ok (.aload_n 0, 1) := by decide +kernel
theorem d_prog_36_method_1_code_15 : decode prog_36_method_1_code 15 = .ok (.lload 5, 2) := by decide +kernel
theorem d_prog_36_method_1_code_17 : decode prog_36_method_1_code 17 = .ok (.putfield 16, 3) := by decide +kernel
theorem d_prog_36_method_1_code_20 : decode prog_36_method_1_code 20 = .ok (.return_, 1) := by decide +kernel
theorem d_prog_36_method_5_code_0 : decode prog_36_method_5_code 0 = .ok (.aload_n 1, 1) := by decide +kernel
theorem d_prog_36_method_5_code_1 : decode prog_36_method_5_code 1 = .ok (.instanceof 8, 3) := by decide +kernel
theorem d_prog_36_method_5_code_4 : decode prog_36_method_5_code 4 = .ok (.ifCond .eq 52, 3) := by decide +kernel
theorem d_prog_36_method_5_code_7 : decode prog_36_method_5_code 7 = .ok (.aload_n 1, 1) := by decide +kernel
theorem d_prog_36_method_5_code_8 : decode prog_36_method_5_code 8 = .ok (.checkcast 8, 3) := by decide +kernel
theorem d_prog_36_method_5_code_11 : decode prog_36_method_5_code 11 = .ok (.getfield 7, 3) := by decide +kernel
theorem d_prog_36_method_5_code_14 : decode prog_36_method_5_code 14 = .ok (.aload_n 0, 1) := by decide +kernel
theorem d_prog_36_method_5_code_15 : decode prog_36_method_5_code 15 = .ok (.getfield 7, 3) := by decide +kernel
theorem d_prog_36_method_5_code_18 : decode prog_36_method_5_code 18 = .ok (.lcmp, 1) := by decide +kernel
theorem d_prog_36_method_5_code_19 : decode prog_36_method_5_code 19 = .ok (.ifCond .ne 37, 3) := by decide +kernel
theorem d_prog_36_method_5_code_22 : decode prog_36_method_5_code 22 = .ok (.aload_n 1, 1) := by decide +kernel
theorem d_prog_36_method_5_code_23 : decode prog_36_method_5_code 23 = .ok (.checkcast 8, 3) := by decide +kernel
theorem d_prog_36_method_5_code_26 : decode prog_36_method_5_code 26 = .ok (.getfield 13, 3) := by decide +kernel
theorem d_prog_36_method_5_code_29 : decode prog_36_method_5_code 29 = .ok (.aload_n 0, 1) := by decide +kernel
theorem d_prog_36_method_5_code_30 : decode prog_36_method_5_code 30 = .ok (.getfield 13, 3) := by decide +kernel
theorem d_prog_36_method_5_code_33 : decode prog_36_method_5_code 33 = .ok (.lcmp, 1) := by decide +kernel
theorem d_prog_36_method_5_code_34 : decode prog_36_method_5_code 34 = .ok (.ifCond .ne 22, 3) := by decide +kernel
theorem d_prog_36_method_5_code_37 : decode prog_36_method_5_code 37 = .ok (.aload_n 1, 1) := by decide +kernel
theorem d_prog_36_method_5_code_38 : decode prog_36_method_5_code 38 = .ok (.checkcast 8, 3) := by decide +kernel
theorem d_prog_36_method_5_code_41 : decode prog_36_method_5_code 41 = .ok (.getfield 16, 3) := by decide +kernel
theorem d_prog_36_method_5_code_44 : decode prog_36_method_5_code 44 = .ok (.aload_n 0, 1) := by decide +kernel
theorem d_prog_36_method_5_code_45 : decode prog_36_method_5_code 45 = .ok (.getfield 16, 3) := by decide +kernel
theorem d_prog_36_method_5_code_48 : decode prog_36_method_5_code 48 = .ok (.lcmp, 1) := by decide +kernel
theorem d_prog_36_method_5_code_49 : decode prog_36_method_5_code 49 = .ok (.ifCond .ne 7, 3) := by decide +kernel
theorem d_prog_36_method_5_code_52 : decode prog_36_method_5_code 52 = .ok (.iconst 1, 1) := by decide +kernel
theorem d_prog_36_method_5_code_53 : decode prog_36_method_5_code 53 = .ok (.goto 4, 3) := by decide +kernel
theorem d_prog_36_method_5_code_56 : decode prog_36_method_5_code 56 = .ok (.iconst 0, 1) := by decide +kernel
theorem d_prog_36_method_5_code_57 : decode prog_36_method_5_code 57 = .ok (.ireturn, 1) := by decide +kernel
theorem own_eqI {args : Array Value} {first s : State} {o : Option Outcome} {idx : List Nat} {t : Term} {k : Int32} (h : (Jvm.Cond.eq t (.int k)).value args first o s idx = some true) : t.eval args first o idx s = some (.int k) := by
  obtain ⟨v, w, hv, hw, hk, hk'⟩ := cmp_v (Or.inl h)
  cases (Term.int_eval k).symm.trans hw
  obtain ⟨z, rfl⟩ : ∃ z, v = .int z := hk'
  have q : (Jvm.Cond.eq t (.int k)).value args first o s idx = some (decide (z = k)) := by simp [Cond.value, hv, hw]
  rw [hv, gotT q h]
/-- the cache of small Longs, as the named set says it -/
def LongCache (Z : State) : Prop := ∃ (ca : Addr) (cl : Cell), Sta Z Z.heap "java/lang/Long$LongCache" "cache" "[Ljava/lang/Long;" (.ref ca) ∧ Arr Z Z.heap ca cl (.object "java/lang/Long") ∧ cl.slots.size = 256 ∧ ∀ i, i < 256 → ∃ b : Addr, cl.slots[i]? = some (.ref b) ∧ Exa Z Z.heap b "java/lang/Long"
theorem own_cache {s : State} {args : Array Value} (hs : ∀ w ∈ jdkStatics_1, w.before args s = true) : LongCache s := by
  have w2 := Cond.before_iff.mp (hs _ (List.mem_of_getElem? (i := 2) rfl))
  have w4 := Cond.before_iff.mp (hs _ (List.mem_of_getElem? (i := 4) rfl))
  have w5 := Cond.before_iff.mp (hs _ (List.mem_of_getElem? (i := 5) rfl))
  obtain ⟨ca, ev⟩ := arr_v w2
  obtain ⟨cl, A⟩ := Arr.start ev w2
  have hst := Sta.start ev (Or.inl (hs _ (List.mem_of_getElem? (i := 1) rfl)))
  have hat := A.fin (Vm.Alike.refl _)
  have hl := own_eqI w4
  obtain ⟨d, arr, e1, e2, e3, e4⟩ := Jvm.Free.SB.Term.length_small hl
  cases ev.symm.trans e1
  cases hat.symm.trans e2
  have hsz : cl.slots.size = 256 := by
    have q : (256 : Int32) = cl.slots.size.toInt32 := Value.int.inj e3
    have q1 := len_toInt e4
    rw [← q] at q1
    have e256 : (256 : Int32).toInt = 256 := rfl
    omega
  refine ⟨ca, cl, hst, A, hsz, fun i hi => ?_⟩
  have he := Cond.all_elim ev hat w5 i (by omega)
  obtain ⟨h1, -⟩ := and_e he
  obtain ⟨b, eb⟩ := exa_v h1
  have hx := exa_at eb h1
  have hin := elem_in eb (show Term.eval _ _ _ _ _ _ = some (Value.ref ca) from ev) (Term.index_eval i) A.1
  have hi32 : i.toInt32.toNatClampNeg = i := by
    have := Int32.toInt_ofNat_small (show i < 2 ^ 31 by omega)
    simp only [Int32.toNatClampNeg]
    show (i.toInt32.toInt).toNat = i
    rw [len_toInt (by omega)]
    omega
  rw [hi32] at hin
  exact ⟨b, hin.2, hx⟩
theorem own_idx {q : Int64} (h1 : ¬ q < -128) (h2 : ¬ 127 < q) : ¬ (q.toInt32 + 128 < 0) ∧ (q.toInt32 + 128).toNatClampNeg < 256 := by
  have e1 : (-128 : Int64).toInt = -128 := rfl
  have e2 : (127 : Int64).toInt = 127 := rfl
  have e0 : (0 : Int32).toInt = 0 := rfl
  have e3 : (128 : Int32).toInt = 128 := rfl
  have a := c_l2i q
  have ra := rng32 q.toInt32
  have b := c_iadd q.toInt32 128
  have rb := rng32 (q.toInt32 + 128)
  simp only [Int64.lt_iff_toInt_lt, Int32.lt_iff_toInt_lt, e1, e2, e0] at *
  refine ⟨by omega, ?_⟩
  simp only [Int32.toNatClampNeg]
  omega
theorem own_nsRoot {Z : State} {a0 : Array Value} {O K : String} {n : Nat} (w : (Jvm.Cond.noSuperclass O).before a0 Z = true) (wi : (Jvm.Cond.instantiable K n).before a0 Z = true) (hn : O ≠ K) : NS Z O K := by
  obtain ⟨t, kt, f1, -⟩ := Cond.instantiable_spec wi
  obtain ⟨o, ko, g1, g2, g3, -, -⟩ := Cond.noSuperclass_spec w
  have ne := ids_ne g1 f1 hn
  refine ⟨o, t, g1, f1, fun fuel => ?_⟩
  cases fuel with
  | zero => rfl
  | succ f => rw [Vm.isSubclassAux]; simp [ne, g2, g3]
theorem own_nsNo {Z : State} {a0 : Array Value} {C K : String} {nc n : Nat} (wc : (Jvm.Cond.instantiable C nc).before a0 Z = true) (wi : (Jvm.Cond.instantiable K n).before a0 Z = true) (ns : NS Z C K) (hn : C ≠ K) : ∃ c t, Z.vm.findClass C = some c ∧ Z.vm.findClass K = some t ∧ Z.vm.assignable c t = false := by
  obtain ⟨c, t, h1, h2, h3⟩ := ns
  obtain ⟨c', kc, e1, e2, e3, e4, -⟩ := Cond.instantiable_spec wc
  obtain ⟨t', kt, f1, f2, f3, f4, -⟩ := Cond.instantiable_spec wi
  cases h1.symm.trans e1
  cases h2.symm.trans f1
  have ne := ids_ne h1 h2 hn
  have hi : kt.isInterface = false := (Bool.or_eq_false_iff.mp f4).1
  refine ⟨c, t, h1, h2, ?_⟩
  show Z.vm.assignableAux (255 + 1) c t = false
  rw [Vm.assignableAux]
  simp [ne, e2, f2, e3, f3, hi, Vm.isSubclass, h3]
theorem own_notLong {Z : State} {a0 : Array Value} (hw : HW Z a0) : ∃ c t, Z.vm.findClass "java/lang/Long" = some c ∧ Z.vm.findClass "com/example/strict_queue/strictqueue/storage/RecoveryPoint" = some t ∧ Z.vm.assignable c t = false :=
  own_nsNo (wd28 hw) (wd1 hw) (NS.step (wd42 hw) (NS.step (wd43 hw) (own_nsRoot (wd44 hw) (wd1 hw) (by decide)) (by decide)) (by decide)) (by decide)
set_option maxRecDepth 65536 in
set_option maxHeartbeats 4000000 in
theorem rm_jdk_18_method_1_code {l : Launch} {Z : State} {a0 : Array Value} (hw : HW Z a0) (a : Addr)  {h0 : Heap} (hE : Ext Z.heap h0) :
    OMeets l Z (⟨"java/lang/Number", "<init>", "()V"⟩ : MethodName) jdk_18_method_1_code 1 none ({ frames := 1, cells := 0, slots := 0, locals := 12 } : Room) #[(.ref a)] h0 [] (fun v h => v = none ∧ h0 = h) := by
  refine OMeets.body (plainFor_of_name pn0) hE #[.val (.ref a)] (fun m => by first | rfl | (simp [entryFrame, mkF, argsToLocals, Value.category, maxLocals]; done)) ?_
  intro p e s m below meth co T S
  refine Go.aloadN S d_jdk_18_method_1_code_0 rfl rfl (pc' := 1) rfl ?_
  refine Go.initObject S (wd39 hw) (wd7 hw) (wd8 hw) d_jdk_18_method_1_code_1 rfl (by decide) (W := 0) rfl (by decide) (pc' := 4) rfl ?_
  intro T1 S1
  exact Go.vreturn S1 rfl d_jdk_18_method_1_code_4 (by decide) (by decide) (⟨rfl, rfl⟩)
set_option maxRecDepth 65536 in
set_option maxHeartbeats 4000000 in
theorem rm_jdk_35_method_26_code {l : Launch} {Z : State} {a0 : Array Value} (hw : HW Z a0) (a : Addr) (q : Int64)  {h0 : Heap} (hE : Ext Z.heap h0) (hz : Z.heap.size ≤ a) (E : Exa Z h0 a "java/lang/Long") (F : Fld Z h0 a "java/lang/Long" "value" "J" (.long 0)) :
    OMeets l Z (⟨"java/lang/Long", "<init>", "(J)V"⟩ : MethodName) jdk_35_method_26_code 3 none ({ frames := 2, cells := 0, slots := 0, locals := 24 } : Room) #[(.ref a), (.long q)] h0 [a] (fun v h => v = none) := by
  refine OMeets.body (plainFor_of_name pn1) hE #[.val (.ref a), .val (.long q), .second] (fun m => by first | rfl | (simp [entryFrame, mkF, argsToLocals, Value.category, maxLocals]; done)) ?_
  intro p e s m below meth co T S
  refine Go.aloadN S d_jdk_35_method_26_code_0 rfl rfl (pc' := 1) rfl ?_
  refine Go.invokespecial S (y := ⟨"java/lang/Number", "<init>", "()V"⟩) (rm_jdk_18_method_1_code hw a S.ext) rfl rfl (wd33 hw) (wd34 hw) (wd37 hw) (wd38 hw) (by decide) d_jdk_35_method_26_code_1 rfl pd0 (argsL := []) rfl rfl rfl (by decide) (W := 0) rfl (by decide) (by decide) (by decide) all0 (pc' := 4) rfl ?_
  intro v1 T1 h1 L1 S1 K1 q1
  obtain ⟨rfl, rfl⟩ := q1
  show Go _ _ _ _ T1 (mkF m 4 #[.val (.ref a), .val (.long q), .second] [])
  refine Go.aloadN S1 d_jdk_35_method_26_code_4 rfl rfl (pc' := 5) rfl ?_
  refine Go.lloadN S1 d_jdk_35_method_26_code_5 rfl (pc' := 6) rfl ?_
  refine Go.putfield S1 (host := "") (Or.inl (wd40 hw)) Via.refl F E (Or.inr ⟨(wd41 hw), rfl, rfl⟩) (wd28 hw) (ty := .long) (by decide) rfl rfl hz (Or.inl (List.mem_singleton.mpr rfl)) d_jdk_35_method_26_code_6 (pc' := 9) rfl ?_
  intro T2 h2 L2 S2 W2
  have F2 := F.same W2
  replace E := E.wr W2
  exact Go.vreturn S2 rfl d_jdk_35_method_26_code_9 (by decide) (by decide) (rfl)
set_option maxRecDepth 65536 in
set_option maxHeartbeats 4000000 in
theorem rm_jdk_35_method_24_code {l : Launch} {Z : State} {a0 : Array Value} (hw : HW Z a0) (q : Int64)  {h0 : Heap} (hE : Ext Z.heap h0) (hC : LongCache Z) :
    OMeets l Z (⟨"java/lang/Long", "valueOf", "(J)Ljava/lang/Long;"⟩ : MethodName) jdk_35_method_24_code 3 (some (.object "java/lang/Long")) ({ frames := 3, cells := 1, slots := 1, locals := 39 } : Room) #[(.long q)] h0 [] (fun v h => ∃ r, v = some (.ref r) ∧ Exa Z h r "java/lang/Long") := by
  refine OMeets.body (plainFor_of_name pn1) hE #[.val (.long q), .second, .unset] (fun m => by first | rfl | (simp [entryFrame, mkF, argsToLocals, Value.category, maxLocals]; done)) ?_
  intro p e s m below meth co T S
  obtain ⟨ca, cl, hS, hA, hsz, hels⟩ := hC
  refine Go.sipush S (v := 128) d_jdk_35_method_24_code_0 rfl (pc' := 3) rfl ?_
  refine Go.istoreN S d_jdk_35_method_24_code_3 (Ls' := #[.val (.long q), .second, .val (.int (128 : Int32))]) rfl (pc' := 4) rfl ?_
  refine Go.lloadN S d_jdk_35_method_24_code_4 rfl (pc' := 5) rfl ?_
  refine Go.ldc2 S (wd26 hw) d_jdk_35_method_24_code_5 (pc' := 8) rfl ?_
  refine Go.lcmp_lt S d_jdk_35_method_24_code_8 (pc1 := 9) rfl d_jdk_35_method_24_code_9 (pt := 31) (by decide) (pc' := 12) rfl ?_ ?_
  · intro c8
    refine Go.new S (wd27 hw) (wd28 hw) (wd24 hw) d_jdk_35_method_24_code_31 (by decide) (by decide) (pc' := 34) rfl ?_
    intro T1 h1 a1 S1 E1 hg1 hz1 hk1 X1 D1
    have F1_value : Fld Z h1 a1 "java/lang/Long" "value" "J" (.long (0 : Int64)) := D1 (Or.inr (wd41 hw)) (ty := .long) (by decide)
    refine Go.dup S1 d_jdk_35_method_24_code_34 rfl (pc' := 35) rfl ?_
    refine Go.lloadN S1 d_jdk_35_method_24_code_35 rfl (pc' := 36) rfl ?_
    refine Go.invokespecial S1 (y := ⟨"java/lang/Long", "<init>", "(J)V"⟩) (rm_jdk_35_method_26_code hw a1 q S1.ext hz1 X1 F1_value) rfl rfl (wd29 hw) (wd30 hw) (wd24 hw) (wd32 hw) (by decide) d_jdk_35_method_24_code_36 rfl pd1 (argsL := [(.long q)]) rfl rfl rfl (by decide) (W := 1) rfl (by decide) (by decide) (by decide) (allS (Or.inr hk1) all0) (pc' := 39) rfl ?_
    intro v2 T2 h2 L2 S2 K2 q2
    obtain rfl := q2
    replace X1 := X1.keep K2
    show Go _ _ _ _ T2 (mkF m 39 #[.val (.long q), .second, .val (.int (128 : Int32))] [(.ref a1)])
    exact Go.areturn S2 rfl rfl rfl d_jdk_35_method_24_code_39 (by decide) (by decide) (⟨a1, rfl, X1⟩)
  · intro c8
    refine Go.lloadN S d_jdk_35_method_24_code_12 rfl (pc' := 13) rfl ?_
    refine Go.ldc2 S (wd45 hw) d_jdk_35_method_24_code_13 (pc' := 16) rfl ?_
    refine Go.lcmp_gt S d_jdk_35_method_24_code_16 (pc1 := 17) rfl d_jdk_35_method_24_code_17 (pt := 31) (by decide) (pc' := 20) rfl ?_ ?_
    · intro c16
      refine Go.new S (wd27 hw) (wd28 hw) (wd24 hw) d_jdk_35_method_24_code_31 (by decide) (by decide) (pc' := 34) rfl ?_
      intro T3 h3 a3 S3 E3 hg3 hz3 hk3 X3 D3
      have F3_value : Fld Z h3 a3 "java/lang/Long" "value" "J" (.long (0 : Int64)) := D3 (Or.inr (wd41 hw)) (ty := .long) (by decide)
      refine Go.dup S3 d_jdk_35_method_24_code_34 rfl (pc' := 35) rfl ?_
      refine Go.lloadN S3 d_jdk_35_method_24_code_35 rfl (pc' := 36) rfl ?_
      refine Go.invokespecial S3 (y := ⟨"java/lang/Long", "<init>", "(J)V"⟩) (rm_jdk_35_method_26_code hw a3 q S3.ext hz3 X3 F3_value) rfl rfl (wd29 hw) (wd30 hw) (wd24 hw) (wd32 hw) (by decide) d_jdk_35_method_24_code_36 rfl pd1 (argsL := [(.long q)]) rfl rfl rfl (by decide) (W := 1) rfl (by decide) (by decide) (by decide) (allS (Or.inr hk3) all0) (pc' := 39) rfl ?_
      intro v4 T4 h4 L4 S4 K4 q4
      obtain rfl := q4
      replace X3 := X3.keep K4
      show Go _ _ _ _ T4 (mkF m 39 #[.val (.long q), .second, .val (.int (128 : Int32))] [(.ref a3)])
      exact Go.areturn S4 rfl rfl rfl d_jdk_35_method_24_code_39 (by decide) (by decide) (⟨a3, rfl, X3⟩)
    · intro c16
      refine Go.getstatic S (host := "") (Or.inl (wd46 hw)) Via.refl hS d_jdk_35_method_24_code_20 (pc' := 23) rfl ?_
      intro T5 S5
      refine Go.lloadN S5 d_jdk_35_method_24_code_23 rfl (pc' := 24) rfl ?_
      refine Go.l2i S5 d_jdk_35_method_24_code_24 (pc' := 25) rfl ?_
      refine Go.sipush S5 (v := 128) d_jdk_35_method_24_code_25 rfl (pc' := 28) rfl ?_
      refine Go.iadd S5 d_jdk_35_method_24_code_28 (pc' := 29) rfl ?_
      have hix := own_idx c8 c16
      obtain ⟨be, hbe, Xbe⟩ := hels _ hix.2
      refine Go.aaloadA S5 (hA.ext S5.ext) rfl (fun q => q.elim hix.1 (fun q => by omega)) hbe d_jdk_35_method_24_code_29 (pc' := 30) rfl ?_
      exact Go.areturn S5 rfl rfl rfl d_jdk_35_method_24_code_30 (by decide) (by decide) (⟨be, rfl, Xbe.ext S5.ext⟩)
set_option maxRecDepth 65536 in
set_option maxHeartbeats 4000000 in
theorem rm_prog_36_method_1_code {l : Launch} {Z : State} {a0 : Array Value} (hw : HW Z a0) (a : Addr) (u0 : Int64) (u1 : Int64) (u2 : Int64)  {h0 : Heap} (hE : Ext Z.heap h0) (hz : Z.heap.size ≤ a) (E : Exa Z h0 a "com/example/strict_queue/strictqueue/storage/RecoveryPoint") (F_segment : Fld Z h0 a "com/example/strict_queue/strictqueue/storage/RecoveryPoint" "segment" "J" (.long 0)) (F_position : Fld Z h0 a "com/example/strict_queue/strictqueue/storage/RecoveryPoint" "position" "J" (.long 0)) (F_offset : Fld Z h0 a "com/example/strict_queue/strictqueue/storage/RecoveryPoint" "offset" "J" (.long 0)) :
    OMeets l Z (⟨"com/example/strict_queue/strictqueue/storage/RecoveryPoint", "<init>", "(JJJ)V"⟩ : MethodName) prog_36_method_1_code 7 none ({ frames := 1, cells := 0, slots := 0, locals := 12 } : Room) #[(.ref a), (.long u0), (.long u1), (.long u2)] h0 [a] (fun v h => v = none ∧ Fld Z h a "com/example/strict_queue/strictqueue/storage/RecoveryPoint" "segment" "J" (.long u0) ∧ Fld Z h a "com/example/strict_queue/strictqueue/storage/RecoveryPoint" "position" "J" (.long u1) ∧ Fld Z h a "com/example/strict_queue/strictqueue/storage/RecoveryPoint" "offset" "J" (.long u2)) := by
  refine OMeets.body (plainFor_of_name pn2) hE #[.val (.ref a), .val (.long u0), .second, .val (.long u1), .second, .val (.long u2), .second] (fun m => by first | rfl | (simp [entryFrame, mkF, argsToLocals, Value.category, maxLocals]; done)) ?_
  intro p e s m below meth co T S
  refine Go.aloadN S d_prog_36_method_1_code_0 rfl rfl (pc' := 1) rfl ?_
  refine Go.initObject S (wd6 hw) (wd7 hw) (wd8 hw) d_prog_36_method_1_code_1 rfl (by decide) (W := 0) rfl (by decide) (pc' := 4) rfl ?_
  intro T1 S1
  refine Go.aloadN S1 d_prog_36_method_1_code_4 rfl rfl (pc' := 5) rfl ?_
  refine Go.lloadN S1 d_prog_36_method_1_code_5 rfl (pc' := 6) rfl ?_
  refine Go.putfield S1 (host := "") (Or.inl (wd9 hw)) Via.refl F_segment E (Or.inr ⟨(wd10 hw), rfl, rfl⟩) (wd1 hw) (ty := .long) (by decide) rfl rfl hz (Or.inl (List.mem_singleton.mpr rfl)) d_prog_36_method_1_code_6 (pc' := 9) rfl ?_
  intro T2 h2 L2 S2 W2
  have F2 := F_segment.same W2
  replace F_position := F_position.other W2 (Or.inr (slot_ne (Or.inr (wd12 hw)) (Or.inr (wd10 hw)) (by decide) (t := .long) (t' := .long) (by decide) (by decide)))
  replace F_offset := F_offset.other W2 (Or.inr (slot_ne (Or.inr (wd14 hw)) (Or.inr (wd10 hw)) (by decide) (t := .long) (t' := .long) (by decide) (by decide)))
  replace E := E.wr W2
  refine Go.aloadN S2 d_prog_36_method_1_code_9 rfl rfl (pc' := 10) rfl ?_
  refine Go.lloadN S2 d_prog_36_method_1_code_10 rfl (pc' := 11) rfl ?_
  refine Go.putfield S2 (host := "") (Or.inl (wd11 hw)) Via.refl F_position E (Or.inr ⟨(wd12 hw), rfl, rfl⟩) (wd1 hw) (ty := .long) (by decide) rfl rfl hz (Or.inl (List.mem_singleton.mpr rfl)) d_prog_36_method_1_code_11 (pc' := 14) rfl ?_
  intro T3 h3 L3 S3 W3
  have F3 := F_position.same W3
  replace F_offset := F_offset.other W3 (Or.inr (slot_ne (Or.inr (wd14 hw)) (Or.inr (wd12 hw)) (by decide) (t := .long) (t' := .long) (by decide) (by decide)))
  replace F2 := F2.other W3 (Or.inr (slot_ne (Or.inr (wd10 hw)) (Or.inr (wd12 hw)) (by decide) (t := .long) (t' := .long) (by decide) (by decide)))
  replace E := E.wr W3
  refine Go.aloadN S3 d_prog_36_method_1_code_14 rfl rfl (pc' := 15) rfl ?_
  refine Go.lload S3 d_prog_36_method_1_code_15 rfl (pc' := 17) rfl ?_
  refine Go.putfield S3 (host := "") (Or.inl (wd13 hw)) Via.refl F_offset E (Or.inr ⟨(wd14 hw), rfl, rfl⟩) (wd1 hw) (ty := .long) (by decide) rfl rfl hz (Or.inl (List.mem_singleton.mpr rfl)) d_prog_36_method_1_code_17 (pc' := 20) rfl ?_
  intro T4 h4 L4 S4 W4
  have F4 := F_offset.same W4
  replace F2 := F2.other W4 (Or.inr (slot_ne (Or.inr (wd10 hw)) (Or.inr (wd14 hw)) (by decide) (t := .long) (t' := .long) (by decide) (by decide)))
  replace F3 := F3.other W4 (Or.inr (slot_ne (Or.inr (wd12 hw)) (Or.inr (wd14 hw)) (by decide) (t := .long) (t' := .long) (by decide) (by decide)))
  replace E := E.wr W4
  exact Go.vreturn S4 rfl d_prog_36_method_1_code_20 (by decide) (by decide) (⟨rfl, F2, F3, F4⟩)
set_option maxRecDepth 65536 in
set_option maxHeartbeats 4000000 in
theorem rm_eq {l : Launch} {Z : State} {a0 : Array Value} (hw : HW Z a0) (a : Addr) (b : Addr) (u0 u1 u2 w0 w1 w2 : Int64) {h0 : Heap} (hE : Ext Z.heap h0) (E : Exa Z h0 b "com/example/strict_queue/strictqueue/storage/RecoveryPoint") (Fa_segment : Fld Z h0 a "com/example/strict_queue/strictqueue/storage/RecoveryPoint" "segment" "J" (.long u0)) (Fa_position : Fld Z h0 a "com/example/strict_queue/strictqueue/storage/RecoveryPoint" "position" "J" (.long u1)) (Fa_offset : Fld Z h0 a "com/example/strict_queue/strictqueue/storage/RecoveryPoint" "offset" "J" (.long u2)) (Fb_segment : Fld Z h0 b "com/example/strict_queue/strictqueue/storage/RecoveryPoint" "segment" "J" (.long w0)) (Fb_position : Fld Z h0 b "com/example/strict_queue/strictqueue/storage/RecoveryPoint" "position" "J" (.long w1)) (Fb_offset : Fld Z h0 b "com/example/strict_queue/strictqueue/storage/RecoveryPoint" "offset" "J" (.long w2)) :
    OMeets l Z (⟨"com/example/strict_queue/strictqueue/storage/RecoveryPoint", "equals", "(Ljava/lang/Object;)Z"⟩ : MethodName) prog_36_method_5_code 2 (some .boolean) ({ frames := 0, cells := 0, slots := 0, locals := 0 } : Room) #[(.ref a), (.ref b)] h0 [] (fun v h => v = some (.int (if w0 = u0 ∧ w1 = u1 ∧ w2 = u2 then 1 else 0)) ∧ h0 = h) := by
  refine OMeets.body (plainFor_of_name pn2) hE #[.val (.ref a), .val (.ref b)] (fun m => by first | rfl | (simp [entryFrame, mkF, argsToLocals, Value.category, maxLocals]; done)) ?_
  intro p e s m below meth co T S
  refine Go.aloadN S d_prog_36_method_5_code_0 rfl rfl (pc' := 1) rfl ?_
  refine Go.instanceofY S (wd20 hw) (Ins.self E) d_prog_36_method_5_code_1 (pc' := 4) rfl ?_
  intro T1 S1
  refine Go.if_eq S1 d_prog_36_method_5_code_4 (pt := 56) (by decide) (pc' := 7) rfl ?_ ?_
  · intro c4; exact absurd c4 (by decide)
  · intro c4
    refine Go.aloadN S1 d_prog_36_method_5_code_7 rfl rfl (pc' := 8) rfl ?_
    refine Go.checkcast S1 (wd20 hw) (Ins.self E) d_prog_36_method_5_code_8 (pc' := 11) rfl ?_
    intro T2 S2
    refine Go.getfield S2 (host := "") (Or.inl (wd9 hw)) Via.refl Fb_segment d_prog_36_method_5_code_11 (pc' := 14) rfl ?_
    intro T3 S3
    refine Go.aloadN S3 d_prog_36_method_5_code_14 rfl rfl (pc' := 15) rfl ?_
    refine Go.getfield S3 (host := "") (Or.inl (wd9 hw)) Via.refl Fa_segment d_prog_36_method_5_code_15 (pc' := 18) rfl ?_
    intro T4 S4
    refine Go.lcmp_ne S4 d_prog_36_method_5_code_18 (pc1 := 19) rfl d_prog_36_method_5_code_19 (pt := 56) (by decide) (pc' := 22) rfl ?_ ?_
    · intro c18
      refine Go.iconst S4 (v := 0) d_prog_36_method_5_code_56 rfl (pc' := 57) rfl ?_
      exact Go.zreturn S4 rfl (by decide) d_prog_36_method_5_code_57 (z' := (0 : Int32)) rfl (by decide) (by decide) (⟨by rw [if_neg fun q => c18 q.1], rfl⟩)
    · intro c18
      refine Go.aloadN S4 d_prog_36_method_5_code_22 rfl rfl (pc' := 23) rfl ?_
      refine Go.checkcast S4 (wd20 hw) (Ins.self E) d_prog_36_method_5_code_23 (pc' := 26) rfl ?_
      intro T5 S5
      refine Go.getfield S5 (host := "") (Or.inl (wd11 hw)) Via.refl Fb_position d_prog_36_method_5_code_26 (pc' := 29) rfl ?_
      intro T6 S6
      refine Go.aloadN S6 d_prog_36_method_5_code_29 rfl rfl (pc' := 30) rfl ?_
      refine Go.getfield S6 (host := "") (Or.inl (wd11 hw)) Via.refl Fa_position d_prog_36_method_5_code_30 (pc' := 33) rfl ?_
      intro T7 S7
      refine Go.lcmp_ne S7 d_prog_36_method_5_code_33 (pc1 := 34) rfl d_prog_36_method_5_code_34 (pt := 56) (by decide) (pc' := 37) rfl ?_ ?_
      · intro c33
        refine Go.iconst S7 (v := 0) d_prog_36_method_5_code_56 rfl (pc' := 57) rfl ?_
        exact Go.zreturn S7 rfl (by decide) d_prog_36_method_5_code_57 (z' := (0 : Int32)) rfl (by decide) (by decide) (⟨by rw [if_neg fun q => c33 q.2.1], rfl⟩)
      · intro c33
        refine Go.aloadN S7 d_prog_36_method_5_code_37 rfl rfl (pc' := 38) rfl ?_
        refine Go.checkcast S7 (wd20 hw) (Ins.self E) d_prog_36_method_5_code_38 (pc' := 41) rfl ?_
        intro T8 S8
        refine Go.getfield S8 (host := "") (Or.inl (wd13 hw)) Via.refl Fb_offset d_prog_36_method_5_code_41 (pc' := 44) rfl ?_
        intro T9 S9
        refine Go.aloadN S9 d_prog_36_method_5_code_44 rfl rfl (pc' := 45) rfl ?_
        refine Go.getfield S9 (host := "") (Or.inl (wd13 hw)) Via.refl Fa_offset d_prog_36_method_5_code_45 (pc' := 48) rfl ?_
        intro T10 S10
        refine Go.lcmp_ne S10 d_prog_36_method_5_code_48 (pc1 := 49) rfl d_prog_36_method_5_code_49 (pt := 56) (by decide) (pc' := 52) rfl ?_ ?_
        · intro c48
          refine Go.iconst S10 (v := 0) d_prog_36_method_5_code_56 rfl (pc' := 57) rfl ?_
          exact Go.zreturn S10 rfl (by decide) d_prog_36_method_5_code_57 (z' := (0 : Int32)) rfl (by decide) (by decide) (⟨by rw [if_neg fun q => c48 q.2.2], rfl⟩)
        · intro c48
          refine Go.iconst S10 (v := 1) d_prog_36_method_5_code_52 rfl (pc' := 53) rfl ?_
          refine Go.goto S10 d_prog_36_method_5_code_53 (pc' := 57) (by decide) ?_
          exact Go.zreturn S10 rfl (by decide) d_prog_36_method_5_code_57 (z' := (1 : Int32)) rfl (by decide) (by decide) (⟨by rw [if_pos ⟨c18, c33, c48⟩], rfl⟩)
set_option maxRecDepth 65536 in
set_option maxHeartbeats 4000000 in
theorem rm_eqNull {l : Launch} {Z : State} {a0 : Array Value} (hw : HW Z a0) (a : Addr)  {h0 : Heap} (hE : Ext Z.heap h0) :
    OMeets l Z (⟨"com/example/strict_queue/strictqueue/storage/RecoveryPoint", "equals", "(Ljava/lang/Object;)Z"⟩ : MethodName) prog_36_method_5_code 2 (some .boolean) ({ frames := 0, cells := 0, slots := 0, locals := 0 } : Room) #[(.ref a), .null] h0 [] (fun v h => v = some (.int 0) ∧ h0 = h) := by
  refine OMeets.body (plainFor_of_name pn2) hE #[.val (.ref a), .val .null] (fun m => by first | rfl | (simp [entryFrame, mkF, argsToLocals, Value.category, maxLocals]; done)) ?_
  intro p e s m below meth co T S
  refine Go.aloadN S d_prog_36_method_5_code_0 rfl rfl (pc' := 1) rfl ?_
  refine Go.instanceofNull S  d_prog_36_method_5_code_1 (pc' := 4) rfl ?_
  refine Go.if_eq S d_prog_36_method_5_code_4 (pt := 56) (by decide) (pc' := 7) rfl ?_ ?_
  · intro c4
    refine Go.iconst S (v := 0) d_prog_36_method_5_code_56 rfl (pc' := 57) rfl ?_
    exact Go.zreturn S rfl (by decide) d_prog_36_method_5_code_57 (z' := (0 : Int32)) rfl (by decide) (by decide) (⟨rfl, rfl⟩)
  · intro c4; exact absurd (by decide) c4
set_option maxRecDepth 65536 in
set_option maxHeartbeats 4000000 in
theorem rm_eqLong {l : Launch} {Z : State} {a0 : Array Value} (hw : HW Z a0) (a : Addr) (b : Addr)  {h0 : Heap} (hE : Ext Z.heap h0) (E : Exa Z h0 b "java/lang/Long") :
    OMeets l Z (⟨"com/example/strict_queue/strictqueue/storage/RecoveryPoint", "equals", "(Ljava/lang/Object;)Z"⟩ : MethodName) prog_36_method_5_code 2 (some .boolean) ({ frames := 0, cells := 0, slots := 0, locals := 0 } : Room) #[(.ref a), (.ref b)] h0 [] (fun v h => v = some (.int 0) ∧ h0 = h) := by
  refine OMeets.body (plainFor_of_name pn2) hE #[.val (.ref a), .val (.ref b)] (fun m => by first | rfl | (simp [entryFrame, mkF, argsToLocals, Value.category, maxLocals]; done)) ?_
  intro p e s m below meth co T S
  refine Go.aloadN S d_prog_36_method_5_code_0 rfl rfl (pc' := 1) rfl ?_
  refine Go.instanceofN S (wd20 hw) E (own_notLong hw) d_prog_36_method_5_code_1 (pc' := 4) rfl ?_
  intro T1 S1
  refine Go.if_eq S1 d_prog_36_method_5_code_4 (pt := 56) (by decide) (pc' := 7) rfl ?_ ?_
  · intro c4
    refine Go.iconst S1 (v := 0) d_prog_36_method_5_code_56 rfl (pc' := 57) rfl ?_
    exact Go.zreturn S1 rfl (by decide) d_prog_36_method_5_code_57 (z' := (0 : Int32)) rfl (by decide) (by decide) (⟨rfl, rfl⟩)
  · intro c4; exact absurd (by decide) c4
set_option maxRecDepth 65536 in
set_option maxHeartbeats 4000000 in
theorem j0_57 {p : Program} {l : Launch} {e : Env} {s : State} {m : MethodId} {args : Array Value} {below : List Frame} {meth : Method} {co : Code} {Z : State} {a0 : Array Value} (hw : HW Z a0) (t1 t2 t3 y1 y2 : Int64) (mode : Int32) (oa : Addr) (s2 p2 o2 : Int64) {h0 h : Heap} {T : State} {locs : List Loc} (S : St p l e room_1 s m args below meth co Z x.cls code maxLocals ret x.name h0 [] T h locs 1 3) (hC : LongCache Z) (Xa : Exa Z h oa "com/example/strict_queue/strictqueue/storage/RecoveryPoint") (Fa0 : Fld Z h oa "com/example/strict_queue/strictqueue/storage/RecoveryPoint" "segment" "J" (.long t1)) (Fa1 : Fld Z h oa "com/example/strict_queue/strictqueue/storage/RecoveryPoint" "position" "J" (.long t2)) (Fa2 : Fld Z h oa "com/example/strict_queue/strictqueue/storage/RecoveryPoint" "offset" "J" (.long t3)) :
    Go p e below (PostOf Z s h0 [] room_1.cells room_1.slots (fun v h => v = some (.int 1))) T (mkF m 57 #[.val (.long t1), .second, .val (.long t2), .second, .val (.long t3), .second, .val (.long y1), .second, .val (.long y2), .second, .val (.int mode), .val (.ref oa), .val (.long s2), .second, .val (.long p2), .second, .unset, .unset, .unset, .unset, .unset] [(.long o2)]) := by
  refine Go.lstore S at_57 (Ls' := #[.val (.long t1), .second, .val (.long t2), .second, .val (.long t3), .second, .val (.long y1), .second, .val (.long y2), .second, .val (.int mode), .val (.ref oa), .val (.long s2), .second, .val (.long p2), .second, .val (.long o2), .second, .unset, .unset, .unset]) rfl (pc' := 59) rfl ?_
  refine Go.new S (wd0 hw) (wd1 hw) (wd2 hw) at_59 (by decide) (by decide) (pc' := 62) rfl ?_
  intro T1 h1 a1 S1 E1 hg1 hz1 hk1 X1 D1
  have n_oa_a1 : oa ≠ a1 := Nat.ne_of_lt (Nat.lt_of_lt_of_le Xa.lt (Nat.le_of_eq hg1))
  replace Xa := Xa.ext E1
  replace Fa0 := Fa0.ext E1
  replace Fa1 := Fa1.ext E1
  replace Fa2 := Fa2.ext E1
  have F1_segment : Fld Z h1 a1 "com/example/strict_queue/strictqueue/storage/RecoveryPoint" "segment" "J" (.long (0 : Int64)) := D1 (Or.inr (wd10 hw)) (ty := .long) (by decide)
  have F1_position : Fld Z h1 a1 "com/example/strict_queue/strictqueue/storage/RecoveryPoint" "position" "J" (.long (0 : Int64)) := D1 (Or.inr (wd12 hw)) (ty := .long) (by decide)
  have F1_offset : Fld Z h1 a1 "com/example/strict_queue/strictqueue/storage/RecoveryPoint" "offset" "J" (.long (0 : Int64)) := D1 (Or.inr (wd14 hw)) (ty := .long) (by decide)
  refine Go.dup S1 at_62 rfl (pc' := 63) rfl ?_
  refine Go.lload S1 at_63 rfl (pc' := 65) rfl ?_
  refine Go.lload S1 at_65 rfl (pc' := 67) rfl ?_
  refine Go.lload S1 at_67 rfl (pc' := 69) rfl ?_
  refine Go.invokespecial S1 (y := ⟨"com/example/strict_queue/strictqueue/storage/RecoveryPoint", "<init>", "(JJJ)V"⟩) (rm_prog_36_method_1_code hw a1 s2 p2 o2 S1.ext hz1 X1 F1_segment F1_position F1_offset) rfl rfl (wd3 hw) (wd4 hw) (wd2 hw) (wd5 hw) (by decide) at_69 rfl pd2 (argsL := [(.long s2), (.long p2), (.long o2)]) rfl rfl rfl (by decide) (W := 1) rfl (by decide) (by decide) (by decide) (allS (Or.inr hk1) all0) (pc' := 72) rfl ?_
  intro v2 T2 h2 L2 S2 K2 q2
  obtain ⟨rfl, G2_segment, G2_position, G2_offset⟩ := q2
  replace Xa := Xa.keep K2
  replace Fa0 := Fa0.keep K2 (ninS n_oa_a1 nin0)
  replace Fa1 := Fa1.keep K2 (ninS n_oa_a1 nin0)
  replace Fa2 := Fa2.keep K2 (ninS n_oa_a1 nin0)
  replace X1 := X1.keep K2
  show Go _ _ _ _ T2 (mkF m 72 #[.val (.long t1), .second, .val (.long t2), .second, .val (.long t3), .second, .val (.long y1), .second, .val (.long y2), .second, .val (.int mode), .val (.ref oa), .val (.long s2), .second, .val (.long p2), .second, .val (.long o2), .second, .unset, .unset, .unset] [(.ref a1)])
  refine Go.astore S2 at_72 rfl (Ls' := #[.val (.long t1), .second, .val (.long t2), .second, .val (.long t3), .second, .val (.long y1), .second, .val (.long y2), .second, .val (.int mode), .val (.ref oa), .val (.long s2), .second, .val (.long p2), .second, .val (.long o2), .second, .val (.ref a1), .unset, .unset]) rfl (pc' := 74) rfl ?_
  refine Go.lloadN S2 at_74 rfl (pc' := 75) rfl ?_
  refine Go.lload S2 at_75 rfl (pc' := 77) rfl ?_
  refine Go.lcmp_ne S2 at_77 (pc1 := 78) rfl at_78 (pt := 100) (by decide) (pc' := 81) rfl ?_ ?_
  · intro c77
    refine Go.iconst S2 (v := 0) at_100 rfl (pc' := 101) rfl ?_
    refine Go.istore S2 at_101 (Ls' := #[.val (.long t1), .second, .val (.long t2), .second, .val (.long t3), .second, .val (.long y1), .second, .val (.long y2), .second, .val (.int mode), .val (.ref oa), .val (.long s2), .second, .val (.long p2), .second, .val (.long o2), .second, .val (.ref a1), .val (.int (0 : Int32)), .unset]) rfl (pc' := 103) rfl ?_
    refine Go.iload S2 at_103 rfl (pc' := 105) rfl ?_
    refine Go.iconst S2 (v := 3) at_105 rfl (pc' := 106) rfl ?_
    refine Go.iushr S2 at_106 (pc' := 107) rfl ?_
    refine Go.iconst S2 (v := 3) at_107 rfl (pc' := 108) rfl ?_
    refine Go.iand S2 at_108 (pc' := 109) rfl ?_
    refine Go.istore S2 at_109 (Ls' := #[.val (.long t1), .second, .val (.long t2), .second, .val (.long t3), .second, .val (.long y1), .second, .val (.long y2), .second, .val (.int mode), .val (.ref oa), .val (.long s2), .second, .val (.long p2), .second, .val (.long o2), .second, .val (.ref a1), .val (.int (0 : Int32)), .val (.int (((mode.toUInt32 >>> ((3 : Int32) &&& 31).toUInt32).toInt32) &&& (3 : Int32)))]) rfl (pc' := 111) rfl ?_
    generalize h_kind : (((mode.toUInt32 >>> ((3 : Int32) &&& 31).toUInt32).toInt32) &&& (3 : Int32)) = kind
    refine Go.iload S2 at_111 rfl (pc' := 113) rfl ?_
    refine Go.if_ne S2 at_113 (pt := 146) (by decide) (pc' := 116) rfl ?_ ?_
    · intro c113
      refine Go.iload S2 at_146 rfl (pc' := 148) rfl ?_
      refine Go.iconst S2 (v := 1) at_148 rfl (pc' := 149) rfl ?_
      refine Go.icmp_ne S2 at_149 (pt := 167) (by decide) (pc' := 152) rfl ?_ ?_
      · intro c149
        refine Go.iload S2 at_167 rfl (pc' := 169) rfl ?_
        refine Go.iconst S2 (v := 2) at_169 rfl (pc' := 170) rfl ?_
        refine Go.icmp_ne S2 at_170 (pt := 191) (by decide) (pc' := 173) rfl ?_ ?_
        · intro c170
          refine Go.aload S2 at_191 rfl rfl (pc' := 193) rfl ?_
          refine Go.aload S2 at_193 rfl rfl (pc' := 195) rfl ?_
          refine Go.invokevirtual S2 (y := ⟨"com/example/strict_queue/strictqueue/storage/RecoveryPoint", "equals", "(Ljava/lang/Object;)Z"⟩) (rm_eq hw oa oa t1 t2 t3 t1 t2 t3 S2.ext Xa Fa0 Fa1 Fa2 Fa0 Fa1 Fa2) (wd15 hw) (wd16 hw) (S2.nf (wd18 hw)) (wd18 hw) (wd17 hw) (wd2 hw) (wd19 hw) (by decide) Xa at_195 rfl pd3 (argsL := [(.ref oa)]) rfl rfl rfl (by decide) (W := 0) rfl (by decide) (by decide) (by decide) all0 (pc' := 198) rfl ?_
          intro v3 T3 h3 L3 S3 K3 q3
          rw [if_pos ⟨rfl, rfl, rfl⟩] at q3
          obtain ⟨rfl, rfl⟩ := q3
          show Go _ _ _ _ T3 (mkF m 198 #[.val (.long t1), .second, .val (.long t2), .second, .val (.long t3), .second, .val (.long y1), .second, .val (.long y2), .second, .val (.int mode), .val (.ref oa), .val (.long s2), .second, .val (.long p2), .second, .val (.long o2), .second, .val (.ref a1), .val (.int (0 : Int32)), .val (.int kind)] [(.int (1 : Int32))])
          exact Go.zreturn S3 rfl (by decide) at_198 (z' := (1 : Int32)) rfl (by decide) (by decide) (rfl)
        · intro c170
          refine Go.aload S2 at_173 rfl rfl (pc' := 175) rfl ?_
          refine Go.lloadN S2 at_175 rfl (pc' := 176) rfl ?_
          refine Go.invokestatic S2 (y := ⟨"java/lang/Long", "valueOf", "(J)Ljava/lang/Long;"⟩) (rm_jdk_35_method_24_code hw t1 S2.ext hC) (wd22 hw) (wd23 hw) (wd24 hw) (wd25 hw) (by decide) at_176 rfl pd4 (argsL := [(.long t1)]) rfl rfl rfl (by decide) (W := 1) rfl (by decide) (by decide) (by decide) all0 (pc' := 179) rfl ?_
          intro v4 T4 h4 L4 S4 K4 q4
          obtain ⟨r4, rfl, XL4⟩ := q4
          replace Xa := Xa.keep K4
          replace Fa0 := Fa0.keep K4 nin0
          replace Fa1 := Fa1.keep K4 nin0
          replace Fa2 := Fa2.keep K4 nin0
          replace X1 := X1.keep K4
          replace G2_segment := G2_segment.keep K4 nin0
          replace G2_position := G2_position.keep K4 nin0
          replace G2_offset := G2_offset.keep K4 nin0
          show Go _ _ _ _ T4 (mkF m 179 #[.val (.long t1), .second, .val (.long t2), .second, .val (.long t3), .second, .val (.long y1), .second, .val (.long y2), .second, .val (.int mode), .val (.ref oa), .val (.long s2), .second, .val (.long p2), .second, .val (.long o2), .second, .val (.ref a1), .val (.int (0 : Int32)), .val (.int kind)] [(.ref r4), (.ref oa)])
          refine Go.invokevirtual S4 (y := ⟨"com/example/strict_queue/strictqueue/storage/RecoveryPoint", "equals", "(Ljava/lang/Object;)Z"⟩) (rm_eqLong hw oa r4 S4.ext XL4) (wd15 hw) (wd16 hw) (S4.nf (wd18 hw)) (wd18 hw) (wd17 hw) (wd2 hw) (wd19 hw) (by decide) Xa at_179 rfl pd3 (argsL := [(.ref r4)]) rfl rfl rfl (by decide) (W := 0) rfl (by decide) (by decide) (by decide) all0 (pc' := 182) rfl ?_
          intro v5 T5 h5 L5 S5 K5 q5
          obtain ⟨rfl, rfl⟩ := q5
          show Go _ _ _ _ T5 (mkF m 182 #[.val (.long t1), .second, .val (.long t2), .second, .val (.long t3), .second, .val (.long y1), .second, .val (.long y2), .second, .val (.int mode), .val (.ref oa), .val (.long s2), .second, .val (.long p2), .second, .val (.long o2), .second, .val (.ref a1), .val (.int (0 : Int32)), .val (.int kind)] [(.int (0 : Int32))])
          refine Go.if_ne S5 at_182 (pt := 189) (by decide) (pc' := 185) rfl ?_ ?_
          · intro c182; exact absurd (by decide) c182
          · intro c182
            refine Go.iconst S5 (v := 1) at_185 rfl (pc' := 186) rfl ?_
            refine Go.goto S5 at_186 (pc' := 190) (by decide) ?_
            exact Go.zreturn S5 rfl (by decide) at_190 (z' := (1 : Int32)) rfl (by decide) (by decide) (rfl)
      · intro c149
        refine Go.aload S2 at_152 rfl rfl (pc' := 154) rfl ?_
        refine Go.aconst_null S2 at_154 (pc' := 155) rfl ?_
        refine Go.invokevirtual S2 (y := ⟨"com/example/strict_queue/strictqueue/storage/RecoveryPoint", "equals", "(Ljava/lang/Object;)Z"⟩) (rm_eqNull hw oa S2.ext) (wd15 hw) (wd16 hw) (S2.nf (wd18 hw)) (wd18 hw) (wd17 hw) (wd2 hw) (wd19 hw) (by decide) Xa at_155 rfl pd3 (argsL := [.null]) rfl rfl rfl (by decide) (W := 0) rfl (by decide) (by decide) (by decide) all0 (pc' := 158) rfl ?_
        intro v6 T6 h6 L6 S6 K6 q6
        obtain ⟨rfl, rfl⟩ := q6
        show Go _ _ _ _ T6 (mkF m 158 #[.val (.long t1), .second, .val (.long t2), .second, .val (.long t3), .second, .val (.long y1), .second, .val (.long y2), .second, .val (.int mode), .val (.ref oa), .val (.long s2), .second, .val (.long p2), .second, .val (.long o2), .second, .val (.ref a1), .val (.int (0 : Int32)), .val (.int kind)] [(.int (0 : Int32))])
        refine Go.if_ne S6 at_158 (pt := 165) (by decide) (pc' := 161) rfl ?_ ?_
        · intro c158; exact absurd (by decide) c158
        · intro c158
          refine Go.iconst S6 (v := 1) at_161 rfl (pc' := 162) rfl ?_
          refine Go.goto S6 at_162 (pc' := 166) (by decide) ?_
          exact Go.zreturn S6 rfl (by decide) at_166 (z' := (1 : Int32)) rfl (by decide) (by decide) (rfl)
    · intro c113
      refine Go.aload S2 at_116 rfl rfl (pc' := 118) rfl ?_
      refine Go.aload S2 at_118 rfl rfl (pc' := 120) rfl ?_
      refine Go.invokevirtual S2 (y := ⟨"com/example/strict_queue/strictqueue/storage/RecoveryPoint", "equals", "(Ljava/lang/Object;)Z"⟩) (rm_eq hw oa a1 t1 t2 t3 s2 p2 o2 S2.ext X1 Fa0 Fa1 Fa2 G2_segment G2_position G2_offset) (wd15 hw) (wd16 hw) (S2.nf (wd18 hw)) (wd18 hw) (wd17 hw) (wd2 hw) (wd19 hw) (by decide) Xa at_120 rfl pd3 (argsL := [(.ref a1)]) rfl rfl rfl (by decide) (W := 0) rfl (by decide) (by decide) (by decide) all0 (pc' := 123) rfl ?_
      intro v7 T7 h7 L7 S7 K7 q7
      rw [if_neg (fun q => c77 (q.1).symm)] at q7
      obtain ⟨rfl, rfl⟩ := q7
      show Go _ _ _ _ T7 (mkF m 123 #[.val (.long t1), .second, .val (.long t2), .second, .val (.long t3), .second, .val (.long y1), .second, .val (.long y2), .second, .val (.int mode), .val (.ref oa), .val (.long s2), .second, .val (.long p2), .second, .val (.long o2), .second, .val (.ref a1), .val (.int (0 : Int32)), .val (.int kind)] [(.int (0 : Int32))])
      refine Go.iload S7 at_123 rfl (pc' := 125) rfl ?_
      refine Go.icmp_ne S7 at_125 (pt := 144) (by decide) (pc' := 128) rfl ?_ ?_
      · intro c125; exact absurd (by decide) c125
      · intro c125
        refine Go.aload S7 at_128 rfl rfl (pc' := 130) rfl ?_
        refine Go.aload S7 at_130 rfl rfl (pc' := 132) rfl ?_
        refine Go.invokevirtual S7 (y := ⟨"com/example/strict_queue/strictqueue/storage/RecoveryPoint", "equals", "(Ljava/lang/Object;)Z"⟩) (rm_eq hw a1 oa s2 p2 o2 t1 t2 t3 S7.ext Xa G2_segment G2_position G2_offset Fa0 Fa1 Fa2) (wd15 hw) (wd16 hw) (S7.nf (wd18 hw)) (wd18 hw) (wd17 hw) (wd2 hw) (wd19 hw) (by decide) X1 at_132 rfl pd3 (argsL := [(.ref oa)]) rfl rfl rfl (by decide) (W := 0) rfl (by decide) (by decide) (by decide) all0 (pc' := 135) rfl ?_
        intro v8 T8 h8 L8 S8 K8 q8
        rw [if_neg (fun q => c77 q.1)] at q8
        obtain ⟨rfl, rfl⟩ := q8
        show Go _ _ _ _ T8 (mkF m 135 #[.val (.long t1), .second, .val (.long t2), .second, .val (.long t3), .second, .val (.long y1), .second, .val (.long y2), .second, .val (.int mode), .val (.ref oa), .val (.long s2), .second, .val (.long p2), .second, .val (.long o2), .second, .val (.ref a1), .val (.int (0 : Int32)), .val (.int kind)] [(.int (0 : Int32))])
        refine Go.iload S8 at_135 rfl (pc' := 137) rfl ?_
        refine Go.icmp_ne S8 at_137 (pt := 144) (by decide) (pc' := 140) rfl ?_ ?_
        · intro c137; exact absurd (by decide) c137
        · intro c137
          refine Go.iconst S8 (v := 1) at_140 rfl (pc' := 141) rfl ?_
          refine Go.goto S8 at_141 (pc' := 145) (by decide) ?_
          exact Go.zreturn S8 rfl (by decide) at_145 (z' := (1 : Int32)) rfl (by decide) (by decide) (rfl)
  · intro c77
    refine Go.lloadN S2 at_81 rfl (pc' := 82) rfl ?_
    refine Go.lload S2 at_82 rfl (pc' := 84) rfl ?_
    refine Go.lcmp_ne S2 at_84 (pc1 := 85) rfl at_85 (pt := 100) (by decide) (pc' := 88) rfl ?_ ?_
    · intro c84
      refine Go.iconst S2 (v := 0) at_100 rfl (pc' := 101) rfl ?_
      refine Go.istore S2 at_101 (Ls' := #[.val (.long t1), .second, .val (.long t2), .second, .val (.long t3), .second, .val (.long y1), .second, .val (.long y2), .second, .val (.int mode), .val (.ref oa), .val (.long s2), .second, .val (.long p2), .second, .val (.long o2), .second, .val (.ref a1), .val (.int (0 : Int32)), .unset]) rfl (pc' := 103) rfl ?_
      refine Go.iload S2 at_103 rfl (pc' := 105) rfl ?_
      refine Go.iconst S2 (v := 3) at_105 rfl (pc' := 106) rfl ?_
      refine Go.iushr S2 at_106 (pc' := 107) rfl ?_
      refine Go.iconst S2 (v := 3) at_107 rfl (pc' := 108) rfl ?_
      refine Go.iand S2 at_108 (pc' := 109) rfl ?_
      refine Go.istore S2 at_109 (Ls' := #[.val (.long t1), .second, .val (.long t2), .second, .val (.long t3), .second, .val (.long y1), .second, .val (.long y2), .second, .val (.int mode), .val (.ref oa), .val (.long s2), .second, .val (.long p2), .second, .val (.long o2), .second, .val (.ref a1), .val (.int (0 : Int32)), .val (.int (((mode.toUInt32 >>> ((3 : Int32) &&& 31).toUInt32).toInt32) &&& (3 : Int32)))]) rfl (pc' := 111) rfl ?_
      generalize h_kind : (((mode.toUInt32 >>> ((3 : Int32) &&& 31).toUInt32).toInt32) &&& (3 : Int32)) = kind
      refine Go.iload S2 at_111 rfl (pc' := 113) rfl ?_
      refine Go.if_ne S2 at_113 (pt := 146) (by decide) (pc' := 116) rfl ?_ ?_
      · intro c113
        refine Go.iload S2 at_146 rfl (pc' := 148) rfl ?_
        refine Go.iconst S2 (v := 1) at_148 rfl (pc' := 149) rfl ?_
        refine Go.icmp_ne S2 at_149 (pt := 167) (by decide) (pc' := 152) rfl ?_ ?_
        · intro c149
          refine Go.iload S2 at_167 rfl (pc' := 169) rfl ?_
          refine Go.iconst S2 (v := 2) at_169 rfl (pc' := 170) rfl ?_
          refine Go.icmp_ne S2 at_170 (pt := 191) (by decide) (pc' := 173) rfl ?_ ?_
          · intro c170
            refine Go.aload S2 at_191 rfl rfl (pc' := 193) rfl ?_
            refine Go.aload S2 at_193 rfl rfl (pc' := 195) rfl ?_
            refine Go.invokevirtual S2 (y := ⟨"com/example/strict_queue/strictqueue/storage/RecoveryPoint", "equals", "(Ljava/lang/Object;)Z"⟩) (rm_eq hw oa oa t1 t2 t3 t1 t2 t3 S2.ext Xa Fa0 Fa1 Fa2 Fa0 Fa1 Fa2) (wd15 hw) (wd16 hw) (S2.nf (wd18 hw)) (wd18 hw) (wd17 hw) (wd2 hw) (wd19 hw) (by decide) Xa at_195 rfl pd3 (argsL := [(.ref oa)]) rfl rfl rfl (by decide) (W := 0) rfl (by decide) (by decide) (by decide) all0 (pc' := 198) rfl ?_
            intro v9 T9 h9 L9 S9 K9 q9
            rw [if_pos ⟨rfl, rfl, rfl⟩] at q9
            obtain ⟨rfl, rfl⟩ := q9
            show Go _ _ _ _ T9 (mkF m 198 #[.val (.long t1), .second, .val (.long t2), .second, .val (.long t3), .second, .val (.long y1), .second, .val (.long y2), .second, .val (.int mode), .val (.ref oa), .val (.long s2), .second, .val (.long p2), .second, .val (.long o2), .second, .val (.ref a1), .val (.int (0 : Int32)), .val (.int kind)] [(.int (1 : Int32))])
            exact Go.zreturn S9 rfl (by decide) at_198 (z' := (1 : Int32)) rfl (by decide) (by decide) (rfl)
          · intro c170
            refine Go.aload S2 at_173 rfl rfl (pc' := 175) rfl ?_
            refine Go.lloadN S2 at_175 rfl (pc' := 176) rfl ?_
            refine Go.invokestatic S2 (y := ⟨"java/lang/Long", "valueOf", "(J)Ljava/lang/Long;"⟩) (rm_jdk_35_method_24_code hw t1 S2.ext hC) (wd22 hw) (wd23 hw) (wd24 hw) (wd25 hw) (by decide) at_176 rfl pd4 (argsL := [(.long t1)]) rfl rfl rfl (by decide) (W := 1) rfl (by decide) (by decide) (by decide) all0 (pc' := 179) rfl ?_
            intro v10 T10 h10 L10 S10 K10 q10
            obtain ⟨r10, rfl, XL10⟩ := q10
            replace Xa := Xa.keep K10
            replace Fa0 := Fa0.keep K10 nin0
            replace Fa1 := Fa1.keep K10 nin0
            replace Fa2 := Fa2.keep K10 nin0
            replace X1 := X1.keep K10
            replace G2_segment := G2_segment.keep K10 nin0
            replace G2_position := G2_position.keep K10 nin0
            replace G2_offset := G2_offset.keep K10 nin0
            show Go _ _ _ _ T10 (mkF m 179 #[.val (.long t1), .second, .val (.long t2), .second, .val (.long t3), .second, .val (.long y1), .second, .val (.long y2), .second, .val (.int mode), .val (.ref oa), .val (.long s2), .second, .val (.long p2), .second, .val (.long o2), .second, .val (.ref a1), .val (.int (0 : Int32)), .val (.int kind)] [(.ref r10), (.ref oa)])
            refine Go.invokevirtual S10 (y := ⟨"com/example/strict_queue/strictqueue/storage/RecoveryPoint", "equals", "(Ljava/lang/Object;)Z"⟩) (rm_eqLong hw oa r10 S10.ext XL10) (wd15 hw) (wd16 hw) (S10.nf (wd18 hw)) (wd18 hw) (wd17 hw) (wd2 hw) (wd19 hw) (by decide) Xa at_179 rfl pd3 (argsL := [(.ref r10)]) rfl rfl rfl (by decide) (W := 0) rfl (by decide) (by decide) (by decide) all0 (pc' := 182) rfl ?_
            intro v11 T11 h11 L11 S11 K11 q11
            obtain ⟨rfl, rfl⟩ := q11
            show Go _ _ _ _ T11 (mkF m 182 #[.val (.long t1), .second, .val (.long t2), .second, .val (.long t3), .second, .val (.long y1), .second, .val (.long y2), .second, .val (.int mode), .val (.ref oa), .val (.long s2), .second, .val (.long p2), .second, .val (.long o2), .second, .val (.ref a1), .val (.int (0 : Int32)), .val (.int kind)] [(.int (0 : Int32))])
            refine Go.if_ne S11 at_182 (pt := 189) (by decide) (pc' := 185) rfl ?_ ?_
            · intro c182; exact absurd (by decide) c182
            · intro c182
              refine Go.iconst S11 (v := 1) at_185 rfl (pc' := 186) rfl ?_
              refine Go.goto S11 at_186 (pc' := 190) (by decide) ?_
              exact Go.zreturn S11 rfl (by decide) at_190 (z' := (1 : Int32)) rfl (by decide) (by decide) (rfl)
        · intro c149
          refine Go.aload S2 at_152 rfl rfl (pc' := 154) rfl ?_
          refine Go.aconst_null S2 at_154 (pc' := 155) rfl ?_
          refine Go.invokevirtual S2 (y := ⟨"com/example/strict_queue/strictqueue/storage/RecoveryPoint", "equals", "(Ljava/lang/Object;)Z"⟩) (rm_eqNull hw oa S2.ext) (wd15 hw) (wd16 hw) (S2.nf (wd18 hw)) (wd18 hw) (wd17 hw) (wd2 hw) (wd19 hw) (by decide) Xa at_155 rfl pd3 (argsL := [.null]) rfl rfl rfl (by decide) (W := 0) rfl (by decide) (by decide) (by decide) all0 (pc' := 158) rfl ?_
          intro v12 T12 h12 L12 S12 K12 q12
          obtain ⟨rfl, rfl⟩ := q12
          show Go _ _ _ _ T12 (mkF m 158 #[.val (.long t1), .second, .val (.long t2), .second, .val (.long t3), .second, .val (.long y1), .second, .val (.long y2), .second, .val (.int mode), .val (.ref oa), .val (.long s2), .second, .val (.long p2), .second, .val (.long o2), .second, .val (.ref a1), .val (.int (0 : Int32)), .val (.int kind)] [(.int (0 : Int32))])
          refine Go.if_ne S12 at_158 (pt := 165) (by decide) (pc' := 161) rfl ?_ ?_
          · intro c158; exact absurd (by decide) c158
          · intro c158
            refine Go.iconst S12 (v := 1) at_161 rfl (pc' := 162) rfl ?_
            refine Go.goto S12 at_162 (pc' := 166) (by decide) ?_
            exact Go.zreturn S12 rfl (by decide) at_166 (z' := (1 : Int32)) rfl (by decide) (by decide) (rfl)
      · intro c113
        refine Go.aload S2 at_116 rfl rfl (pc' := 118) rfl ?_
        refine Go.aload S2 at_118 rfl rfl (pc' := 120) rfl ?_
        refine Go.invokevirtual S2 (y := ⟨"com/example/strict_queue/strictqueue/storage/RecoveryPoint", "equals", "(Ljava/lang/Object;)Z"⟩) (rm_eq hw oa a1 t1 t2 t3 s2 p2 o2 S2.ext X1 Fa0 Fa1 Fa2 G2_segment G2_position G2_offset) (wd15 hw) (wd16 hw) (S2.nf (wd18 hw)) (wd18 hw) (wd17 hw) (wd2 hw) (wd19 hw) (by decide) Xa at_120 rfl pd3 (argsL := [(.ref a1)]) rfl rfl rfl (by decide) (W := 0) rfl (by decide) (by decide) (by decide) all0 (pc' := 123) rfl ?_
        intro v13 T13 h13 L13 S13 K13 q13
        rw [if_neg (fun q => c84 (q.2.1).symm)] at q13
        obtain ⟨rfl, rfl⟩ := q13
        show Go _ _ _ _ T13 (mkF m 123 #[.val (.long t1), .second, .val (.long t2), .second, .val (.long t3), .second, .val (.long y1), .second, .val (.long y2), .second, .val (.int mode), .val (.ref oa), .val (.long s2), .second, .val (.long p2), .second, .val (.long o2), .second, .val (.ref a1), .val (.int (0 : Int32)), .val (.int kind)] [(.int (0 : Int32))])
        refine Go.iload S13 at_123 rfl (pc' := 125) rfl ?_
        refine Go.icmp_ne S13 at_125 (pt := 144) (by decide) (pc' := 128) rfl ?_ ?_
        · intro c125; exact absurd (by decide) c125
        · intro c125
          refine Go.aload S13 at_128 rfl rfl (pc' := 130) rfl ?_
          refine Go.aload S13 at_130 rfl rfl (pc' := 132) rfl ?_
          refine Go.invokevirtual S13 (y := ⟨"com/example/strict_queue/strictqueue/storage/RecoveryPoint", "equals", "(Ljava/lang/Object;)Z"⟩) (rm_eq hw a1 oa s2 p2 o2 t1 t2 t3 S13.ext Xa G2_segment G2_position G2_offset Fa0 Fa1 Fa2) (wd15 hw) (wd16 hw) (S13.nf (wd18 hw)) (wd18 hw) (wd17 hw) (wd2 hw) (wd19 hw) (by decide) X1 at_132 rfl pd3 (argsL := [(.ref oa)]) rfl rfl rfl (by decide) (W := 0) rfl (by decide) (by decide) (by decide) all0 (pc' := 135) rfl ?_
          intro v14 T14 h14 L14 S14 K14 q14
          rw [if_neg (fun q => c84 q.2.1)] at q14
          obtain ⟨rfl, rfl⟩ := q14
          show Go _ _ _ _ T14 (mkF m 135 #[.val (.long t1), .second, .val (.long t2), .second, .val (.long t3), .second, .val (.long y1), .second, .val (.long y2), .second, .val (.int mode), .val (.ref oa), .val (.long s2), .second, .val (.long p2), .second, .val (.long o2), .second, .val (.ref a1), .val (.int (0 : Int32)), .val (.int kind)] [(.int (0 : Int32))])
          refine Go.iload S14 at_135 rfl (pc' := 137) rfl ?_
          refine Go.icmp_ne S14 at_137 (pt := 144) (by decide) (pc' := 140) rfl ?_ ?_
          · intro c137; exact absurd (by decide) c137
          · intro c137
            refine Go.iconst S14 (v := 1) at_140 rfl (pc' := 141) rfl ?_
            refine Go.goto S14 at_141 (pc' := 145) (by decide) ?_
            exact Go.zreturn S14 rfl (by decide) at_145 (z' := (1 : Int32)) rfl (by decide) (by decide) (rfl)
    · intro c84
      refine Go.lload S2 at_88 rfl (pc' := 90) rfl ?_
      refine Go.lload S2 at_90 rfl (pc' := 92) rfl ?_
      refine Go.lcmp_ne S2 at_92 (pc1 := 93) rfl at_93 (pt := 100) (by decide) (pc' := 96) rfl ?_ ?_
      · intro c92
        refine Go.iconst S2 (v := 0) at_100 rfl (pc' := 101) rfl ?_
        refine Go.istore S2 at_101 (Ls' := #[.val (.long t1), .second, .val (.long t2), .second, .val (.long t3), .second, .val (.long y1), .second, .val (.long y2), .second, .val (.int mode), .val (.ref oa), .val (.long s2), .second, .val (.long p2), .second, .val (.long o2), .second, .val (.ref a1), .val (.int (0 : Int32)), .unset]) rfl (pc' := 103) rfl ?_
        refine Go.iload S2 at_103 rfl (pc' := 105) rfl ?_
        refine Go.iconst S2 (v := 3) at_105 rfl (pc' := 106) rfl ?_
        refine Go.iushr S2 at_106 (pc' := 107) rfl ?_
        refine Go.iconst S2 (v := 3) at_107 rfl (pc' := 108) rfl ?_
        refine Go.iand S2 at_108 (pc' := 109) rfl ?_
        refine Go.istore S2 at_109 (Ls' := #[.val (.long t1), .second, .val (.long t2), .second, .val (.long t3), .second, .val (.long y1), .second, .val (.long y2), .second, .val (.int mode), .val (.ref oa), .val (.long s2), .second, .val (.long p2), .second, .val (.long o2), .second, .val (.ref a1), .val (.int (0 : Int32)), .val (.int (((mode.toUInt32 >>> ((3 : Int32) &&& 31).toUInt32).toInt32) &&& (3 : Int32)))]) rfl (pc' := 111) rfl ?_
        generalize h_kind : (((mode.toUInt32 >>> ((3 : Int32) &&& 31).toUInt32).toInt32) &&& (3 : Int32)) = kind
        refine Go.iload S2 at_111 rfl (pc' := 113) rfl ?_
        refine Go.if_ne S2 at_113 (pt := 146) (by decide) (pc' := 116) rfl ?_ ?_
        · intro c113
          refine Go.iload S2 at_146 rfl (pc' := 148) rfl ?_
          refine Go.iconst S2 (v := 1) at_148 rfl (pc' := 149) rfl ?_
          refine Go.icmp_ne S2 at_149 (pt := 167) (by decide) (pc' := 152) rfl ?_ ?_
          · intro c149
            refine Go.iload S2 at_167 rfl (pc' := 169) rfl ?_
            refine Go.iconst S2 (v := 2) at_169 rfl (pc' := 170) rfl ?_
            refine Go.icmp_ne S2 at_170 (pt := 191) (by decide) (pc' := 173) rfl ?_ ?_
            · intro c170
              refine Go.aload S2 at_191 rfl rfl (pc' := 193) rfl ?_
              refine Go.aload S2 at_193 rfl rfl (pc' := 195) rfl ?_
              refine Go.invokevirtual S2 (y := ⟨"com/example/strict_queue/strictqueue/storage/RecoveryPoint", "equals", "(Ljava/lang/Object;)Z"⟩) (rm_eq hw oa oa t1 t2 t3 t1 t2 t3 S2.ext Xa Fa0 Fa1 Fa2 Fa0 Fa1 Fa2) (wd15 hw) (wd16 hw) (S2.nf (wd18 hw)) (wd18 hw) (wd17 hw) (wd2 hw) (wd19 hw) (by decide) Xa at_195 rfl pd3 (argsL := [(.ref oa)]) rfl rfl rfl (by decide) (W := 0) rfl (by decide) (by decide) (by decide) all0 (pc' := 198) rfl ?_
              intro v15 T15 h15 L15 S15 K15 q15
              rw [if_pos ⟨rfl, rfl, rfl⟩] at q15
              obtain ⟨rfl, rfl⟩ := q15
              show Go _ _ _ _ T15 (mkF m 198 #[.val (.long t1), .second, .val (.long t2), .second, .val (.long t3), .second, .val (.long y1), .second, .val (.long y2), .second, .val (.int mode), .val (.ref oa), .val (.long s2), .second, .val (.long p2), .second, .val (.long o2), .second, .val (.ref a1), .val (.int (0 : Int32)), .val (.int kind)] [(.int (1 : Int32))])
              exact Go.zreturn S15 rfl (by decide) at_198 (z' := (1 : Int32)) rfl (by decide) (by decide) (rfl)
            · intro c170
              refine Go.aload S2 at_173 rfl rfl (pc' := 175) rfl ?_
              refine Go.lloadN S2 at_175 rfl (pc' := 176) rfl ?_
              refine Go.invokestatic S2 (y := ⟨"java/lang/Long", "valueOf", "(J)Ljava/lang/Long;"⟩) (rm_jdk_35_method_24_code hw t1 S2.ext hC) (wd22 hw) (wd23 hw) (wd24 hw) (wd25 hw) (by decide) at_176 rfl pd4 (argsL := [(.long t1)]) rfl rfl rfl (by decide) (W := 1) rfl (by decide) (by decide) (by decide) all0 (pc' := 179) rfl ?_
              intro v16 T16 h16 L16 S16 K16 q16
              obtain ⟨r16, rfl, XL16⟩ := q16
              replace Xa := Xa.keep K16
              replace Fa0 := Fa0.keep K16 nin0
              replace Fa1 := Fa1.keep K16 nin0
              replace Fa2 := Fa2.keep K16 nin0
              replace X1 := X1.keep K16
              replace G2_segment := G2_segment.keep K16 nin0
              replace G2_position := G2_position.keep K16 nin0
              replace G2_offset := G2_offset.keep K16 nin0
              show Go _ _ _ _ T16 (mkF m 179 #[.val (.long t1), .second, .val (.long t2), .second, .val (.long t3), .second, .val (.long y1), .second, .val (.long y2), .second, .val (.int mode), .val (.ref oa), .val (.long s2), .second, .val (.long p2), .second, .val (.long o2), .second, .val (.ref a1), .val (.int (0 : Int32)), .val (.int kind)] [(.ref r16), (.ref oa)])
              refine Go.invokevirtual S16 (y := ⟨"com/example/strict_queue/strictqueue/storage/RecoveryPoint", "equals", "(Ljava/lang/Object;)Z"⟩) (rm_eqLong hw oa r16 S16.ext XL16) (wd15 hw) (wd16 hw) (S16.nf (wd18 hw)) (wd18 hw) (wd17 hw) (wd2 hw) (wd19 hw) (by decide) Xa at_179 rfl pd3 (argsL := [(.ref r16)]) rfl rfl rfl (by decide) (W := 0) rfl (by decide) (by decide) (by decide) all0 (pc' := 182) rfl ?_
              intro v17 T17 h17 L17 S17 K17 q17
              obtain ⟨rfl, rfl⟩ := q17
              show Go _ _ _ _ T17 (mkF m 182 #[.val (.long t1), .second, .val (.long t2), .second, .val (.long t3), .second, .val (.long y1), .second, .val (.long y2), .second, .val (.int mode), .val (.ref oa), .val (.long s2), .second, .val (.long p2), .second, .val (.long o2), .second, .val (.ref a1), .val (.int (0 : Int32)), .val (.int kind)] [(.int (0 : Int32))])
              refine Go.if_ne S17 at_182 (pt := 189) (by decide) (pc' := 185) rfl ?_ ?_
              · intro c182; exact absurd (by decide) c182
              · intro c182
                refine Go.iconst S17 (v := 1) at_185 rfl (pc' := 186) rfl ?_
                refine Go.goto S17 at_186 (pc' := 190) (by decide) ?_
                exact Go.zreturn S17 rfl (by decide) at_190 (z' := (1 : Int32)) rfl (by decide) (by decide) (rfl)
          · intro c149
            refine Go.aload S2 at_152 rfl rfl (pc' := 154) rfl ?_
            refine Go.aconst_null S2 at_154 (pc' := 155) rfl ?_
            refine Go.invokevirtual S2 (y := ⟨"com/example/strict_queue/strictqueue/storage/RecoveryPoint", "equals", "(Ljava/lang/Object;)Z"⟩) (rm_eqNull hw oa S2.ext) (wd15 hw) (wd16 hw) (S2.nf (wd18 hw)) (wd18 hw) (wd17 hw) (wd2 hw) (wd19 hw) (by decide) Xa at_155 rfl pd3 (argsL := [.null]) rfl rfl rfl (by decide) (W := 0) rfl (by decide) (by decide) (by decide) all0 (pc' := 158) rfl ?_
            intro v18 T18 h18 L18 S18 K18 q18
            obtain ⟨rfl, rfl⟩ := q18
            show Go _ _ _ _ T18 (mkF m 158 #[.val (.long t1), .second, .val (.long t2), .second, .val (.long t3), .second, .val (.long y1), .second, .val (.long y2), .second, .val (.int mode), .val (.ref oa), .val (.long s2), .second, .val (.long p2), .second, .val (.long o2), .second, .val (.ref a1), .val (.int (0 : Int32)), .val (.int kind)] [(.int (0 : Int32))])
            refine Go.if_ne S18 at_158 (pt := 165) (by decide) (pc' := 161) rfl ?_ ?_
            · intro c158; exact absurd (by decide) c158
            · intro c158
              refine Go.iconst S18 (v := 1) at_161 rfl (pc' := 162) rfl ?_
              refine Go.goto S18 at_162 (pc' := 166) (by decide) ?_
              exact Go.zreturn S18 rfl (by decide) at_166 (z' := (1 : Int32)) rfl (by decide) (by decide) (rfl)
        · intro c113
          refine Go.aload S2 at_116 rfl rfl (pc' := 118) rfl ?_
          refine Go.aload S2 at_118 rfl rfl (pc' := 120) rfl ?_
          refine Go.invokevirtual S2 (y := ⟨"com/example/strict_queue/strictqueue/storage/RecoveryPoint", "equals", "(Ljava/lang/Object;)Z"⟩) (rm_eq hw oa a1 t1 t2 t3 s2 p2 o2 S2.ext X1 Fa0 Fa1 Fa2 G2_segment G2_position G2_offset) (wd15 hw) (wd16 hw) (S2.nf (wd18 hw)) (wd18 hw) (wd17 hw) (wd2 hw) (wd19 hw) (by decide) Xa at_120 rfl pd3 (argsL := [(.ref a1)]) rfl rfl rfl (by decide) (W := 0) rfl (by decide) (by decide) (by decide) all0 (pc' := 123) rfl ?_
          intro v19 T19 h19 L19 S19 K19 q19
          rw [if_neg (fun q => c92 (q.2.2).symm)] at q19
          obtain ⟨rfl, rfl⟩ := q19
          show Go _ _ _ _ T19 (mkF m 123 #[.val (.long t1), .second, .val (.long t2), .second, .val (.long t3), .second, .val (.long y1), .second, .val (.long y2), .second, .val (.int mode), .val (.ref oa), .val (.long s2), .second, .val (.long p2), .second, .val (.long o2), .second, .val (.ref a1), .val (.int (0 : Int32)), .val (.int kind)] [(.int (0 : Int32))])
          refine Go.iload S19 at_123 rfl (pc' := 125) rfl ?_
          refine Go.icmp_ne S19 at_125 (pt := 144) (by decide) (pc' := 128) rfl ?_ ?_
          · intro c125; exact absurd (by decide) c125
          · intro c125
            refine Go.aload S19 at_128 rfl rfl (pc' := 130) rfl ?_
            refine Go.aload S19 at_130 rfl rfl (pc' := 132) rfl ?_
            refine Go.invokevirtual S19 (y := ⟨"com/example/strict_queue/strictqueue/storage/RecoveryPoint", "equals", "(Ljava/lang/Object;)Z"⟩) (rm_eq hw a1 oa s2 p2 o2 t1 t2 t3 S19.ext Xa G2_segment G2_position G2_offset Fa0 Fa1 Fa2) (wd15 hw) (wd16 hw) (S19.nf (wd18 hw)) (wd18 hw) (wd17 hw) (wd2 hw) (wd19 hw) (by decide) X1 at_132 rfl pd3 (argsL := [(.ref oa)]) rfl rfl rfl (by decide) (W := 0) rfl (by decide) (by decide) (by decide) all0 (pc' := 135) rfl ?_
            intro v20 T20 h20 L20 S20 K20 q20
            rw [if_neg (fun q => c92 q.2.2)] at q20
            obtain ⟨rfl, rfl⟩ := q20
            show Go _ _ _ _ T20 (mkF m 135 #[.val (.long t1), .second, .val (.long t2), .second, .val (.long t3), .second, .val (.long y1), .second, .val (.long y2), .second, .val (.int mode), .val (.ref oa), .val (.long s2), .second, .val (.long p2), .second, .val (.long o2), .second, .val (.ref a1), .val (.int (0 : Int32)), .val (.int kind)] [(.int (0 : Int32))])
            refine Go.iload S20 at_135 rfl (pc' := 137) rfl ?_
            refine Go.icmp_ne S20 at_137 (pt := 144) (by decide) (pc' := 140) rfl ?_ ?_
            · intro c137; exact absurd (by decide) c137
            · intro c137
              refine Go.iconst S20 (v := 1) at_140 rfl (pc' := 141) rfl ?_
              refine Go.goto S20 at_141 (pc' := 145) (by decide) ?_
              exact Go.zreturn S20 rfl (by decide) at_145 (z' := (1 : Int32)) rfl (by decide) (by decide) (rfl)
      · intro c92
        refine Go.iconst S2 (v := 1) at_96 rfl (pc' := 97) rfl ?_
        refine Go.goto S2 at_97 (pc' := 101) (by decide) ?_
        refine Go.istore S2 at_101 (Ls' := #[.val (.long t1), .second, .val (.long t2), .second, .val (.long t3), .second, .val (.long y1), .second, .val (.long y2), .second, .val (.int mode), .val (.ref oa), .val (.long s2), .second, .val (.long p2), .second, .val (.long o2), .second, .val (.ref a1), .val (.int (1 : Int32)), .unset]) rfl (pc' := 103) rfl ?_
        refine Go.iload S2 at_103 rfl (pc' := 105) rfl ?_
        refine Go.iconst S2 (v := 3) at_105 rfl (pc' := 106) rfl ?_
        refine Go.iushr S2 at_106 (pc' := 107) rfl ?_
        refine Go.iconst S2 (v := 3) at_107 rfl (pc' := 108) rfl ?_
        refine Go.iand S2 at_108 (pc' := 109) rfl ?_
        refine Go.istore S2 at_109 (Ls' := #[.val (.long t1), .second, .val (.long t2), .second, .val (.long t3), .second, .val (.long y1), .second, .val (.long y2), .second, .val (.int mode), .val (.ref oa), .val (.long s2), .second, .val (.long p2), .second, .val (.long o2), .second, .val (.ref a1), .val (.int (1 : Int32)), .val (.int (((mode.toUInt32 >>> ((3 : Int32) &&& 31).toUInt32).toInt32) &&& (3 : Int32)))]) rfl (pc' := 111) rfl ?_
        generalize h_kind : (((mode.toUInt32 >>> ((3 : Int32) &&& 31).toUInt32).toInt32) &&& (3 : Int32)) = kind
        refine Go.iload S2 at_111 rfl (pc' := 113) rfl ?_
        refine Go.if_ne S2 at_113 (pt := 146) (by decide) (pc' := 116) rfl ?_ ?_
        · intro c113
          refine Go.iload S2 at_146 rfl (pc' := 148) rfl ?_
          refine Go.iconst S2 (v := 1) at_148 rfl (pc' := 149) rfl ?_
          refine Go.icmp_ne S2 at_149 (pt := 167) (by decide) (pc' := 152) rfl ?_ ?_
          · intro c149
            refine Go.iload S2 at_167 rfl (pc' := 169) rfl ?_
            refine Go.iconst S2 (v := 2) at_169 rfl (pc' := 170) rfl ?_
            refine Go.icmp_ne S2 at_170 (pt := 191) (by decide) (pc' := 173) rfl ?_ ?_
            · intro c170
              refine Go.aload S2 at_191 rfl rfl (pc' := 193) rfl ?_
              refine Go.aload S2 at_193 rfl rfl (pc' := 195) rfl ?_
              refine Go.invokevirtual S2 (y := ⟨"com/example/strict_queue/strictqueue/storage/RecoveryPoint", "equals", "(Ljava/lang/Object;)Z"⟩) (rm_eq hw oa oa t1 t2 t3 t1 t2 t3 S2.ext Xa Fa0 Fa1 Fa2 Fa0 Fa1 Fa2) (wd15 hw) (wd16 hw) (S2.nf (wd18 hw)) (wd18 hw) (wd17 hw) (wd2 hw) (wd19 hw) (by decide) Xa at_195 rfl pd3 (argsL := [(.ref oa)]) rfl rfl rfl (by decide) (W := 0) rfl (by decide) (by decide) (by decide) all0 (pc' := 198) rfl ?_
              intro v21 T21 h21 L21 S21 K21 q21
              rw [if_pos ⟨rfl, rfl, rfl⟩] at q21
              obtain ⟨rfl, rfl⟩ := q21
              show Go _ _ _ _ T21 (mkF m 198 #[.val (.long t1), .second, .val (.long t2), .second, .val (.long t3), .second, .val (.long y1), .second, .val (.long y2), .second, .val (.int mode), .val (.ref oa), .val (.long s2), .second, .val (.long p2), .second, .val (.long o2), .second, .val (.ref a1), .val (.int (1 : Int32)), .val (.int kind)] [(.int (1 : Int32))])
              exact Go.zreturn S21 rfl (by decide) at_198 (z' := (1 : Int32)) rfl (by decide) (by decide) (rfl)
            · intro c170
              refine Go.aload S2 at_173 rfl rfl (pc' := 175) rfl ?_
              refine Go.lloadN S2 at_175 rfl (pc' := 176) rfl ?_
              refine Go.invokestatic S2 (y := ⟨"java/lang/Long", "valueOf", "(J)Ljava/lang/Long;"⟩) (rm_jdk_35_method_24_code hw t1 S2.ext hC) (wd22 hw) (wd23 hw) (wd24 hw) (wd25 hw) (by decide) at_176 rfl pd4 (argsL := [(.long t1)]) rfl rfl rfl (by decide) (W := 1) rfl (by decide) (by decide) (by decide) all0 (pc' := 179) rfl ?_
              intro v22 T22 h22 L22 S22 K22 q22
              obtain ⟨r22, rfl, XL22⟩ := q22
              replace Xa := Xa.keep K22
              replace Fa0 := Fa0.keep K22 nin0
              replace Fa1 := Fa1.keep K22 nin0
              replace Fa2 := Fa2.keep K22 nin0
              replace X1 := X1.keep K22
              replace G2_segment := G2_segment.keep K22 nin0
              replace G2_position := G2_position.keep K22 nin0
              replace G2_offset := G2_offset.keep K22 nin0
              show Go _ _ _ _ T22 (mkF m 179 #[.val (.long t1), .second, .val (.long t2), .second, .val (.long t3), .second, .val (.long y1), .second, .val (.long y2), .second, .val (.int mode), .val (.ref oa), .val (.long s2), .second, .val (.long p2), .second, .val (.long o2), .second, .val (.ref a1), .val (.int (1 : Int32)), .val (.int kind)] [(.ref r22), (.ref oa)])
              refine Go.invokevirtual S22 (y := ⟨"com/example/strict_queue/strictqueue/storage/RecoveryPoint", "equals", "(Ljava/lang/Object;)Z"⟩) (rm_eqLong hw oa r22 S22.ext XL22) (wd15 hw) (wd16 hw) (S22.nf (wd18 hw)) (wd18 hw) (wd17 hw) (wd2 hw) (wd19 hw) (by decide) Xa at_179 rfl pd3 (argsL := [(.ref r22)]) rfl rfl rfl (by decide) (W := 0) rfl (by decide) (by decide) (by decide) all0 (pc' := 182) rfl ?_
              intro v23 T23 h23 L23 S23 K23 q23
              obtain ⟨rfl, rfl⟩ := q23
              show Go _ _ _ _ T23 (mkF m 182 #[.val (.long t1), .second, .val (.long t2), .second, .val (.long t3), .second, .val (.long y1), .second, .val (.long y2), .second, .val (.int mode), .val (.ref oa), .val (.long s2), .second, .val (.long p2), .second, .val (.long o2), .second, .val (.ref a1), .val (.int (1 : Int32)), .val (.int kind)] [(.int (0 : Int32))])
              refine Go.if_ne S23 at_182 (pt := 189) (by decide) (pc' := 185) rfl ?_ ?_
              · intro c182; exact absurd (by decide) c182
              · intro c182
                refine Go.iconst S23 (v := 1) at_185 rfl (pc' := 186) rfl ?_
                refine Go.goto S23 at_186 (pc' := 190) (by decide) ?_
                exact Go.zreturn S23 rfl (by decide) at_190 (z' := (1 : Int32)) rfl (by decide) (by decide) (rfl)
          · intro c149
            refine Go.aload S2 at_152 rfl rfl (pc' := 154) rfl ?_
            refine Go.aconst_null S2 at_154 (pc' := 155) rfl ?_
            refine Go.invokevirtual S2 (y := ⟨"com/example/strict_queue/strictqueue/storage/RecoveryPoint", "equals", "(Ljava/lang/Object;)Z"⟩) (rm_eqNull hw oa S2.ext) (wd15 hw) (wd16 hw) (S2.nf (wd18 hw)) (wd18 hw) (wd17 hw) (wd2 hw) (wd19 hw) (by decide) Xa at_155 rfl pd3 (argsL := [.null]) rfl rfl rfl (by decide) (W := 0) rfl (by decide) (by decide) (by decide) all0 (pc' := 158) rfl ?_
            intro v24 T24 h24 L24 S24 K24 q24
            obtain ⟨rfl, rfl⟩ := q24
            show Go _ _ _ _ T24 (mkF m 158 #[.val (.long t1), .second, .val (.long t2), .second, .val (.long t3), .second, .val (.long y1), .second, .val (.long y2), .second, .val (.int mode), .val (.ref oa), .val (.long s2), .second, .val (.long p2), .second, .val (.long o2), .second, .val (.ref a1), .val (.int (1 : Int32)), .val (.int kind)] [(.int (0 : Int32))])
            refine Go.if_ne S24 at_158 (pt := 165) (by decide) (pc' := 161) rfl ?_ ?_
            · intro c158; exact absurd (by decide) c158
            · intro c158
              refine Go.iconst S24 (v := 1) at_161 rfl (pc' := 162) rfl ?_
              refine Go.goto S24 at_162 (pc' := 166) (by decide) ?_
              exact Go.zreturn S24 rfl (by decide) at_166 (z' := (1 : Int32)) rfl (by decide) (by decide) (rfl)
        · intro c113
          refine Go.aload S2 at_116 rfl rfl (pc' := 118) rfl ?_
          refine Go.aload S2 at_118 rfl rfl (pc' := 120) rfl ?_
          refine Go.invokevirtual S2 (y := ⟨"com/example/strict_queue/strictqueue/storage/RecoveryPoint", "equals", "(Ljava/lang/Object;)Z"⟩) (rm_eq hw oa a1 t1 t2 t3 s2 p2 o2 S2.ext X1 Fa0 Fa1 Fa2 G2_segment G2_position G2_offset) (wd15 hw) (wd16 hw) (S2.nf (wd18 hw)) (wd18 hw) (wd17 hw) (wd2 hw) (wd19 hw) (by decide) Xa at_120 rfl pd3 (argsL := [(.ref a1)]) rfl rfl rfl (by decide) (W := 0) rfl (by decide) (by decide) (by decide) all0 (pc' := 123) rfl ?_
          intro v25 T25 h25 L25 S25 K25 q25
          rw [if_pos ⟨c77.symm, c84.symm, c92.symm⟩] at q25
          obtain ⟨rfl, rfl⟩ := q25
          show Go _ _ _ _ T25 (mkF m 123 #[.val (.long t1), .second, .val (.long t2), .second, .val (.long t3), .second, .val (.long y1), .second, .val (.long y2), .second, .val (.int mode), .val (.ref oa), .val (.long s2), .second, .val (.long p2), .second, .val (.long o2), .second, .val (.ref a1), .val (.int (1 : Int32)), .val (.int kind)] [(.int (1 : Int32))])
          refine Go.iload S25 at_123 rfl (pc' := 125) rfl ?_
          refine Go.icmp_ne S25 at_125 (pt := 144) (by decide) (pc' := 128) rfl ?_ ?_
          · intro c125; exact absurd (by decide) c125
          · intro c125
            refine Go.aload S25 at_128 rfl rfl (pc' := 130) rfl ?_
            refine Go.aload S25 at_130 rfl rfl (pc' := 132) rfl ?_
            refine Go.invokevirtual S25 (y := ⟨"com/example/strict_queue/strictqueue/storage/RecoveryPoint", "equals", "(Ljava/lang/Object;)Z"⟩) (rm_eq hw a1 oa s2 p2 o2 t1 t2 t3 S25.ext Xa G2_segment G2_position G2_offset Fa0 Fa1 Fa2) (wd15 hw) (wd16 hw) (S25.nf (wd18 hw)) (wd18 hw) (wd17 hw) (wd2 hw) (wd19 hw) (by decide) X1 at_132 rfl pd3 (argsL := [(.ref oa)]) rfl rfl rfl (by decide) (W := 0) rfl (by decide) (by decide) (by decide) all0 (pc' := 135) rfl ?_
            intro v26 T26 h26 L26 S26 K26 q26
            rw [if_pos ⟨c77, c84, c92⟩] at q26
            obtain ⟨rfl, rfl⟩ := q26
            show Go _ _ _ _ T26 (mkF m 135 #[.val (.long t1), .second, .val (.long t2), .second, .val (.long t3), .second, .val (.long y1), .second, .val (.long y2), .second, .val (.int mode), .val (.ref oa), .val (.long s2), .second, .val (.long p2), .second, .val (.long o2), .second, .val (.ref a1), .val (.int (1 : Int32)), .val (.int kind)] [(.int (1 : Int32))])
            refine Go.iload S26 at_135 rfl (pc' := 137) rfl ?_
            refine Go.icmp_ne S26 at_137 (pt := 144) (by decide) (pc' := 140) rfl ?_ ?_
            · intro c137; exact absurd (by decide) c137
            · intro c137
              refine Go.iconst S26 (v := 1) at_140 rfl (pc' := 141) rfl ?_
              refine Go.goto S26 at_141 (pc' := 145) (by decide) ?_
              exact Go.zreturn S26 rfl (by decide) at_145 (z' := (1 : Int32)) rfl (by decide) (by decide) (rfl)
set_option maxRecDepth 65536 in
set_option maxHeartbeats 4000000 in
theorem j0_41 {p : Program} {l : Launch} {e : Env} {s : State} {m : MethodId} {args : Array Value} {below : List Frame} {meth : Method} {co : Code} {Z : State} {a0 : Array Value} (hw : HW Z a0) (t1 t2 t3 y1 y2 : Int64) (mode : Int32) (oa : Addr) (s2 p2 : Int64) {h0 h : Heap} {T : State} {locs : List Loc} (S : St p l e room_1 s m args below meth co Z x.cls code maxLocals ret x.name h0 [] T h locs 1 3) (hC : LongCache Z) (Xa : Exa Z h oa "com/example/strict_queue/strictqueue/storage/RecoveryPoint") (Fa0 : Fld Z h oa "com/example/strict_queue/strictqueue/storage/RecoveryPoint" "segment" "J" (.long t1)) (Fa1 : Fld Z h oa "com/example/strict_queue/strictqueue/storage/RecoveryPoint" "position" "J" (.long t2)) (Fa2 : Fld Z h oa "com/example/strict_queue/strictqueue/storage/RecoveryPoint" "offset" "J" (.long t3)) :
    Go p e below (PostOf Z s h0 [] room_1.cells room_1.slots (fun v h => v = some (.int 1))) T (mkF m 41 #[.val (.long t1), .second, .val (.long t2), .second, .val (.long t3), .second, .val (.long y1), .second, .val (.long y2), .second, .val (.int mode), .val (.ref oa), .val (.long s2), .second, .unset, .unset, .unset, .unset, .unset, .unset, .unset] [(.long p2)]) := by
  refine Go.lstore S at_41 (Ls' := #[.val (.long t1), .second, .val (.long t2), .second, .val (.long t3), .second, .val (.long y1), .second, .val (.long y2), .second, .val (.int mode), .val (.ref oa), .val (.long s2), .second, .val (.long p2), .second, .unset, .unset, .unset, .unset, .unset]) rfl (pc' := 43) rfl ?_
  refine Go.iload S at_43 rfl (pc' := 45) rfl ?_
  refine Go.iconst S (v := 4) at_45 rfl (pc' := 46) rfl ?_
  refine Go.iand S at_46 (pc' := 47) rfl ?_
  refine Go.if_eq S at_47 (pt := 55) (by decide) (pc' := 50) rfl ?_ ?_
  · intro c47
    refine Go.lload S at_55 rfl (pc' := 57) rfl ?_
    exact j0_57 hw t1 t2 t3 y1 y2 mode oa s2 p2 y2 S hC Xa Fa0 Fa1 Fa2
  · intro c47
    refine Go.lload S at_50 rfl (pc' := 52) rfl ?_
    refine Go.goto S at_52 (pc' := 57) (by decide) ?_
    exact j0_57 hw t1 t2 t3 y1 y2 mode oa s2 p2 t3 S hC Xa Fa0 Fa1 Fa2
set_option maxRecDepth 65536 in
set_option maxHeartbeats 4000000 in
theorem j0_26 {p : Program} {l : Launch} {e : Env} {s : State} {m : MethodId} {args : Array Value} {below : List Frame} {meth : Method} {co : Code} {Z : State} {a0 : Array Value} (hw : HW Z a0) (t1 t2 t3 y1 y2 : Int64) (mode : Int32) (oa : Addr) (s2 : Int64) {h0 h : Heap} {T : State} {locs : List Loc} (S : St p l e room_1 s m args below meth co Z x.cls code maxLocals ret x.name h0 [] T h locs 1 3) (hC : LongCache Z) (Xa : Exa Z h oa "com/example/strict_queue/strictqueue/storage/RecoveryPoint") (Fa0 : Fld Z h oa "com/example/strict_queue/strictqueue/storage/RecoveryPoint" "segment" "J" (.long t1)) (Fa1 : Fld Z h oa "com/example/strict_queue/strictqueue/storage/RecoveryPoint" "position" "J" (.long t2)) (Fa2 : Fld Z h oa "com/example/strict_queue/strictqueue/storage/RecoveryPoint" "offset" "J" (.long t3)) :
    Go p e below (PostOf Z s h0 [] room_1.cells room_1.slots (fun v h => v = some (.int 1))) T (mkF m 26 #[.val (.long t1), .second, .val (.long t2), .second, .val (.long t3), .second, .val (.long y1), .second, .val (.long y2), .second, .val (.int mode), .val (.ref oa), .unset, .unset, .unset, .unset, .unset, .unset, .unset, .unset, .unset] [(.long s2)]) := by
  refine Go.lstore S at_26 (Ls' := #[.val (.long t1), .second, .val (.long t2), .second, .val (.long t3), .second, .val (.long y1), .second, .val (.long y2), .second, .val (.int mode), .val (.ref oa), .val (.long s2), .second, .unset, .unset, .unset, .unset, .unset, .unset, .unset]) rfl (pc' := 28) rfl ?_
  refine Go.iload S at_28 rfl (pc' := 30) rfl ?_
  refine Go.iconst S (v := 2) at_30 rfl (pc' := 31) rfl ?_
  refine Go.iand S at_31 (pc' := 32) rfl ?_
  refine Go.if_eq S at_32 (pt := 39) (by decide) (pc' := 35) rfl ?_ ?_
  · intro c32
    refine Go.lload S at_39 rfl (pc' := 41) rfl ?_
    exact j0_41 hw t1 t2 t3 y1 y2 mode oa s2 y1 S hC Xa Fa0 Fa1 Fa2
  · intro c32
    refine Go.lloadN S at_35 rfl (pc' := 36) rfl ?_
    refine Go.goto S at_36 (pc' := 41) (by decide) ?_
    exact j0_41 hw t1 t2 t3 y1 y2 mode oa s2 t2 S hC Xa Fa0 Fa1 Fa2
set_option maxRecDepth 65536 in
set_option maxHeartbeats 4000000 in
theorem rm_code {l : Launch} {Z : State} {a0 : Array Value} (hw : HW Z a0) (t1 : Int64) (t2 : Int64) (t3 : Int64) (y1 : Int64) (y2 : Int64) (mode : Int32)  {h0 : Heap} (hE : Ext Z.heap h0) (hC : LongCache Z) :
    OMeets l Z x code maxLocals ret room_1 #[(.long t1), (.long t2), (.long t3), (.long y1), (.long y2), (.int mode)] h0 [] (fun v h => v = some (.int 1)) := by
  refine OMeets.body (plainFor_of_name pn3) hE #[.val (.long t1), .second, .val (.long t2), .second, .val (.long t3), .second, .val (.long y1), .second, .val (.long y2), .second, .val (.int mode), .unset, .unset, .unset, .unset, .unset, .unset, .unset, .unset, .unset, .unset] (fun m => by first | (simp [entryFrame, mkF, argsToLocals, Value.category, maxLocals]; done) | rfl) ?_
  intro p e s m below meth co T S
  refine Go.new S (wd0 hw) (wd1 hw) (wd2 hw) at_0 (by decide) (by decide) (pc' := 3) rfl ?_
  intro T27 h27 a27 S27 E27 hg27 hz27 hk27 X27 D27
  have F27_segment : Fld Z h27 a27 "com/example/strict_queue/strictqueue/storage/RecoveryPoint" "segment" "J" (.long (0 : Int64)) := D27 (Or.inr (wd10 hw)) (ty := .long) (by decide)
  have F27_position : Fld Z h27 a27 "com/example/strict_queue/strictqueue/storage/RecoveryPoint" "position" "J" (.long (0 : Int64)) := D27 (Or.inr (wd12 hw)) (ty := .long) (by decide)
  have F27_offset : Fld Z h27 a27 "com/example/strict_queue/strictqueue/storage/RecoveryPoint" "offset" "J" (.long (0 : Int64)) := D27 (Or.inr (wd14 hw)) (ty := .long) (by decide)
  refine Go.dup S27 at_3 rfl (pc' := 4) rfl ?_
  refine Go.lloadN S27 at_4 rfl (pc' := 5) rfl ?_
  refine Go.lloadN S27 at_5 rfl (pc' := 6) rfl ?_
  refine Go.lload S27 at_6 rfl (pc' := 8) rfl ?_
  refine Go.invokespecial S27 (y := ⟨"com/example/strict_queue/strictqueue/storage/RecoveryPoint", "<init>", "(JJJ)V"⟩) (rm_prog_36_method_1_code hw a27 t1 t2 t3 S27.ext hz27 X27 F27_segment F27_position F27_offset) rfl rfl (wd3 hw) (wd4 hw) (wd2 hw) (wd5 hw) (by decide) at_8 rfl pd2 (argsL := [(.long t1), (.long t2), (.long t3)]) rfl rfl rfl (by decide) (W := 1) rfl (by decide) (by decide) (by decide) (allS (Or.inr hk27) all0) (pc' := 11) rfl ?_
  intro v28 T28 h28 L28 S28 K28 q28
  obtain ⟨rfl, G28_segment, G28_position, G28_offset⟩ := q28
  replace X27 := X27.keep K28
  show Go _ _ _ _ T28 (mkF m 11 #[.val (.long t1), .second, .val (.long t2), .second, .val (.long t3), .second, .val (.long y1), .second, .val (.long y2), .second, .val (.int mode), .unset, .unset, .unset, .unset, .unset, .unset, .unset, .unset, .unset, .unset] [(.ref a27)])
  refine Go.astore S28 at_11 rfl (Ls' := #[.val (.long t1), .second, .val (.long t2), .second, .val (.long t3), .second, .val (.long y1), .second, .val (.long y2), .second, .val (.int mode), .val (.ref a27), .unset, .unset, .unset, .unset, .unset, .unset, .unset, .unset, .unset]) rfl (pc' := 13) rfl ?_
  refine Go.iload S28 at_13 rfl (pc' := 15) rfl ?_
  refine Go.iconst S28 (v := 1) at_15 rfl (pc' := 16) rfl ?_
  refine Go.iand S28 at_16 (pc' := 17) rfl ?_
  refine Go.if_eq S28 at_17 (pt := 24) (by decide) (pc' := 20) rfl ?_ ?_
  · intro c17
    refine Go.lload S28 at_24 rfl (pc' := 26) rfl ?_
    exact j0_26 hw t1 t2 t3 y1 y2 mode a27 y1 S28 hC X27 G28_segment G28_position G28_offset
  · intro c17
    refine Go.lloadN S28 at_20 rfl (pc' := 21) rfl ?_
    refine Go.goto S28 at_21 (pc' := 26) (by decide) ?_
    exact j0_26 hw t1 t2 t3 y1 y2 mode a27 t1 S28 hC X27 G28_segment G28_position G28_offset
set_option maxRecDepth 65536 in
set_option maxHeartbeats 4000000 in
theorem comes_1 {Post : Tables → Env → Array Value → State → Outcome → State → Prop} (hpost : ∀ tb e args s v u, (limb_1_1.after args s (.returned v) u = true ∧ limb_1_2.after args s (.returned v) u = true ∧ True) → FrameEnd s (.returned v) u (Jvm.fieldLocs frame_1_writes args s ++ Jvm.arrayLocs frame_1_arrays args s ++ Jvm.staticLocs frame_1_statics s) 16 128 → Post tb e args s (.returned v) u) :
    ArmFor flags0 classFile x code maxLocals ret World_1 tables_1 room_1 Calls_1 rest_1 Pre_1 Post := by
  intro l hfl _ _ p e ha hc hk s m args below hf hA hF happ hP
  obtain ⟨hcalls, hrest, hpre⟩ := hP
  obtain ⟨-, -, -, hnamed, -, -, -, hat⟩ := (Spec.applies_iff hf).mp happ
  obtain ⟨hg, hn⟩ := and_e (Cond.before_iff.mp (show (Jvm.Cond.and given_1 narrow_1).before args s = true from hpre))
  obtain ⟨g1a, g1b⟩ := and_e hg
  obtain ⟨g2a, g2b⟩ := and_e g1b
  obtain ⟨g3a, g3b⟩ := and_e g2b
  obtain ⟨g4a, g4b⟩ := and_e g3b
  obtain ⟨g5a, g5b⟩ := and_e g4b
  obtain ⟨g6a, g6b⟩ := and_e g5b
  obtain ⟨w0, w1, w2, w3, w4, w5, rfl⟩ : ∃ w0 w1 w2 w3 w4 w5 : Value, args = #[w0, w1, w2, w3, w4, w5] := by
    have hs : args.size = 6 := by simpa [Cond.value, given_1] using g1a
    obtain ⟨L⟩ := args
    match L, hs with
    | [w0, w1, w2, w3, w4, w5], _ => exact ⟨w0, w1, w2, w3, w4, w5, rfl⟩
  have hw : HW s _ := fun d (hd : d ∈ tables_1) => atoms_spec (ws := Jvm.Cond.code x code maxLocals ret :: tables_1) hat d (List.mem_cons_of_mem _ hd)
  have hfit : Fit s := fun {y c} hc i hi => by
    obtain ⟨ha, rfl⟩ := Array.getElem?_eq_some_iff.mp hc
    have q := List.all_eq_true.mp ((Array.all_eq_true_iff_forall_mem.mp hF) _ (Array.getElem_mem ha)) i (List.mem_range.mpr hi)
    simpa [Array.getElem?_eq_getElem hi] using q
  obtain ⟨i0, ei0⟩ := isL_v g2a
  obtain rfl : w0 = (.long i0) := Option.some.inj ei0
  obtain ⟨i1, ei1⟩ := isL_v g3a
  obtain rfl : w1 = (.long i1) := Option.some.inj ei1
  obtain ⟨i2, ei2⟩ := isL_v g4a
  obtain rfl : w2 = (.long i2) := Option.some.inj ei2
  obtain ⟨i3, ei3⟩ := isL_v g5a
  obtain rfl : w3 = (.long i3) := Option.some.inj ei3
  obtain ⟨i4, ei4⟩ := isL_v g6a
  obtain rfl : w4 = (.long i4) := Option.some.inj ei4
  obtain ⟨i5, ei5⟩ := is_v g6b
  obtain rfl : w5 = (.int i5) := Option.some.inj ei5
  obtain ⟨hsets, -⟩ := atoms_of _ (rest_1_c_eq ▸ (show rest_1_c.before _ s = true from hrest))
  have hC := own_cache hsets
  obtain ⟨n, o, h1, h2, h3, _, L, rfl, ⟨N, -, -, rfl⟩, hq⟩ := rm_code (l := l) hw i0 i1 i2 i3 i4 i5  (h0 := s.heap) ⟨Nat.le_refl _, fun _ _ q => q⟩ hC tables_1 p e ha hc hk s m _ below hf ((Spec.applies_iff_loose hf).mp happ).1 ⟨rfl, State.Warmed39.refl s, rfl⟩ trivial
  refine ⟨n, _, h1, h2, h3, hpost _ _ _ _ _ _ ⟨Cond.after_iff.mpr rfl, Cond.after_iff.mpr (eq_i res_at (Term.int_eval (1)) rfl), trivial⟩ ⟨hq.1, hq.2.1, (hq.2.2.sift fun y hy => Or.inr (N y hy)).mono (by decide) (by decide)⟩⟩
theorem main_1_1 : Claimed_1_1 := comes_1 fun _ _ _ _ _ _ h hF => ⟨h.1, hF⟩
theorem main_1_2 : Claimed_1_2 := comes_1 fun _ _ _ _ _ _ h hF => ⟨h.2.1, hF⟩
end Jvm.Pilot.@@N@@
namespace Jvm.Pilot.@@N@@
open Jvm Jvm.ClassFile Sem Op Lib Jvm.Free Jvm.Stand Jvm.Pilot.@@N@@.Jvm.D
/-! MADE BY PROGRAM (witnessworld.py) out of the Statement's table words and the real class files: 16 classes; the members and pool entries that the words name. The judged class is class 1, her method 1. -/
namespace start1
open Jvm.ClassFile
def u (s : String) : CpInfo := .utf8 (stringToUtf16 s)
/-- a pool by its gaps: so many unusable entries, then the entry; so many at the end -/
def gap : Nat → List CpInfo → List CpInfo
  | 0, r => r
  | n + 1, r => .unusable :: gap n r
def poolList (es : List (Nat × CpInfo)) (last : Nat) : List CpInfo := es.foldr (fun e r => gap e.1 (e.2 :: r)) (gap last [])
def pool (es : List (Nat × CpInfo)) (last : Nat) : Array CpInfo := ⟨poolList es last⟩
def fileOf (pool : Array CpInfo) (this : Nat) (attrs : Array Attribute := #[]) (ms : Array MethodInfo := #[]) (fl : Nat := 33) (sup : Nat := 0) (ifs : Array Nat := #[]) (fds : Array FieldInfo := #[]) : ClassFile where
  minorVersion := 0
  majorVersion := 65
  constantPool := pool
  accessFlags := fl
  thisClass := this
  superClass := sup
  interfaces := ifs
  fields := fds
  methods := ms
  attributes := attrs
def plain (name : String) (sup : Option ClassId) : Class where
  name := name
  kind := .ordinary
  loader := none
  accessFlags := 33
  super := sup
  interfaces := #[]
  cf := none
  fields := #[]
  methods := #[]
  instanceTypes := #[]
  staticTypes := #[]
  resolved := #[]
  callSites := []
  init := .initialized
  statics := none
  mirror := none

def pool0 : Array CpInfo := pool [(5, u "<init>"), (0, u "()V"), (1, .class_ 10), (1, u "java/lang/Object")] 113

def k0c0 : Code := { maxStack := 0, maxLocals := 1, code := object_method_1_code, exceptionTable := #[], attributes := #[] }
def k0m0 : Method := { name := "<init>", desc := "()V", sig := { parameters := [], returnType := none }, accessFlags := 1, code := some k0c0 }
/-- java/lang/Object -/
def k0 : Class := { plain "java/lang/Object" none with
  accessFlags := 33
  interfaces := #[]
  cf := some (fileOf pool0 8 #[] #[{ accessFlags := 1, nameIndex := 5, descriptorIndex := 6, attributes := #[] }] 33 0 #[] #[])
  fields := #[]
  methods := #[k0m0]
  instanceTypes := #[]
  staticTypes := #[]
  resolved := Array.replicate 124 none
  statics := none }

def pool1 : Array CpInfo := pool [(2, .class_ 4), (1, u "java/lang/Object"), (0, u "<init>"), (0, u "()V"), (0, .class_ 8), (0, u "com/example/strict_queue/strictqueue/storage/RecoveryPoint"), (0, .methodref 7 10), (0, .nameAndType 5 11), (0, u "(JJJ)V"), (0, .methodref 7 13), (0, .nameAndType 14 15), (0, u "equals"), (0, u "(Ljava/lang/Object;)Z"), (0, .methodref 17 18), (0, .class_ 19), (0, .nameAndType 20 21), (0, u "java/lang/Long"), (0, u "valueOf"), (0, u "(J)Ljava/lang/Long;"), (0, .class_ 23), (0, u "com/example/strict_queue/strictqueue/storage/RecoveryPointEqualsPinLaw"), (2, u "law"), (0, u "(JJJJJI)Z")] 3

def k1m0 : Method := { name := "<init>", desc := "()V", sig := { parameters := [], returnType := none }, accessFlags := 1, code := none }
def k1c1 : Code := { maxStack := 8, maxLocals := 21, code := code, exceptionTable := #[], attributes := #[] }
def k1m1 : Method := { name := "law", desc := "(JJJJJI)Z", sig := { parameters := [.long, .long, .long, .long, .long, .int], returnType := some .boolean }, accessFlags := 9, code := some k1c1 }
/-- com/example/strict_queue/strictqueue/storage/RecoveryPointEqualsPinLaw -/
def k1 : Class := { plain "com/example/strict_queue/strictqueue/storage/RecoveryPointEqualsPinLaw" (some 0) with
  accessFlags := 49
  interfaces := #[]
  cf := some (fileOf pool1 22 #[] #[{ accessFlags := 1, nameIndex := 5, descriptorIndex := 6, attributes := #[] }, { accessFlags := 9, nameIndex := 26, descriptorIndex := 27, attributes := #[] }] 49 2 #[] #[])
  fields := #[]
  methods := #[k1m0, k1m1]
  instanceTypes := #[]
  staticTypes := #[]
  resolved := Array.replicate 31 none
  statics := none }

def pool2 : Array CpInfo := pool [(1, .methodref 2 3), (0, .class_ 4), (0, .nameAndType 5 6), (0, u "java/lang/Object"), (0, u "<init>"), (0, u "()V"), (0, .fieldref 8 9), (0, .class_ 10), (0, .nameAndType 11 12), (0, u "com/example/strict_queue/strictqueue/storage/RecoveryPoint"), (0, u "segment"), (0, u "J"), (0, .fieldref 8 14), (0, .nameAndType 15 12), (0, u "position"), (0, .fieldref 8 17), (0, .nameAndType 18 12), (0, u "offset"), (12, u "(JJJ)V"), (2, u "START"), (0, u "Lcom/example/strict_queue/strictqueue/storage/RecoveryPoint;"), (3, u "equals"), (0, u "(Ljava/lang/Object;)Z")] 22

def k2c0 : Code := { maxStack := 3, maxLocals := 7, code := prog_36_method_1_code, exceptionTable := #[], attributes := #[] }
def k2m0 : Method := { name := "<init>", desc := "(JJJ)V", sig := { parameters := [.long, .long, .long], returnType := none }, accessFlags := 0, code := some k2c0 }
def k2c1 : Code := { maxStack := 4, maxLocals := 2, code := prog_36_method_5_code, exceptionTable := #[], attributes := #[] }
def k2m1 : Method := { name := "equals", desc := "(Ljava/lang/Object;)Z", sig := { parameters := [(.object "java/lang/Object")], returnType := some .boolean }, accessFlags := 1, code := some k2c1 }
/-- com/example/strict_queue/strictqueue/storage/RecoveryPoint -/
def k2 : Class := { plain "com/example/strict_queue/strictqueue/storage/RecoveryPoint" (some 0) with
  accessFlags := 48
  interfaces := #[]
  cf := some (fileOf pool2 8 #[] #[{ accessFlags := 0, nameIndex := 5, descriptorIndex := 31, attributes := #[] }, { accessFlags := 1, nameIndex := 39, descriptorIndex := 40, attributes := #[] }] 48 2 #[] #[{ accessFlags := 24, nameIndex := 34, descriptorIndex := 35, attributes := #[] }, { accessFlags := 18, nameIndex := 11, descriptorIndex := 12, attributes := #[] }, { accessFlags := 18, nameIndex := 15, descriptorIndex := 12, attributes := #[] }, { accessFlags := 18, nameIndex := 18, descriptorIndex := 12, attributes := #[] }])
  fields := #[{ name := "START", type := (.object "com/example/strict_queue/strictqueue/storage/RecoveryPoint"), accessFlags := 24, slot := 0, constantValue := 0 }, { name := "segment", type := .long, accessFlags := 18, slot := 0, constantValue := 0 }, { name := "position", type := .long, accessFlags := 18, slot := 1, constantValue := 0 }, { name := "offset", type := .long, accessFlags := 18, slot := 2, constantValue := 0 }]
  methods := #[k2m0, k2m1]
  instanceTypes := #[.long, .long, .long]
  staticTypes := #[(.object "com/example/strict_queue/strictqueue/storage/RecoveryPoint")]
  resolved := Array.replicate 63 none
  statics := none }

def pool3 : Array CpInfo := pool [(1, .class_ 2), (0, u "java/io/Serializable"), (0, .class_ 4), (0, u "java/lang/Object")] 2

/-- java/io/Serializable -/
def k3 : Class := { plain "java/io/Serializable" (some 0) with
  accessFlags := 1537
  interfaces := #[]
  cf := some (fileOf pool3 1 #[] #[] 1537 3 #[] #[])
  fields := #[]
  methods := #[]
  instanceTypes := #[]
  staticTypes := #[]
  resolved := Array.replicate 7 none
  statics := none }

def pool4 : Array CpInfo := pool [(1, .methodref 2 3), (0, .class_ 4), (0, .nameAndType 5 6), (0, u "java/lang/Object"), (0, u "<init>"), (0, u "()V"), (1, .class_ 10), (1, u "java/lang/Number"), (2, .class_ 14), (0, u "java/io/Serializable"), (0, u "serialVersionUID"), (0, u "J")] 20

def k4c0 : Code := { maxStack := 1, maxLocals := 1, code := jdk_18_method_1_code, exceptionTable := #[], attributes := #[] }
def k4m0 : Method := { name := "<init>", desc := "()V", sig := { parameters := [], returnType := none }, accessFlags := 1, code := some k4c0 }
/-- java/lang/Number -/
def k4 : Class := { plain "java/lang/Number" (some 0) with
  accessFlags := 1057
  interfaces := #[3]
  cf := some (fileOf pool4 8 #[] #[{ accessFlags := 1, nameIndex := 5, descriptorIndex := 6, attributes := #[] }] 1057 2 #[13] #[{ accessFlags := 26, nameIndex := 15, descriptorIndex := 16, attributes := #[] }])
  fields := #[{ name := "serialVersionUID", type := .long, accessFlags := 26, slot := 0, constantValue := 0 }]
  methods := #[k4m0]
  instanceTypes := #[]
  staticTypes := #[.long]
  resolved := Array.replicate 37 none
  statics := none }

def pool5 : Array CpInfo := pool [(1, .class_ 2), (0, u "java/lang/Comparable"), (0, .class_ 4), (0, u "java/lang/Object")] 7

/-- java/lang/Comparable -/
def k5 : Class := { plain "java/lang/Comparable" (some 0) with
  accessFlags := 1537
  interfaces := #[]
  cf := some (fileOf pool5 1 #[] #[] 1537 3 #[] #[])
  fields := #[]
  methods := #[]
  instanceTypes := #[]
  staticTypes := #[]
  resolved := Array.replicate 12 none
  statics := none }

def pool6 : Array CpInfo := pool [(1, .class_ 2), (0, u "java/lang/constant/Constable"), (0, .class_ 4), (0, u "java/lang/Object")] 6

/-- java/lang/constant/Constable -/
def k6 : Class := { plain "java/lang/constant/Constable" (some 0) with
  accessFlags := 1537
  interfaces := #[]
  cf := some (fileOf pool6 1 #[] #[] 1537 3 #[] #[])
  fields := #[]
  methods := #[]
  instanceTypes := #[]
  staticTypes := #[]
  resolved := Array.replicate 11 none
  statics := none }

def pool7 : Array CpInfo := pool [(1, .class_ 2), (0, u "java/lang/constant/ConstantDesc"), (0, .class_ 4), (0, u "java/lang/Object")] 32

/-- java/lang/constant/ConstantDesc -/
def k7 : Class := { plain "java/lang/constant/ConstantDesc" (some 0) with
  accessFlags := 1537
  interfaces := #[]
  cf := some (fileOf pool7 1 #[] #[] 1537 3 #[] #[])
  fields := #[]
  methods := #[]
  instanceTypes := #[]
  staticTypes := #[]
  resolved := Array.replicate 37 none
  statics := none }

def pool8 : Array CpInfo := pool [(1, .class_ 2), (0, u "java/lang/Long"), (55, .nameAndType 59 60), (0, u "<init>"), (0, u "()V"), (24, u "valueOf"), (143, u "(J)Ljava/lang/Long;"), (0, .long 18446744073709551488), (1, .long 127), (1, .fieldref 235 236), (0, .class_ 237), (0, .nameAndType 238 239), (0, u "java/lang/Long$LongCache"), (0, u "cache"), (0, u "[Ljava/lang/Long;"), (0, .methodref 1 241), (0, .nameAndType 59 242), (0, u "(J)V"), (27, .methodref 271 58), (0, .class_ 272), (0, u "java/lang/Number"), (0, .fieldref 1 274), (0, .nameAndType 275 276), (0, u "value"), (0, u "J"), (84, u "TYPE"), (0, u "Ljava/lang/Class;"), (0, .class_ 364), (0, u "java/lang/Comparable"), (0, .class_ 366), (0, u "java/lang/constant/Constable"), (0, .class_ 368), (0, u "java/lang/constant/ConstantDesc"), (0, u "MIN_VALUE"), (1, u "MAX_VALUE"), (4, u "SIZE"), (0, u "I"), (1, u "BYTES"), (1, u "serialVersionUID")] 142

def k8c0 : Code := { maxStack := 4, maxLocals := 3, code := jdk_35_method_24_code, exceptionTable := #[], attributes := #[] }
def k8m0 : Method := { name := "valueOf", desc := "(J)Ljava/lang/Long;", sig := { parameters := [.long], returnType := some (.object "java/lang/Long") }, accessFlags := 9, code := some k8c0 }
def k8c1 : Code := { maxStack := 3, maxLocals := 3, code := jdk_35_method_26_code, exceptionTable := #[], attributes := #[] }
def k8m1 : Method := { name := "<init>", desc := "(J)V", sig := { parameters := [.long], returnType := none }, accessFlags := 1, code := some k8c1 }
/-- java/lang/Long -/
def k8 : Class := { plain "java/lang/Long" (some 4) with
  accessFlags := 49
  interfaces := #[5, 6, 7]
  cf := some (fileOf pool8 1 #[.nestMembers #[235]] #[{ accessFlags := 9, nameIndex := 85, descriptorIndex := 229, attributes := #[] }, { accessFlags := 1, nameIndex := 59, descriptorIndex := 242, attributes := #[] }] 49 271 #[363, 365, 367] #[{ accessFlags := 25, nameIndex := 369, descriptorIndex := 276, attributes := #[] }, { accessFlags := 25, nameIndex := 371, descriptorIndex := 276, attributes := #[] }, { accessFlags := 25, nameIndex := 361, descriptorIndex := 362, attributes := #[] }, { accessFlags := 18, nameIndex := 275, descriptorIndex := 276, attributes := #[] }, { accessFlags := 25, nameIndex := 376, descriptorIndex := 377, attributes := #[] }, { accessFlags := 25, nameIndex := 379, descriptorIndex := 377, attributes := #[] }, { accessFlags := 26, nameIndex := 381, descriptorIndex := 276, attributes := #[] }])
  fields := #[{ name := "MIN_VALUE", type := .long, accessFlags := 25, slot := 0, constantValue := 0 }, { name := "MAX_VALUE", type := .long, accessFlags := 25, slot := 1, constantValue := 0 }, { name := "TYPE", type := (.object "java/lang/Class"), accessFlags := 25, slot := 2, constantValue := 0 }, { name := "value", type := .long, accessFlags := 18, slot := 0, constantValue := 0 }, { name := "SIZE", type := .int, accessFlags := 25, slot := 3, constantValue := 0 }, { name := "BYTES", type := .int, accessFlags := 25, slot := 4, constantValue := 0 }, { name := "serialVersionUID", type := .long, accessFlags := 26, slot := 5, constantValue := 0 }]
  methods := #[k8m0, k8m1]
  instanceTypes := #[.long]
  staticTypes := #[.long, .long, (.object "java/lang/Class"), .int, .int, .long]
  resolved := Array.replicate 524 none
  statics := none }

def pool9 : Array CpInfo := pool [(2, .class_ 4), (1, u "java/lang/Object"), (0, u "<init>"), (0, u "()V"), (0, .class_ 8), (0, u "java/lang/Long"), (7, .class_ 18), (1, u "java/lang/Long$LongCache"), (0, u "$assertionsDisabled"), (0, u "Z"), (8, u "archivedCache"), (0, u "[Ljava/lang/Long;"), (7, u "cache")] 24

def k9m0 : Method := { name := "<init>", desc := "()V", sig := { parameters := [], returnType := none }, accessFlags := 2, code := none }
/-- java/lang/Long$LongCache -/
def k9 : Class := { plain "java/lang/Long$LongCache" (some 0) with
  accessFlags := 48
  interfaces := #[]
  cf := some (fileOf pool9 16 #[.nestHost 7] #[{ accessFlags := 2, nameIndex := 5, descriptorIndex := 6, attributes := #[] }] 48 2 #[] #[{ accessFlags := 24, nameIndex := 38, descriptorIndex := 30, attributes := #[] }, { accessFlags := 8, nameIndex := 29, descriptorIndex := 30, attributes := #[] }, { accessFlags := 4120, nameIndex := 19, descriptorIndex := 20, attributes := #[] }])
  fields := #[{ name := "cache", type := (.array (.object "java/lang/Long")), accessFlags := 24, slot := 0, constantValue := 0 }, { name := "archivedCache", type := (.array (.object "java/lang/Long")), accessFlags := 8, slot := 1, constantValue := 0 }, { name := "$assertionsDisabled", type := .boolean, accessFlags := 4120, slot := 2, constantValue := 0 }]
  methods := #[k9m0]
  instanceTypes := #[]
  staticTypes := #[(.array (.object "java/lang/Long")), (.array (.object "java/lang/Long")), .boolean]
  resolved := Array.replicate 63 none
  statics := some 0 }

def pool10 : Array CpInfo := pool [(1, u "java/lang/Cloneable"), (0, .class_ 1), (0, u "java/lang/Object"), (0, .class_ 3)] 3

/-- java/lang/Cloneable -/
def k10 : Class := { plain "java/lang/Cloneable" (some 0) with
  accessFlags := 1537
  interfaces := #[]
  cf := some (fileOf pool10 2 #[] #[] 1537 4 #[] #[])
  fields := #[]
  methods := #[]
  instanceTypes := #[]
  staticTypes := #[]
  resolved := Array.replicate 8 none
  statics := none }

/-- the primitive byte -/
def k11 : Class := { plain "byte" none with kind := .primitive 'B', accessFlags := 0x411 }
/-- [B -/
def k12 : Class := { plain "[B" (some 0) with kind := .array 11 .byte, interfaces := #[10, 3], accessFlags := 1041 }

/-- the primitive int -/
def k13 : Class := { plain "int" none with kind := .primitive 'I', accessFlags := 0x411 }
/-- [I -/
def k14 : Class := { plain "[I" (some 0) with kind := .array 13 .int, interfaces := #[10, 3], accessFlags := 1041 }

/-- [Ljava/lang/Long; -/
def k15 : Class := { plain "[Ljava/lang/Long;" (some 0) with kind := .array 8 (.object "java/lang/Long"), interfaces := #[10, 3], accessFlags := 1041 }

def heap : Heap := #[{ cls := 9, slots := #[.ref 1, .null, .int 0], vm := .statics 9 },
  { cls := 15, slots := #[.ref 2, .ref 3, .ref 4, .ref 5, .ref 6, .ref 7, .ref 8, .ref 9, .ref 10, .ref 11, .ref 12, .ref 13, .ref 14, .ref 15, .ref 16, .ref 17, .ref 18, .ref 19, .ref 20, .ref 21, .ref 22, .ref 23, .ref 24, .ref 25, .ref 26, .ref 27, .ref 28, .ref 29, .ref 30, .ref 31, .ref 32, .ref 33, .ref 34, .ref 35, .ref 36, .ref 37, .ref 38, .ref 39, .ref 40, .ref 41, .ref 42, .ref 43, .ref 44, .ref 45, .ref 46, .ref 47, .ref 48, .ref 49, .ref 50, .ref 51, .ref 52, .ref 53, .ref 54, .ref 55, .ref 56, .ref 57, .ref 58, .ref 59, .ref 60, .ref 61, .ref 62, .ref 63, .ref 64, .ref 65, .ref 66, .ref 67, .ref 68, .ref 69, .ref 70, .ref 71, .ref 72, .ref 73, .ref 74, .ref 75, .ref 76, .ref 77, .ref 78, .ref 79, .ref 80, .ref 81, .ref 82, .ref 83, .ref 84, .ref 85, .ref 86, .ref 87, .ref 88, .ref 89, .ref 90, .ref 91, .ref 92, .ref 93, .ref 94, .ref 95, .ref 96, .ref 97, .ref 98, .ref 99, .ref 100, .ref 101, .ref 102, .ref 103, .ref 104, .ref 105, .ref 106, .ref 107, .ref 108, .ref 109, .ref 110, .ref 111, .ref 112, .ref 113, .ref 114, .ref 115, .ref 116, .ref 117, .ref 118, .ref 119, .ref 120, .ref 121, .ref 122, .ref 123, .ref 124, .ref 125, .ref 126, .ref 127, .ref 128, .ref 129, .ref 130, .ref 131, .ref 132, .ref 133, .ref 134, .ref 135, .ref 136, .ref 137, .ref 138, .ref 139, .ref 140, .ref 141, .ref 142, .ref 143, .ref 144, .ref 145, .ref 146, .ref 147, .ref 148, .ref 149, .ref 150, .ref 151, .ref 152, .ref 153, .ref 154, .ref 155, .ref 156, .ref 157, .ref 158, .ref 159, .ref 160, .ref 161, .ref 162, .ref 163, .ref 164, .ref 165, .ref 166, .ref 167, .ref 168, .ref 169, .ref 170, .ref 171, .ref 172, .ref 173, .ref 174, .ref 175, .ref 176, .ref 177, .ref 178, .ref 179, .ref 180, .ref 181, .ref 182, .ref 183, .ref 184, .ref 185, .ref 186, .ref 187, .ref 188, .ref 189, .ref 190, .ref 191, .ref 192, .ref 193, .ref 194, .ref 195, .ref 196, .ref 197, .ref 198, .ref 199, .ref 200, .ref 201, .ref 202, .ref 203, .ref 204, .ref 205, .ref 206, .ref 207, .ref 208, .ref 209, .ref 210, .ref 211, .ref 212, .ref 213, .ref 214, .ref 215, .ref 216, .ref 217, .ref 218, .ref 219, .ref 220, .ref 221, .ref 222, .ref 223, .ref 224, .ref 225, .ref 226, .ref 227, .ref 228, .ref 229, .ref 230, .ref 231, .ref 232, .ref 233, .ref 234, .ref 235, .ref 236, .ref 237, .ref 238, .ref 239, .ref 240, .ref 241, .ref 242, .ref 243, .ref 244, .ref 245, .ref 246, .ref 247, .ref 248, .ref 249, .ref 250, .ref 251, .ref 252, .ref 253, .ref 254, .ref 255, .ref 256, .ref 257], vm := .none },
  { cls := 8, slots := #[.long (-128)], vm := .none },
  { cls := 8, slots := #[.long (-127)], vm := .none },
  { cls := 8, slots := #[.long (-126)], vm := .none },
  { cls := 8, slots := #[.long (-125)], vm := .none },
  { cls := 8, slots := #[.long (-124)], vm := .none },
  { cls := 8, slots := #[.long (-123)], vm := .none },
  { cls := 8, slots := #[.long (-122)], vm := .none },
  { cls := 8, slots := #[.long (-121)], vm := .none },
  { cls := 8, slots := #[.long (-120)], vm := .none },
  { cls := 8, slots := #[.long (-119)], vm := .none },
  { cls := 8, slots := #[.long (-118)], vm := .none },
  { cls := 8, slots := #[.long (-117)], vm := .none },
  { cls := 8, slots := #[.long (-116)], vm := .none },
  { cls := 8, slots := #[.long (-115)], vm := .none },
  { cls := 8, slots := #[.long (-114)], vm := .none },
  { cls := 8, slots := #[.long (-113)], vm := .none },
  { cls := 8, slots := #[.long (-112)], vm := .none },
  { cls := 8, slots := #[.long (-111)], vm := .none },
  { cls := 8, slots := #[.long (-110)], vm := .none },
  { cls := 8, slots := #[.long (-109)], vm := .none },
  { cls := 8, slots := #[.long (-108)], vm := .none },
  { cls := 8, slots := #[.long (-107)], vm := .none },
  { cls := 8, slots := #[.long (-106)], vm := .none },
  { cls := 8, slots := #[.long (-105)], vm := .none },
  { cls := 8, slots := #[.long (-104)], vm := .none },
  { cls := 8, slots := #[.long (-103)], vm := .none },
  { cls := 8, slots := #[.long (-102)], vm := .none },
  { cls := 8, slots := #[.long (-101)], vm := .none },
  { cls := 8, slots := #[.long (-100)], vm := .none },
  { cls := 8, slots := #[.long (-99)], vm := .none },
  { cls := 8, slots := #[.long (-98)], vm := .none },
  { cls := 8, slots := #[.long (-97)], vm := .none },
  { cls := 8, slots := #[.long (-96)], vm := .none },
  { cls := 8, slots := #[.long (-95)], vm := .none },
  { cls := 8, slots := #[.long (-94)], vm := .none },
  { cls := 8, slots := #[.long (-93)], vm := .none },
  { cls := 8, slots := #[.long (-92)], vm := .none },
  { cls := 8, slots := #[.long (-91)], vm := .none },
  { cls := 8, slots := #[.long (-90)], vm := .none },
  { cls := 8, slots := #[.long (-89)], vm := .none },
  { cls := 8, slots := #[.long (-88)], vm := .none },
  { cls := 8, slots := #[.long (-87)], vm := .none },
  { cls := 8, slots := #[.long (-86)], vm := .none },
  { cls := 8, slots := #[.long (-85)], vm := .none },
  { cls := 8, slots := #[.long (-84)], vm := .none },
  { cls := 8, slots := #[.long (-83)], vm := .none },
  { cls := 8, slots := #[.long (-82)], vm := .none },
  { cls := 8, slots := #[.long (-81)], vm := .none },
  { cls := 8, slots := #[.long (-80)], vm := .none },
  { cls := 8, slots := #[.long (-79)], vm := .none },
  { cls := 8, slots := #[.long (-78)], vm := .none },
  { cls := 8, slots := #[.long (-77)], vm := .none },
  { cls := 8, slots := #[.long (-76)], vm := .none },
  { cls := 8, slots := #[.long (-75)], vm := .none },
  { cls := 8, slots := #[.long (-74)], vm := .none },
  { cls := 8, slots := #[.long (-73)], vm := .none },
  { cls := 8, slots := #[.long (-72)], vm := .none },
  { cls := 8, slots := #[.long (-71)], vm := .none },
  { cls := 8, slots := #[.long (-70)], vm := .none },
  { cls := 8, slots := #[.long (-69)], vm := .none },
  { cls := 8, slots := #[.long (-68)], vm := .none },
  { cls := 8, slots := #[.long (-67)], vm := .none },
  { cls := 8, slots := #[.long (-66)], vm := .none },
  { cls := 8, slots := #[.long (-65)], vm := .none },
  { cls := 8, slots := #[.long (-64)], vm := .none },
  { cls := 8, slots := #[.long (-63)], vm := .none },
  { cls := 8, slots := #[.long (-62)], vm := .none },
  { cls := 8, slots := #[.long (-61)], vm := .none },
  { cls := 8, slots := #[.long (-60)], vm := .none },
  { cls := 8, slots := #[.long (-59)], vm := .none },
  { cls := 8, slots := #[.long (-58)], vm := .none },
  { cls := 8, slots := #[.long (-57)], vm := .none },
  { cls := 8, slots := #[.long (-56)], vm := .none },
  { cls := 8, slots := #[.long (-55)], vm := .none },
  { cls := 8, slots := #[.long (-54)], vm := .none },
  { cls := 8, slots := #[.long (-53)], vm := .none },
  { cls := 8, slots := #[.long (-52)], vm := .none },
  { cls := 8, slots := #[.long (-51)], vm := .none },
  { cls := 8, slots := #[.long (-50)], vm := .none },
  { cls := 8, slots := #[.long (-49)], vm := .none },
  { cls := 8, slots := #[.long (-48)], vm := .none },
  { cls := 8, slots := #[.long (-47)], vm := .none },
  { cls := 8, slots := #[.long (-46)], vm := .none },
  { cls := 8, slots := #[.long (-45)], vm := .none },
  { cls := 8, slots := #[.long (-44)], vm := .none },
  { cls := 8, slots := #[.long (-43)], vm := .none },
  { cls := 8, slots := #[.long (-42)], vm := .none },
  { cls := 8, slots := #[.long (-41)], vm := .none },
  { cls := 8, slots := #[.long (-40)], vm := .none },
  { cls := 8, slots := #[.long (-39)], vm := .none },
  { cls := 8, slots := #[.long (-38)], vm := .none },
  { cls := 8, slots := #[.long (-37)], vm := .none },
  { cls := 8, slots := #[.long (-36)], vm := .none },
  { cls := 8, slots := #[.long (-35)], vm := .none },
  { cls := 8, slots := #[.long (-34)], vm := .none },
  { cls := 8, slots := #[.long (-33)], vm := .none },
  { cls := 8, slots := #[.long (-32)], vm := .none },
  { cls := 8, slots := #[.long (-31)], vm := .none },
  { cls := 8, slots := #[.long (-30)], vm := .none },
  { cls := 8, slots := #[.long (-29)], vm := .none },
  { cls := 8, slots := #[.long (-28)], vm := .none },
  { cls := 8, slots := #[.long (-27)], vm := .none },
  { cls := 8, slots := #[.long (-26)], vm := .none },
  { cls := 8, slots := #[.long (-25)], vm := .none },
  { cls := 8, slots := #[.long (-24)], vm := .none },
  { cls := 8, slots := #[.long (-23)], vm := .none },
  { cls := 8, slots := #[.long (-22)], vm := .none },
  { cls := 8, slots := #[.long (-21)], vm := .none },
  { cls := 8, slots := #[.long (-20)], vm := .none },
  { cls := 8, slots := #[.long (-19)], vm := .none },
  { cls := 8, slots := #[.long (-18)], vm := .none },
  { cls := 8, slots := #[.long (-17)], vm := .none },
  { cls := 8, slots := #[.long (-16)], vm := .none },
  { cls := 8, slots := #[.long (-15)], vm := .none },
  { cls := 8, slots := #[.long (-14)], vm := .none },
  { cls := 8, slots := #[.long (-13)], vm := .none },
  { cls := 8, slots := #[.long (-12)], vm := .none },
  { cls := 8, slots := #[.long (-11)], vm := .none },
  { cls := 8, slots := #[.long (-10)], vm := .none },
  { cls := 8, slots := #[.long (-9)], vm := .none },
  { cls := 8, slots := #[.long (-8)], vm := .none },
  { cls := 8, slots := #[.long (-7)], vm := .none },
  { cls := 8, slots := #[.long (-6)], vm := .none },
  { cls := 8, slots := #[.long (-5)], vm := .none },
  { cls := 8, slots := #[.long (-4)], vm := .none },
  { cls := 8, slots := #[.long (-3)], vm := .none },
  { cls := 8, slots := #[.long (-2)], vm := .none },
  { cls := 8, slots := #[.long (-1)], vm := .none },
  { cls := 8, slots := #[.long (0)], vm := .none },
  { cls := 8, slots := #[.long (1)], vm := .none },
  { cls := 8, slots := #[.long (2)], vm := .none },
  { cls := 8, slots := #[.long (3)], vm := .none },
  { cls := 8, slots := #[.long (4)], vm := .none },
  { cls := 8, slots := #[.long (5)], vm := .none },
  { cls := 8, slots := #[.long (6)], vm := .none },
  { cls := 8, slots := #[.long (7)], vm := .none },
  { cls := 8, slots := #[.long (8)], vm := .none },
  { cls := 8, slots := #[.long (9)], vm := .none },
  { cls := 8, slots := #[.long (10)], vm := .none },
  { cls := 8, slots := #[.long (11)], vm := .none },
  { cls := 8, slots := #[.long (12)], vm := .none },
  { cls := 8, slots := #[.long (13)], vm := .none },
  { cls := 8, slots := #[.long (14)], vm := .none },
  { cls := 8, slots := #[.long (15)], vm := .none },
  { cls := 8, slots := #[.long (16)], vm := .none },
  { cls := 8, slots := #[.long (17)], vm := .none },
  { cls := 8, slots := #[.long (18)], vm := .none },
  { cls := 8, slots := #[.long (19)], vm := .none },
  { cls := 8, slots := #[.long (20)], vm := .none },
  { cls := 8, slots := #[.long (21)], vm := .none },
  { cls := 8, slots := #[.long (22)], vm := .none },
  { cls := 8, slots := #[.long (23)], vm := .none },
  { cls := 8, slots := #[.long (24)], vm := .none },
  { cls := 8, slots := #[.long (25)], vm := .none },
  { cls := 8, slots := #[.long (26)], vm := .none },
  { cls := 8, slots := #[.long (27)], vm := .none },
  { cls := 8, slots := #[.long (28)], vm := .none },
  { cls := 8, slots := #[.long (29)], vm := .none },
  { cls := 8, slots := #[.long (30)], vm := .none },
  { cls := 8, slots := #[.long (31)], vm := .none },
  { cls := 8, slots := #[.long (32)], vm := .none },
  { cls := 8, slots := #[.long (33)], vm := .none },
  { cls := 8, slots := #[.long (34)], vm := .none },
  { cls := 8, slots := #[.long (35)], vm := .none },
  { cls := 8, slots := #[.long (36)], vm := .none },
  { cls := 8, slots := #[.long (37)], vm := .none },
  { cls := 8, slots := #[.long (38)], vm := .none },
  { cls := 8, slots := #[.long (39)], vm := .none },
  { cls := 8, slots := #[.long (40)], vm := .none },
  { cls := 8, slots := #[.long (41)], vm := .none },
  { cls := 8, slots := #[.long (42)], vm := .none },
  { cls := 8, slots := #[.long (43)], vm := .none },
  { cls := 8, slots := #[.long (44)], vm := .none },
  { cls := 8, slots := #[.long (45)], vm := .none },
  { cls := 8, slots := #[.long (46)], vm := .none },
  { cls := 8, slots := #[.long (47)], vm := .none },
  { cls := 8, slots := #[.long (48)], vm := .none },
  { cls := 8, slots := #[.long (49)], vm := .none },
  { cls := 8, slots := #[.long (50)], vm := .none },
  { cls := 8, slots := #[.long (51)], vm := .none },
  { cls := 8, slots := #[.long (52)], vm := .none },
  { cls := 8, slots := #[.long (53)], vm := .none },
  { cls := 8, slots := #[.long (54)], vm := .none },
  { cls := 8, slots := #[.long (55)], vm := .none },
  { cls := 8, slots := #[.long (56)], vm := .none },
  { cls := 8, slots := #[.long (57)], vm := .none },
  { cls := 8, slots := #[.long (58)], vm := .none },
  { cls := 8, slots := #[.long (59)], vm := .none },
  { cls := 8, slots := #[.long (60)], vm := .none },
  { cls := 8, slots := #[.long (61)], vm := .none },
  { cls := 8, slots := #[.long (62)], vm := .none },
  { cls := 8, slots := #[.long (63)], vm := .none },
  { cls := 8, slots := #[.long (64)], vm := .none },
  { cls := 8, slots := #[.long (65)], vm := .none },
  { cls := 8, slots := #[.long (66)], vm := .none },
  { cls := 8, slots := #[.long (67)], vm := .none },
  { cls := 8, slots := #[.long (68)], vm := .none },
  { cls := 8, slots := #[.long (69)], vm := .none },
  { cls := 8, slots := #[.long (70)], vm := .none },
  { cls := 8, slots := #[.long (71)], vm := .none },
  { cls := 8, slots := #[.long (72)], vm := .none },
  { cls := 8, slots := #[.long (73)], vm := .none },
  { cls := 8, slots := #[.long (74)], vm := .none },
  { cls := 8, slots := #[.long (75)], vm := .none },
  { cls := 8, slots := #[.long (76)], vm := .none },
  { cls := 8, slots := #[.long (77)], vm := .none },
  { cls := 8, slots := #[.long (78)], vm := .none },
  { cls := 8, slots := #[.long (79)], vm := .none },
  { cls := 8, slots := #[.long (80)], vm := .none },
  { cls := 8, slots := #[.long (81)], vm := .none },
  { cls := 8, slots := #[.long (82)], vm := .none },
  { cls := 8, slots := #[.long (83)], vm := .none },
  { cls := 8, slots := #[.long (84)], vm := .none },
  { cls := 8, slots := #[.long (85)], vm := .none },
  { cls := 8, slots := #[.long (86)], vm := .none },
  { cls := 8, slots := #[.long (87)], vm := .none },
  { cls := 8, slots := #[.long (88)], vm := .none },
  { cls := 8, slots := #[.long (89)], vm := .none },
  { cls := 8, slots := #[.long (90)], vm := .none },
  { cls := 8, slots := #[.long (91)], vm := .none },
  { cls := 8, slots := #[.long (92)], vm := .none },
  { cls := 8, slots := #[.long (93)], vm := .none },
  { cls := 8, slots := #[.long (94)], vm := .none },
  { cls := 8, slots := #[.long (95)], vm := .none },
  { cls := 8, slots := #[.long (96)], vm := .none },
  { cls := 8, slots := #[.long (97)], vm := .none },
  { cls := 8, slots := #[.long (98)], vm := .none },
  { cls := 8, slots := #[.long (99)], vm := .none },
  { cls := 8, slots := #[.long (100)], vm := .none },
  { cls := 8, slots := #[.long (101)], vm := .none },
  { cls := 8, slots := #[.long (102)], vm := .none },
  { cls := 8, slots := #[.long (103)], vm := .none },
  { cls := 8, slots := #[.long (104)], vm := .none },
  { cls := 8, slots := #[.long (105)], vm := .none },
  { cls := 8, slots := #[.long (106)], vm := .none },
  { cls := 8, slots := #[.long (107)], vm := .none },
  { cls := 8, slots := #[.long (108)], vm := .none },
  { cls := 8, slots := #[.long (109)], vm := .none },
  { cls := 8, slots := #[.long (110)], vm := .none },
  { cls := 8, slots := #[.long (111)], vm := .none },
  { cls := 8, slots := #[.long (112)], vm := .none },
  { cls := 8, slots := #[.long (113)], vm := .none },
  { cls := 8, slots := #[.long (114)], vm := .none },
  { cls := 8, slots := #[.long (115)], vm := .none },
  { cls := 8, slots := #[.long (116)], vm := .none },
  { cls := 8, slots := #[.long (117)], vm := .none },
  { cls := 8, slots := #[.long (118)], vm := .none },
  { cls := 8, slots := #[.long (119)], vm := .none },
  { cls := 8, slots := #[.long (120)], vm := .none },
  { cls := 8, slots := #[.long (121)], vm := .none },
  { cls := 8, slots := #[.long (122)], vm := .none },
  { cls := 8, slots := #[.long (123)], vm := .none },
  { cls := 8, slots := #[.long (124)], vm := .none },
  { cls := 8, slots := #[.long (125)], vm := .none },
  { cls := 8, slots := #[.long (126)], vm := .none },
  { cls := 8, slots := #[.long (127)], vm := .none }]
def classes : Array Class := #[k0, k1, k2, k3, k4, k5, k6, k7, k8, k9, k10, k11, k12, k13, k14, k15]
def interned : List (Array UInt16 × Addr) := []
def slotsUsed : Nat := 515
def theMethod : MethodId := ⟨1, 1⟩
def args0 : Array Value := #[.long 1, .long 2, .long 3, .long 4, .long 5, .int 5]
def aboutOver (below : List Frame) : State where
  vm := { classes := classes, interned := interned.toArray }
  heap := heap
  slotsUsed := slotsUsed
  threads := #[{ frames := .invoking theMethod args0 :: below }]
def below0 : List Frame := [.native { method := ⟨0, 0⟩, args := #[] }]
def about1 : State := aboutOver below0
def p0 : Program := .bare "" "" ""
def e0 : Env := launch0.env 0 0 0
theorem w_frames : about1.frames = Frame.invoking theMethod args0 :: below0 := rfl
set_option maxRecDepth 65536 in
theorem w_args : argsFit about1.vm theMethod args0 = true := by decide +kernel
set_option maxRecDepth 65536 in
theorem w_heap : heapFits about1 = true := by decide +kernel
set_option maxRecDepth 65536 in
theorem w_runnable : about1.curStatus? = some .runnable := by decide +kernel
set_option maxRecDepth 65536 in
theorem w_alone : about1.alone = true := by decide +kernel
set_option maxRecDepth 65536 in
theorem w_named : about1.methodNamed? x = some theMethod := by decide +kernel
set_option maxRecDepth 65536 in
theorem w_hears : about1.hears theMethod below0 = true := by decide +kernel
set_option maxRecDepth 65536 in
theorem w_ripe : about1.ripe theMethod args0 below0 = true := by decide +kernel
theorem w_running : about1.status = .running := rfl
set_option maxRecDepth 65536 in
theorem w_room : about1.hasRoom e0.platform room_1 = true :=
  launch0.hasRoom_least _ room_1 (by decide +kernel) (by decide +kernel) (by decide +kernel) (by decide +kernel) (by decide +kernel) (by decide +kernel)
theorem allAtoms_all (ts : List Jvm.Cond) (a : Array Jvm.Value) (st : Jvm.State) : (allAtoms ts).before a st = ts.all (fun c => c.before a st) := by
  induction ts with
  | nil => rfl
  | cons c t ih =>
    show (Jvm.Cond.and c (allAtoms t)).before a st = _
    rw [Jvm.Cond.before_and, ih, List.all_cons]
def words1 : List Jvm.Cond := Jvm.Cond.code x code maxLocals ret :: tables_1
/-- a 'code' word, met by the world's own term for the bytes: nothing is compared byte by byte -/
theorem code_word {y : MethodName} {bytes : ByteArray} {mx : Nat} {rt : Option FieldType} {a : Array Value} {s : State} {m : MethodId} {meth : Method} {c : Code} (h1 : s.methodNamed? y = some m) (h2 : s.vm.method? m = some meth) (h3 : meth.code = some c) (h4 : c.code = bytes)
    (h5 : (c.maxLocals == mx && c.exceptionTable.isEmpty && decide (c.maxStack ≤ mostOperands) && decide (meth.sig.returnType = rt) && !meth.locks && decide (parseMethodDescriptor y.desc = some meth.sig)) = true) : (Jvm.Cond.code y bytes mx rt).before a s = true := by
  simp only [Bool.and_eq_true, beq_iff_eq, Bool.not_eq_true', decide_eq_true_eq] at h5
  obtain ⟨⟨⟨⟨⟨g1, g2⟩, g3⟩, g4⟩, g5⟩, g6⟩ := h5
  simp [Cond.before, Cond.holds, Cond.value, h1, h2, h3, h4, g1, g2, g3, g4, g5, g6]
def isCode : Jvm.Cond → Bool
  | .code _ _ _ _ => true
  | _ => false
theorem all_split {L : List Jvm.Cond} {P : Jvm.Cond → Bool} (h1 : L.all (fun c => isCode c || P c) = true) (h2 : ∀ c ∈ L.filter isCode, P c = true) : L.all P = true := by
  refine List.all_eq_true.mpr fun c hc => ?_
  have h := List.all_eq_true.mp h1 c hc
  rcases Bool.eq_false_or_eq_true (isCode c) with hi | hi
  · exact h2 c (List.mem_filter.mpr ⟨hc, hi⟩)
  · simpa [hi] using h
set_option maxRecDepth 65536 in
theorem w_c0 : (Jvm.Cond.code x code maxLocals ret).before args0 about1 = true := code_word (m := ⟨1, 1⟩) (meth := k1m1) (c := k1c1) (by decide +kernel) rfl rfl rfl (by decide +kernel)
set_option maxRecDepth 65536 in
theorem w_c1 : (Jvm.Cond.code ({ cls := "com/example/strict_queue/strictqueue/storage/RecoveryPoint", name := "<init>", desc := "(JJJ)V" } : Jvm.MethodName) prog_36_method_1_code (7 : Nat) (Option.none : Option Jvm.ClassFile.FieldType)).before args0 about1 = true := code_word (m := ⟨2, 0⟩) (meth := k2m0) (c := k2c0) (by decide +kernel) rfl rfl rfl (by decide +kernel)
set_option maxRecDepth 65536 in
theorem w_c2 : (Jvm.Cond.code ({ cls := "java/lang/Object", name := "<init>", desc := "()V" } : Jvm.MethodName) object_method_1_code (1 : Nat) (Option.none : Option Jvm.ClassFile.FieldType)).before args0 about1 = true := code_word (m := ⟨0, 0⟩) (meth := k0m0) (c := k0c0) (by decide +kernel) rfl rfl rfl (by decide +kernel)
set_option maxRecDepth 65536 in
theorem w_c3 : (Jvm.Cond.code ({ cls := "com/example/strict_queue/strictqueue/storage/RecoveryPoint", name := "equals", desc := "(Ljava/lang/Object;)Z" } : Jvm.MethodName) prog_36_method_5_code (2 : Nat) (Option.some Jvm.ClassFile.FieldType.boolean)).before args0 about1 = true := code_word (m := ⟨2, 1⟩) (meth := k2m1) (c := k2c1) (by decide +kernel) rfl rfl rfl (by decide +kernel)
set_option maxRecDepth 65536 in
theorem w_c4 : (Jvm.Cond.code ({ cls := "java/lang/Long", name := "valueOf", desc := "(J)Ljava/lang/Long;" } : Jvm.MethodName) jdk_35_method_24_code (3 : Nat) (Option.some (Jvm.ClassFile.FieldType.object "java/lang/Long"))).before args0 about1 = true := code_word (m := ⟨8, 0⟩) (meth := k8m0) (c := k8c0) (by decide +kernel) rfl rfl rfl (by decide +kernel)
set_option maxRecDepth 65536 in
theorem w_c5 : (Jvm.Cond.code ({ cls := "java/lang/Long", name := "<init>", desc := "(J)V" } : Jvm.MethodName) jdk_35_method_26_code (3 : Nat) (Option.none : Option Jvm.ClassFile.FieldType)).before args0 about1 = true := code_word (m := ⟨8, 1⟩) (meth := k8m1) (c := k8c1) (by decide +kernel) rfl rfl rfl (by decide +kernel)
set_option maxRecDepth 65536 in
theorem w_c6 : (Jvm.Cond.code ({ cls := "java/lang/Number", name := "<init>", desc := "()V" } : Jvm.MethodName) jdk_18_method_1_code (1 : Nat) (Option.none : Option Jvm.ClassFile.FieldType)).before args0 about1 = true := code_word (m := ⟨4, 0⟩) (meth := k4m0) (c := k4c0) (by decide +kernel) rfl rfl rfl (by decide +kernel)
def codes1 : List Jvm.Cond := [Jvm.Cond.code x code maxLocals ret, Jvm.Cond.code ({ cls := "com/example/strict_queue/strictqueue/storage/RecoveryPoint", name := "<init>", desc := "(JJJ)V" } : Jvm.MethodName) prog_36_method_1_code (7 : Nat) (Option.none : Option Jvm.ClassFile.FieldType), Jvm.Cond.code ({ cls := "java/lang/Object", name := "<init>", desc := "()V" } : Jvm.MethodName) object_method_1_code (1 : Nat) (Option.none : Option Jvm.ClassFile.FieldType), Jvm.Cond.code ({ cls := "com/example/strict_queue/strictqueue/storage/RecoveryPoint", name := "equals", desc := "(Ljava/lang/Object;)Z" } : Jvm.MethodName) prog_36_method_5_code (2 : Nat) (Option.some Jvm.ClassFile.FieldType.boolean), Jvm.Cond.code ({ cls := "java/lang/Long", name := "valueOf", desc := "(J)Ljava/lang/Long;" } : Jvm.MethodName) jdk_35_method_24_code (3 : Nat) (Option.some (Jvm.ClassFile.FieldType.object "java/lang/Long")), Jvm.Cond.code ({ cls := "java/lang/Long", name := "<init>", desc := "(J)V" } : Jvm.MethodName) jdk_35_method_26_code (3 : Nat) (Option.none : Option Jvm.ClassFile.FieldType), Jvm.Cond.code ({ cls := "java/lang/Number", name := "<init>", desc := "()V" } : Jvm.MethodName) jdk_18_method_1_code (1 : Nat) (Option.none : Option Jvm.ClassFile.FieldType)]
set_option maxRecDepth 65536 in
theorem codes_eq : words1.filter isCode = codes1 := rfl
theorem w_codes : ∀ c ∈ words1.filter isCode, c.before args0 about1 = true := by
  rw [codes_eq]
  intro c hc
  simp only [codes1, List.mem_cons, List.not_mem_nil, or_false] at hc
  rcases hc with rfl | rfl | rfl | rfl | rfl | rfl | rfl
  · exact w_c0
  · exact w_c1
  · exact w_c2
  · exact w_c3
  · exact w_c4
  · exact w_c5
  · exact w_c6
set_option maxRecDepth 65536 in
theorem w_t1 : (words1.take 24).all (fun c => isCode c || c.before args0 about1) = true := by decide +kernel
set_option maxRecDepth 65536 in
theorem w_t2 : ((words1.drop 24).take 24).all (fun c => isCode c || c.before args0 about1) = true := by decide +kernel
set_option maxRecDepth 65536 in
theorem w_t3 : ((words1.drop 24).drop 24).all (fun c => isCode c || c.before args0 about1) = true := by decide +kernel
theorem w_tables : (allAtoms (Jvm.Cond.code x code maxLocals ret :: tables_1)).before args0 about1 = true := by
  rw [allAtoms_all]
  show words1.all (fun c => c.before args0 about1) = true
  refine all_split ?_ w_codes
  rw [← List.take_append_drop 24 words1, List.all_append, w_t1, ← List.take_append_drop 24 (words1.drop 24), List.all_append, w_t2, w_t3]
  rfl
set_option maxRecDepth 65536 in
theorem w_rest : rest_1_c.before args0 about1 = true := by decide +kernel
set_option maxRecDepth 65536 in
theorem w_case : (Jvm.Cond.and given_1 narrow_1).before args0 about1 = true := by decide +kernel
theorem w_applies : (headSpec (Jvm.Cond.code x code maxLocals ret :: tables_1) room_1).applies x e0.platform about1 = true :=
  (Spec.applies_iff w_frames).mpr ⟨w_running, w_runnable, w_alone, w_named, w_hears, w_ripe, w_room, w_tables⟩
theorem atStart : AtStart classFile x code maxLocals ret World_1 tables_1 room_1 Calls_1 rest_1 Pre_1 launch0 p0 e0 about1 theMethod args0 below0 :=
  ⟨lists_1, trivial, launch0.admits_env _ _ _, launch0.least_env, fairChoices_fair.cas, fairChoices_fair.clock, w_frames, w_args, w_heap, w_applies, trivial, w_rest, w_case⟩
end start1
theorem witness_1 : WitnessClaimed_1 := ⟨start1.p0, start1.e0, start1.about1, start1.theMethod, start1.args0, start1.below0, start1.atStart⟩
end Jvm.Pilot.@@N@@
