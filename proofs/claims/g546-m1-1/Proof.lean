import JvmDerived
import JvmDerived.Pilot.@@N@@Statement
import JvmDerived.Pilot.@@N@@Code
set_option linter.unusedVariables false
set_option linter.unusedSimpArgs false
namespace Jvm.Own
open Sem ClassFile Op Lib Jvm.Stand Jvm.Free Jvm.LawKit Jvm.RoadKit
/-- the run goes on from the frame g over T and comes to an end of which P holds -/
def Go (p : Program) (e : Env) (below : List Frame) (P : Outcome → State → Prop) (T : State) (g : JFrame) : Prop :=
  ∃ U o, Steps p.tables e below (T.setTop g) U ∧ U.status = .running ∧ Ended U below o ∧ P o U
/-- what a body's end says: it returned v; it wrote in new cells alone, kept the heap h0 but for ws and the start's heap whole; Q of what it returned and of the heap -/
def PostOf (Z s : State) (h0 : Heap) (ws : List Addr) (kc ks : Nat) (Q : Option Value → Heap → Prop) (o : Outcome) (U : State) : Prop :=
  ∃ v L, o = .returned v ∧ (Fr Z.heap.size L ∧ Keep h0 U.heap ws ∧ Ext Z.heap U.heap ∧ Q v U.heap) ∧ FrameEnd s o U L kc ks
/-- a body's contract for the arguments as at the heap h0 -/
def OMeets (l : Launch) (Z : State) (y : MethodName) (bytes : ByteArray) (nl : Nat) (ret : Option FieldType) (R : Room) (as : Array Value) (h0 : Heap) (ws : List Addr) (Q : Option Value → Heap → Prop) : Prop :=
  ∀ wd : List Jvm.Cond, MetFree l y (head1 (Jvm.Cond.code y bytes nl ret :: wd) R) (fun a U => a = as ∧ Z.Warmed39 U.vm ∧ U.heap = h0) (fun _ _ _ _ _ => True)
    (fun _ U o U' => PostOf Z U h0 ws R.cells R.slots Q o U')
/-- where the run of one body stands: what is fixed, the library's Stand, the heap, what was written, what is kept -/
def St (p : Program) (l : Launch) (e : Env) (R : Room) (s : State) (m : MethodId) (args : Array Value) (below : List Frame) (meth : Method) (c : Code) (Z : State) (own : String) (bytes : ByteArray) (nl : Nat) (ret : Option FieldType) (nm : String)
    (h0 : Heap) (ws : List Addr) (T : State) (h : Heap) (locs : List Loc) (cells slots : Nat) : Prop :=
  (p.tables.exec = Jvm.exec ∧ c.code = bytes ∧ c.maxLocals = nl ∧ Z.Warmed39 s.vm ∧ s.vm.findClass own = some m.cls ∧ meth.sig.returnType = ret ∧ meth.locks = false ∧ meth.name = nm) ∧
  Stand p l e R s m args below meth c T locs cells slots ∧ T.heap = h ∧ Fr Z.heap.size locs ∧ Keep h0 h ws ∧ Ext Z.heap h
section Steps
variable {p : Program} {l : Launch} {e : Env} {R : Room} {s : State} {m : MethodId} {args : Array Value} {below : List Frame} {meth : Method} {c : Code} {Z : State} {own : String} {bytes : ByteArray} {nl : Nat} {ret : Option FieldType} {nm : String}
  {h0 : Heap} {ws : List Addr} {T : State} {h : Heap} {locs : List Loc} {cells slots : Nat} {P : Outcome → State → Prop} {pc pc' : Nat} {Ls Ls' : Array Slot} {st : List Value} {a0 : Array Value}
theorem off0 {a b : Nat} {o : Int} (h : (a : Int) + o = (b : Int)) : 0 ≤ (a : Int) + o := by omega
theorem off1 {a b : Nat} {o : Int} (h : (a : Int) + o = (b : Int)) : ((a : Int) + o).toNat = b := by omega
theorem Go.of {T' : State} {g g' : JFrame} (k : Go p e below P T' g') (f : ∀ t, Steps p.tables e below (T'.setTop g') t → Steps p.tables e below (T.setTop g) t) : Go p e below P T g := by
  obtain ⟨U, o, h1, h2⟩ := k
  exact ⟨U, o, f _ h1, h2⟩
theorem Go.imp {g : JFrame} {P' : Outcome → State → Prop} (k : Go p e below P T g) (f : ∀ o U, P o U → P' o U) : Go p e below P' T g := by
  obtain ⟨U, o, h1, h2, h3, h4⟩ := k
  exact ⟨U, o, h1, h2, h3, f _ _ h4⟩
theorem St.ex (S : St p l e R s m args below meth c Z own bytes nl ret nm h0 ws T h locs cells slots) : p.tables.exec = Jvm.exec := S.1.1
theorem St.hd (S : St p l e R s m args below meth c Z own bytes nl ret nm h0 ws T h locs cells slots) {r : Except DecodeError (Instr × Nat)} (h2 : decode bytes pc = r) : decode c.code pc = r := S.1.2.1 ▸ h2
theorem St.hnl (S : St p l e R s m args below meth c Z own bytes nl ret nm h0 ws T h locs cells slots) : c.maxLocals = nl := S.1.2.2.1
theorem St.hZ (S : St p l e R s m args below meth c Z own bytes nl ret nm h0 ws T h locs cells slots) : Z.Warmed39 s.vm := S.1.2.2.2.1
theorem St.hown (S : St p l e R s m args below meth c Z own bytes nl ret nm h0 ws T h locs cells slots) : s.vm.findClass own = some m.cls := S.1.2.2.2.2.1
theorem St.hret (S : St p l e R s m args below meth c Z own bytes nl ret nm h0 ws T h locs cells slots) : meth.sig.returnType = ret := S.1.2.2.2.2.2.1
theorem St.locks (S : St p l e R s m args below meth c Z own bytes nl ret nm h0 ws T h locs cells slots) : meth.locks = false := S.1.2.2.2.2.2.2.1
theorem St.hnm (S : St p l e R s m args below meth c Z own bytes nl ret nm h0 ws T h locs cells slots) : meth.name = nm := S.1.2.2.2.2.2.2.2
theorem St.X (S : St p l e R s m args below meth c Z own bytes nl ret nm h0 ws T h locs cells slots) : Stand p l e R s m args below meth c T locs cells slots := S.2.1
theorem St.eT (S : St p l e R s m args below meth c Z own bytes nl ret nm h0 ws T h locs cells slots) : T.heap = h := S.2.2.1
theorem St.fr (S : St p l e R s m args below meth c Z own bytes nl ret nm h0 ws T h locs cells slots) : Fr Z.heap.size locs := S.2.2.2.1
theorem St.keep (S : St p l e R s m args below meth c Z own bytes nl ret nm h0 ws T h locs cells slots) : Keep h0 h ws := S.2.2.2.2.1
theorem St.ext (S : St p l e R s m args below meth c Z own bytes nl ret nm h0 ws T h locs cells slots) : Ext Z.heap h := S.2.2.2.2.2
theorem St.more (S : St p l e R s m args below meth c Z own bytes nl ret nm h0 ws T h locs cells slots) {cells' slots' : Nat} (hc : cells ≤ cells') (hs : slots ≤ slots') : St p l e R s m args below meth c Z own bytes nl ret nm h0 ws T h locs cells' slots' := ⟨S.1, S.X.more hc hs, S.2.2⟩
theorem St.next (S : St p l e R s m args below meth c Z own bytes nl ret nm h0 ws T h locs cells slots) {T' : State} {h' : Heap} {locs' : List Loc} {cells' slots' : Nat} (X : Stand p l e R s m args below meth c T' locs' cells' slots') (e1 : T'.heap = h') (N : Fr Z.heap.size locs') (K : Keep h0 h' ws) (E : Ext Z.heap h') : St p l e R s m args below meth c Z own bytes nl ret nm h0 ws T' h' locs' cells' slots' := ⟨S.1, X, e1, N, K, E⟩
theorem Go.iloadN (S : St p l e R s m args below meth c Z own bytes nl ret nm h0 ws T h locs cells slots) {k : Fin 4} {v : Int32} (hd : decode bytes pc = .ok (.iload_n k, 1)) (hl : Ls[k.val]? = some (.val (.int v))) (hp : pc + 1 = pc') (k : Go p e below P T (mkF m pc' Ls (.int v :: st))) : Go p e below P T (mkF m pc Ls st) := by
  subst hp
  exact k.of fun t q => XS.iloadN S.X.here S.ex rfl (S.hd hd) hl q
theorem Go.iload (S : St p l e R s m args below meth c Z own bytes nl ret nm h0 ws T h locs cells slots) {k : Nat} {v : Int32} (hd : decode bytes pc = .ok (.iload k, 2)) (hl : Ls[k]? = some (.val (.int v))) (hp : pc + 2 = pc') (k : Go p e below P T (mkF m pc' Ls (.int v :: st))) : Go p e below P T (mkF m pc Ls st) := by
  subst hp
  exact k.of fun t q => XS.iload S.X.here S.ex rfl (S.hd hd) hl q
theorem Go.istoreN (S : St p l e R s m args below meth c Z own bytes nl ret nm h0 ws T h locs cells slots) {k : Fin 4} {v : Int32} (hd : decode bytes pc = .ok (.istore_n k, 1)) (hl : storeLocals Ls k.val (.int v) = some Ls') (hp : pc + 1 = pc') (k : Go p e below P T (mkF m pc' Ls' st)) : Go p e below P T (mkF m pc Ls (.int v :: st)) := by
  subst hp
  exact k.of fun t q => XS.istoreN S.X.here S.ex rfl (S.hd hd) rfl hl q
theorem Go.istore (S : St p l e R s m args below meth c Z own bytes nl ret nm h0 ws T h locs cells slots) {k : Nat} {v : Int32} (hd : decode bytes pc = .ok (.istore k, 2)) (hl : storeLocals Ls k (.int v) = some Ls') (hp : pc + 2 = pc') (k : Go p e below P T (mkF m pc' Ls' st)) : Go p e below P T (mkF m pc Ls (.int v :: st)) := by
  subst hp
  exact k.of fun t q => XS.istore S.X.here S.ex rfl (S.hd hd) rfl hl q
theorem Go.lloadN (S : St p l e R s m args below meth c Z own bytes nl ret nm h0 ws T h locs cells slots) {k : Fin 4} {v : Int64} (hd : decode bytes pc = .ok (.lload_n k, 1)) (hl : Ls[k.val]? = some (.val (.long v))) (hp : pc + 1 = pc') (k : Go p e below P T (mkF m pc' Ls (.long v :: st))) : Go p e below P T (mkF m pc Ls st) := by
  subst hp
  exact k.of fun t q => XS.lloadN S.X.here S.ex rfl (S.hd hd) hl q
theorem Go.lload (S : St p l e R s m args below meth c Z own bytes nl ret nm h0 ws T h locs cells slots) {k : Nat} {v : Int64} (hd : decode bytes pc = .ok (.lload k, 2)) (hl : Ls[k]? = some (.val (.long v))) (hp : pc + 2 = pc') (k : Go p e below P T (mkF m pc' Ls (.long v :: st))) : Go p e below P T (mkF m pc Ls st) := by
  subst hp
  exact k.of fun t q => XS.lload S.X.here S.ex rfl (S.hd hd) hl q
theorem Go.lstoreN (S : St p l e R s m args below meth c Z own bytes nl ret nm h0 ws T h locs cells slots) {k : Fin 4} {v : Int64} (hd : decode bytes pc = .ok (.lstore_n k, 1)) (hl : storeLocals Ls k.val (.long v) = some Ls') (hp : pc + 1 = pc') (k : Go p e below P T (mkF m pc' Ls' st)) : Go p e below P T (mkF m pc Ls (.long v :: st)) := by
  subst hp
  exact k.of fun t q => XS.lstoreN S.X.here S.ex rfl (S.hd hd) rfl hl q
theorem Go.lstore (S : St p l e R s m args below meth c Z own bytes nl ret nm h0 ws T h locs cells slots) {k : Nat} {v : Int64} (hd : decode bytes pc = .ok (.lstore k, 2)) (hl : storeLocals Ls k (.long v) = some Ls') (hp : pc + 2 = pc') (k : Go p e below P T (mkF m pc' Ls' st)) : Go p e below P T (mkF m pc Ls (.long v :: st)) := by
  subst hp
  exact k.of fun t q => XS.lstore S.X.here S.ex rfl (S.hd hd) rfl hl q
theorem Go.aloadN (S : St p l e R s m args below meth c Z own bytes nl ret nm h0 ws T h locs cells slots) {k : Fin 4} {v : Value} (hd : decode bytes pc = .ok (.aload_n k, 1)) (hl : Ls[k.val]? = some (.val v)) (hr : v.isRef = true) (hp : pc + 1 = pc') (k : Go p e below P T (mkF m pc' Ls (v :: st))) : Go p e below P T (mkF m pc Ls st) := by
  subst hp
  exact k.of fun t q => XS.aloadN S.X.here S.ex rfl (S.hd hd) hl hr q
theorem Go.aload (S : St p l e R s m args below meth c Z own bytes nl ret nm h0 ws T h locs cells slots) {k : Nat} {v : Value} (hd : decode bytes pc = .ok (.aload k, 2)) (hl : Ls[k]? = some (.val v)) (hr : v.isRef = true) (hp : pc + 2 = pc') (k : Go p e below P T (mkF m pc' Ls (v :: st))) : Go p e below P T (mkF m pc Ls st) := by
  subst hp
  exact k.of fun t q => XS.aload S.X.here S.ex rfl (S.hd hd) hl hr q
theorem Go.astoreN (S : St p l e R s m args below meth c Z own bytes nl ret nm h0 ws T h locs cells slots) {k : Fin 4} {v : Value} (hd : decode bytes pc = .ok (.astore_n k, 1)) (hr : v.isRef = true) (hl : storeLocals Ls k.val v = some Ls') (hp : pc + 1 = pc') (k : Go p e below P T (mkF m pc' Ls' st)) : Go p e below P T (mkF m pc Ls (v :: st)) := by
  subst hp
  exact k.of fun t q => XS.astoreN S.X.here S.ex rfl (S.hd hd) rfl hr hl q
theorem Go.astore (S : St p l e R s m args below meth c Z own bytes nl ret nm h0 ws T h locs cells slots) {k : Nat} {v : Value} (hd : decode bytes pc = .ok (.astore k, 2)) (hr : v.isRef = true) (hl : storeLocals Ls k v = some Ls') (hp : pc + 2 = pc') (k : Go p e below P T (mkF m pc' Ls' st)) : Go p e below P T (mkF m pc Ls (v :: st)) := by
  subst hp
  exact k.of fun t q => XS.astore S.X.here S.ex rfl (S.hd hd) rfl hr hl q
theorem Go.iconst (S : St p l e R s m args below meth c Z own bytes nl ret nm h0 ws T h locs cells slots) {i : Int} {v : Int32} (hd : decode bytes pc = .ok (.iconst i, 1)) (hv : Int32.ofInt i = v) (hp : pc + 1 = pc') (k : Go p e below P T (mkF m pc' Ls (.int v :: st))) : Go p e below P T (mkF m pc Ls st) := by
  subst hp hv
  exact k.of fun t q => XS.iconst S.X.here S.ex rfl (S.hd hd) q
theorem Go.bipush (S : St p l e R s m args below meth c Z own bytes nl ret nm h0 ws T h locs cells slots) {i : Int} {v : Int32} (hd : decode bytes pc = .ok (.bipush i, 2)) (hv : (Int8.ofInt i).toInt32 = v) (hp : pc + 2 = pc') (k : Go p e below P T (mkF m pc' Ls (.int v :: st))) : Go p e below P T (mkF m pc Ls st) := by
  subst hp hv
  exact k.of fun t q => XS.bipush S.X.here S.ex rfl (S.hd hd) q
theorem Go.sipush (S : St p l e R s m args below meth c Z own bytes nl ret nm h0 ws T h locs cells slots) {i : Int} {v : Int32} (hd : decode bytes pc = .ok (.sipush i, 3)) (hv : (Int16.ofInt i).toInt32 = v) (hp : pc + 3 = pc') (k : Go p e below P T (mkF m pc' Ls (.int v :: st))) : Go p e below P T (mkF m pc Ls st) := by
  subst hp hv
  exact k.of fun t q => XS.sipush S.X.here S.ex rfl (S.hd hd) q
theorem Go.lconst (S : St p l e R s m args below meth c Z own bytes nl ret nm h0 ws T h locs cells slots) {i : Fin 2} {v : Int64} (hd : decode bytes pc = .ok (.lconst i, 1)) (hv : Int64.ofNat i = v) (hp : pc + 1 = pc') (k : Go p e below P T (mkF m pc' Ls (.long v :: st))) : Go p e below P T (mkF m pc Ls st) := by
  subst hp hv
  exact k.of fun t q => XS.lconst S.X.here S.ex rfl (S.hd hd) q
theorem Go.aconst_null (S : St p l e R s m args below meth c Z own bytes nl ret nm h0 ws T h locs cells slots)  (hd : decode bytes pc = .ok (.aconst_null, 1)) (hp : pc + 1 = pc') (k : Go p e below P T (mkF m pc' Ls (.null :: st))) : Go p e below P T (mkF m pc Ls st) := by
  subst hp
  exact k.of fun t q => XS.aconstNull S.X.here S.ex rfl (S.hd hd) q
theorem Go.iadd (S : St p l e R s m args below meth c Z own bytes nl ret nm h0 ws T h locs cells slots) {x y : Int32} (hd : decode bytes pc = .ok (.iadd, 1)) (hp : pc + 1 = pc') (k : Go p e below P T (mkF m pc' Ls (.int (x + y) :: st))) : Go p e below P T (mkF m pc Ls (.int y :: .int x :: st)) := by
  subst hp
  exact k.of fun t q => XS.iadd S.X.here S.ex rfl (S.hd hd) rfl q
theorem Go.ladd (S : St p l e R s m args below meth c Z own bytes nl ret nm h0 ws T h locs cells slots) {x y : Int64} (hd : decode bytes pc = .ok (.ladd, 1)) (hp : pc + 1 = pc') (k : Go p e below P T (mkF m pc' Ls (.long (x + y) :: st))) : Go p e below P T (mkF m pc Ls (.long y :: .long x :: st)) := by
  subst hp
  exact k.of fun t q => XS.ladd S.X.here S.ex rfl (S.hd hd) rfl q
theorem Go.isub (S : St p l e R s m args below meth c Z own bytes nl ret nm h0 ws T h locs cells slots) {x y : Int32} (hd : decode bytes pc = .ok (.isub, 1)) (hp : pc + 1 = pc') (k : Go p e below P T (mkF m pc' Ls (.int (x - y) :: st))) : Go p e below P T (mkF m pc Ls (.int y :: .int x :: st)) := by
  subst hp
  exact k.of fun t q => XS.isub S.X.here S.ex rfl (S.hd hd) rfl q
theorem Go.lsub (S : St p l e R s m args below meth c Z own bytes nl ret nm h0 ws T h locs cells slots) {x y : Int64} (hd : decode bytes pc = .ok (.lsub, 1)) (hp : pc + 1 = pc') (k : Go p e below P T (mkF m pc' Ls (.long (x - y) :: st))) : Go p e below P T (mkF m pc Ls (.long y :: .long x :: st)) := by
  subst hp
  exact k.of fun t q => XS.lsub S.X.here S.ex rfl (S.hd hd) rfl q
theorem Go.imul (S : St p l e R s m args below meth c Z own bytes nl ret nm h0 ws T h locs cells slots) {x y : Int32} (hd : decode bytes pc = .ok (.imul, 1)) (hp : pc + 1 = pc') (k : Go p e below P T (mkF m pc' Ls (.int (x * y) :: st))) : Go p e below P T (mkF m pc Ls (.int y :: .int x :: st)) := by
  subst hp
  exact k.of fun t q => XS.imul S.X.here S.ex rfl (S.hd hd) rfl q
theorem Go.lmul (S : St p l e R s m args below meth c Z own bytes nl ret nm h0 ws T h locs cells slots) {x y : Int64} (hd : decode bytes pc = .ok (.lmul, 1)) (hp : pc + 1 = pc') (k : Go p e below P T (mkF m pc' Ls (.long (x * y) :: st))) : Go p e below P T (mkF m pc Ls (.long y :: .long x :: st)) := by
  subst hp
  exact k.of fun t q => XS.lmul S.X.here S.ex rfl (S.hd hd) rfl q
theorem Go.iand (S : St p l e R s m args below meth c Z own bytes nl ret nm h0 ws T h locs cells slots) {x y : Int32} (hd : decode bytes pc = .ok (.iand, 1)) (hp : pc + 1 = pc') (k : Go p e below P T (mkF m pc' Ls (.int (x &&& y) :: st))) : Go p e below P T (mkF m pc Ls (.int y :: .int x :: st)) := by
  subst hp
  exact k.of fun t q => XS.iand S.X.here S.ex rfl (S.hd hd) rfl q
theorem Go.land (S : St p l e R s m args below meth c Z own bytes nl ret nm h0 ws T h locs cells slots) {x y : Int64} (hd : decode bytes pc = .ok (.land, 1)) (hp : pc + 1 = pc') (k : Go p e below P T (mkF m pc' Ls (.long (x &&& y) :: st))) : Go p e below P T (mkF m pc Ls (.long y :: .long x :: st)) := by
  subst hp
  exact k.of fun t q => XS.land S.X.here S.ex rfl (S.hd hd) rfl q
theorem Go.ior (S : St p l e R s m args below meth c Z own bytes nl ret nm h0 ws T h locs cells slots) {x y : Int32} (hd : decode bytes pc = .ok (.ior, 1)) (hp : pc + 1 = pc') (k : Go p e below P T (mkF m pc' Ls (.int (x ||| y) :: st))) : Go p e below P T (mkF m pc Ls (.int y :: .int x :: st)) := by
  subst hp
  exact k.of fun t q => XS.ior S.X.here S.ex rfl (S.hd hd) rfl q
theorem Go.lor (S : St p l e R s m args below meth c Z own bytes nl ret nm h0 ws T h locs cells slots) {x y : Int64} (hd : decode bytes pc = .ok (.lor, 1)) (hp : pc + 1 = pc') (k : Go p e below P T (mkF m pc' Ls (.long (x ||| y) :: st))) : Go p e below P T (mkF m pc Ls (.long y :: .long x :: st)) := by
  subst hp
  exact k.of fun t q => XS.lor S.X.here S.ex rfl (S.hd hd) rfl q
theorem Go.ixor (S : St p l e R s m args below meth c Z own bytes nl ret nm h0 ws T h locs cells slots) {x y : Int32} (hd : decode bytes pc = .ok (.ixor, 1)) (hp : pc + 1 = pc') (k : Go p e below P T (mkF m pc' Ls (.int (x ^^^ y) :: st))) : Go p e below P T (mkF m pc Ls (.int y :: .int x :: st)) := by
  subst hp
  exact k.of fun t q => XS.ixor S.X.here S.ex rfl (S.hd hd) rfl q
theorem Go.lxor (S : St p l e R s m args below meth c Z own bytes nl ret nm h0 ws T h locs cells slots) {x y : Int64} (hd : decode bytes pc = .ok (.lxor, 1)) (hp : pc + 1 = pc') (k : Go p e below P T (mkF m pc' Ls (.long (x ^^^ y) :: st))) : Go p e below P T (mkF m pc Ls (.long y :: .long x :: st)) := by
  subst hp
  exact k.of fun t q => XS.lxor S.X.here S.ex rfl (S.hd hd) rfl q
theorem Go.ishl (S : St p l e R s m args below meth c Z own bytes nl ret nm h0 ws T h locs cells slots) {x : Int32} {y : Int32} (hd : decode bytes pc = .ok (.ishl, 1)) (hp : pc + 1 = pc') (k : Go p e below P T (mkF m pc' Ls (.int (x <<< (y &&& 31)) :: st))) : Go p e below P T (mkF m pc Ls (.int y :: .int x :: st)) := by
  subst hp
  exact k.of fun t q => XS.ishl S.X.here S.ex rfl (S.hd hd) rfl q
theorem Go.ishr (S : St p l e R s m args below meth c Z own bytes nl ret nm h0 ws T h locs cells slots) {x : Int32} {y : Int32} (hd : decode bytes pc = .ok (.ishr, 1)) (hp : pc + 1 = pc') (k : Go p e below P T (mkF m pc' Ls (.int (x >>> (y &&& 31)) :: st))) : Go p e below P T (mkF m pc Ls (.int y :: .int x :: st)) := by
  subst hp
  exact k.of fun t q => XS.ishr S.X.here S.ex rfl (S.hd hd) rfl q
theorem Go.iushr (S : St p l e R s m args below meth c Z own bytes nl ret nm h0 ws T h locs cells slots) {x : Int32} {y : Int32} (hd : decode bytes pc = .ok (.iushr, 1)) (hp : pc + 1 = pc') (k : Go p e below P T (mkF m pc' Ls (.int ((x.toUInt32 >>> (y &&& 31).toUInt32).toInt32) :: st))) : Go p e below P T (mkF m pc Ls (.int y :: .int x :: st)) := by
  subst hp
  exact k.of fun t q => XS.iushr S.X.here S.ex rfl (S.hd hd) rfl q
theorem Go.lshl (S : St p l e R s m args below meth c Z own bytes nl ret nm h0 ws T h locs cells slots) {x : Int64} {y : Int32} (hd : decode bytes pc = .ok (.lshl, 1)) (hp : pc + 1 = pc') (k : Go p e below P T (mkF m pc' Ls (.long (x <<< (y &&& 0x3f).toInt64) :: st))) : Go p e below P T (mkF m pc Ls (.int y :: .long x :: st)) := by
  subst hp
  exact k.of fun t q => XS.lshl S.X.here S.ex rfl (S.hd hd) rfl q
theorem Go.lshr (S : St p l e R s m args below meth c Z own bytes nl ret nm h0 ws T h locs cells slots) {x : Int64} {y : Int32} (hd : decode bytes pc = .ok (.lshr, 1)) (hp : pc + 1 = pc') (k : Go p e below P T (mkF m pc' Ls (.long (x >>> (y &&& 0x3f).toInt64) :: st))) : Go p e below P T (mkF m pc Ls (.int y :: .long x :: st)) := by
  subst hp
  exact k.of fun t q => XS.lshr S.X.here S.ex rfl (S.hd hd) rfl q
theorem Go.lushr (S : St p l e R s m args below meth c Z own bytes nl ret nm h0 ws T h locs cells slots) {x : Int64} {y : Int32} (hd : decode bytes pc = .ok (.lushr, 1)) (hp : pc + 1 = pc') (k : Go p e below P T (mkF m pc' Ls (.long ((x.toUInt64 >>> (y &&& 0x3f).toInt64.toUInt64).toInt64) :: st))) : Go p e below P T (mkF m pc Ls (.int y :: .long x :: st)) := by
  subst hp
  exact k.of fun t q => XS.lushr S.X.here S.ex rfl (S.hd hd) rfl q
theorem Go.i2l (S : St p l e R s m args below meth c Z own bytes nl ret nm h0 ws T h locs cells slots) {x : Int32} (hd : decode bytes pc = .ok (.i2l, 1)) (hp : pc + 1 = pc') (k : Go p e below P T (mkF m pc' Ls (.long (x.toInt64) :: st))) : Go p e below P T (mkF m pc Ls (.int x :: st)) := by
  subst hp
  exact k.of fun t q => XS.i2l S.X.here S.ex rfl (S.hd hd) rfl q
theorem Go.l2i (S : St p l e R s m args below meth c Z own bytes nl ret nm h0 ws T h locs cells slots) {x : Int64} (hd : decode bytes pc = .ok (.l2i, 1)) (hp : pc + 1 = pc') (k : Go p e below P T (mkF m pc' Ls (.int (x.toInt32) :: st))) : Go p e below P T (mkF m pc Ls (.long x :: st)) := by
  subst hp
  exact k.of fun t q => XS.l2i S.X.here S.ex rfl (S.hd hd) rfl q
theorem Go.i2b (S : St p l e R s m args below meth c Z own bytes nl ret nm h0 ws T h locs cells slots) {x : Int32} (hd : decode bytes pc = .ok (.i2b, 1)) (hp : pc + 1 = pc') (k : Go p e below P T (mkF m pc' Ls (.int (x.toInt8.toInt32) :: st))) : Go p e below P T (mkF m pc Ls (.int x :: st)) := by
  subst hp
  exact k.of fun t q => XS.i2b S.X.here S.ex rfl (S.hd hd) rfl q
theorem Go.i2s (S : St p l e R s m args below meth c Z own bytes nl ret nm h0 ws T h locs cells slots) {x : Int32} (hd : decode bytes pc = .ok (.i2s, 1)) (hp : pc + 1 = pc') (k : Go p e below P T (mkF m pc' Ls (.int (x.toInt16.toInt32) :: st))) : Go p e below P T (mkF m pc Ls (.int x :: st)) := by
  subst hp
  exact k.of fun t q => XS.i2s S.X.here S.ex rfl (S.hd hd) rfl q
theorem Go.i2c (S : St p l e R s m args below meth c Z own bytes nl ret nm h0 ws T h locs cells slots) {x : Int32} (hd : decode bytes pc = .ok (.i2c, 1)) (hp : pc + 1 = pc') (k : Go p e below P T (mkF m pc' Ls (.int (x.toUInt32.toUInt16.toUInt32.toInt32) :: st))) : Go p e below P T (mkF m pc Ls (.int x :: st)) := by
  subst hp
  exact k.of fun t q => XS.i2c S.X.here S.ex rfl (S.hd hd) rfl q
theorem Go.ineg (S : St p l e R s m args below meth c Z own bytes nl ret nm h0 ws T h locs cells slots) {x : Int32} (hd : decode bytes pc = .ok (.ineg, 1)) (hp : pc + 1 = pc') (k : Go p e below P T (mkF m pc' Ls (.int (-x) :: st))) : Go p e below P T (mkF m pc Ls (.int x :: st)) := by
  subst hp
  exact k.of fun t q => XS.ineg S.X.here S.ex rfl (S.hd hd) rfl q
theorem Go.lneg (S : St p l e R s m args below meth c Z own bytes nl ret nm h0 ws T h locs cells slots) {x : Int64} (hd : decode bytes pc = .ok (.lneg, 1)) (hp : pc + 1 = pc') (k : Go p e below P T (mkF m pc' Ls (.long (-x) :: st))) : Go p e below P T (mkF m pc Ls (.long x :: st)) := by
  subst hp
  exact k.of fun t q => XS.lneg S.X.here S.ex rfl (S.hd hd) rfl q
theorem Go.idiv (S : St p l e R s m args below meth c Z own bytes nl ret nm h0 ws T h locs cells slots) {x y : Int32} (hd : decode bytes pc = .ok (.idiv, 1)) (hy : y ≠ 0) (hp : pc + 1 = pc') (k : Go p e below P T (mkF m pc' Ls (.int (x / y) :: st))) : Go p e below P T (mkF m pc Ls (.int y :: .int x :: st)) := by
  subst hp
  exact k.of fun t q => XS.idiv S.X.here S.ex rfl (S.hd hd) rfl hy q
theorem Go.ldiv (S : St p l e R s m args below meth c Z own bytes nl ret nm h0 ws T h locs cells slots) {x y : Int64} (hd : decode bytes pc = .ok (.ldiv, 1)) (hy : y ≠ 0) (hp : pc + 1 = pc') (k : Go p e below P T (mkF m pc' Ls (.long (x / y) :: st))) : Go p e below P T (mkF m pc Ls (.long y :: .long x :: st)) := by
  subst hp
  exact k.of fun t q => XS.ldiv S.X.here S.ex rfl (S.hd hd) rfl hy q
theorem Go.irem (S : St p l e R s m args below meth c Z own bytes nl ret nm h0 ws T h locs cells slots) {x y : Int32} (hd : decode bytes pc = .ok (.irem, 1)) (hy : y ≠ 0) (hp : pc + 1 = pc') (k : Go p e below P T (mkF m pc' Ls (.int (x % y) :: st))) : Go p e below P T (mkF m pc Ls (.int y :: .int x :: st)) := by
  subst hp
  exact k.of fun t q => Jvm.RoadKit.iremM S.X S.ex rfl (S.hd hd) rfl hy q
theorem Go.lrem (S : St p l e R s m args below meth c Z own bytes nl ret nm h0 ws T h locs cells slots) {x y : Int64} (hd : decode bytes pc = .ok (.lrem, 1)) (hy : y ≠ 0) (hp : pc + 1 = pc') (k : Go p e below P T (mkF m pc' Ls (.long (x % y) :: st))) : Go p e below P T (mkF m pc Ls (.long y :: .long x :: st)) := by
  subst hp
  rw [← lrem_mod] at k
  exact k.of fun t q => XS.lrem S.X.here S.ex rfl (S.hd hd) rfl hy q
theorem Go.iinc (S : St p l e R s m args below meth c Z own bytes nl ret nm h0 ws T h locs cells slots) {k : Nat} {cst : Int} {x : Int32} (hd : decode bytes pc = .ok (.iinc k cst, 3)) (hl : Ls[k]? = some (.val (.int x))) (hl' : storeLocals Ls k (.int (x + Int32.ofInt cst)) = some Ls') (hp : pc + 3 = pc') (k : Go p e below P T (mkF m pc' Ls' st)) : Go p e below P T (mkF m pc Ls st) := by
  subst hp
  exact k.of fun t q => XS.iinc S.X.here S.ex rfl (S.hd hd) hl hl' q
theorem Go.dup (S : St p l e R s m args below meth c Z own bytes nl ret nm h0 ws T h locs cells slots) {x : Value} (hd : decode bytes pc = .ok (.dup, 1)) (hc : x.category = 1) (hp : pc + 1 = pc') (k : Go p e below P T (mkF m pc' Ls (x :: x :: st))) : Go p e below P T (mkF m pc Ls (x :: st)) := by
  subst hp
  exact k.of fun t q => XS.dup S.X.here S.ex rfl (S.hd hd) rfl hc q
theorem Go.pop (S : St p l e R s m args below meth c Z own bytes nl ret nm h0 ws T h locs cells slots) {x : Value} (hd : decode bytes pc = .ok (.pop, 1)) (hc : x.category = 1) (hp : pc + 1 = pc') (k : Go p e below P T (mkF m pc' Ls st)) : Go p e below P T (mkF m pc Ls (x :: st)) := by
  subst hp
  exact k.of fun t q => XS.pop S.X.here S.ex rfl (S.hd hd) rfl hc q
theorem Go.dup_x1 (S : St p l e R s m args below meth c Z own bytes nl ret nm h0 ws T h locs cells slots) {x y : Value} (hd : decode bytes pc = .ok (.dup_x1, 1)) (hc : x.category = 1) (hc' : y.category = 1) (hp : pc + 1 = pc') (k : Go p e below P T (mkF m pc' Ls (x :: y :: x :: st))) : Go p e below P T (mkF m pc Ls (x :: y :: st)) := by
  subst hp
  exact k.of fun t q => XS.dupX1 S.X.here S.ex rfl (S.hd hd) rfl hc hc' q
theorem Go.goto (S : St p l e R s m args below meth c Z own bytes nl ret nm h0 ws T h locs cells slots) {o : Int} (hd : decode bytes pc = .ok (.goto o, 3)) (hp : (pc : Int) + o = (pc' : Int)) (k : Go p e below P T (mkF m pc' Ls st)) : Go p e below P T (mkF m pc Ls st) :=
  k.of fun t q => XS.goto S.X.here S.ex rfl (pc0 := pc) rfl (S.hd hd) (off0 hp) (off1 hp) q
theorem Go.if_eq (S : St p l e R s m args below meth c Z own bytes nl ret nm h0 ws T h locs cells slots) {x : Int32} {o : Int} {pt : Nat} (hd : decode bytes pc = .ok (.ifCond .eq o, 3)) (ht : (pc : Int) + o = (pt : Int)) (hf : pc + 3 = pc') (ky : x = 0 → Go p e below P T (mkF m pt Ls st)) (kn : ¬ x = 0 → Go p e below P T (mkF m pc' Ls st)) : Go p e below P T (mkF m pc Ls (.int x :: st)) := by
  subst hf
  by_cases q : x = 0
  · exact (ky q).of fun t q' => XS.ifYes S.X.here S.ex rfl (pc0 := pc) rfl (S.hd hd) rfl (Jvm.Free.XT.i0_eq_t q) (off0 ht) (off1 ht) q'
  · exact (kn q).of fun t q' => XS.ifNo S.X.here S.ex rfl (S.hd hd) rfl (Jvm.Free.XT.i0_eq_f q) q'
theorem Go.icmp_eq (S : St p l e R s m args below meth c Z own bytes nl ret nm h0 ws T h locs cells slots) {x y : Int32} {o : Int} {pt : Nat} (hd : decode bytes pc = .ok (.if_icmp .eq o, 3)) (ht : (pc : Int) + o = (pt : Int)) (hf : pc + 3 = pc') (ky : x = y → Go p e below P T (mkF m pt Ls st)) (kn : ¬ x = y → Go p e below P T (mkF m pc' Ls st)) : Go p e below P T (mkF m pc Ls (.int y :: .int x :: st)) := by
  subst hf
  by_cases q : x = y
  · exact (ky q).of fun t q' => XS.icmpYes S.X.here S.ex rfl (pc0 := pc) rfl (S.hd hd) rfl (Jvm.Free.XT.ii_eq_t q) (off0 ht) (off1 ht) q'
  · exact (kn q).of fun t q' => XS.icmpNo S.X.here S.ex rfl (S.hd hd) rfl (Jvm.Free.XT.ii_eq_f q) q'
theorem Go.lcmp_eq (S : St p l e R s m args below meth c Z own bytes nl ret nm h0 ws T h locs cells slots) {x y : Int64} {o : Int} {pt : Nat} {pc1 : Nat} (hd1 : decode bytes pc = .ok (.lcmp, 1)) (h1 : pc + 1 = pc1) (hd : decode bytes pc1 = .ok (.ifCond .eq o, 3)) (ht : (pc1 : Int) + o = (pt : Int)) (hf : pc1 + 3 = pc') (ky : x = y → Go p e below P T (mkF m pt Ls st)) (kn : ¬ x = y → Go p e below P T (mkF m pc' Ls st)) : Go p e below P T (mkF m pc Ls (.long y :: .long x :: st)) := by
  subst hf h1
  by_cases q : x = y
  · exact (ky q).of fun t q' => Jvm.Free.XT.lcmp S.X.here S.ex rfl (S.hd hd1) rfl (XS.ifYes S.X.here S.ex rfl (pc0 := pc + 1) rfl (S.hd hd) rfl (Jvm.Free.XT.ll_eq_t q) (off0 ht) (off1 ht) q')
  · exact (kn q).of fun t q' => Jvm.Free.XT.lcmp S.X.here S.ex rfl (S.hd hd1) rfl (XS.ifNo S.X.here S.ex rfl (S.hd hd) rfl (Jvm.Free.XT.ll_eq_f q) q')
theorem Go.if_ne (S : St p l e R s m args below meth c Z own bytes nl ret nm h0 ws T h locs cells slots) {x : Int32} {o : Int} {pt : Nat} (hd : decode bytes pc = .ok (.ifCond .ne o, 3)) (ht : (pc : Int) + o = (pt : Int)) (hf : pc + 3 = pc') (ky : ¬ x = 0 → Go p e below P T (mkF m pt Ls st)) (kn : x = 0 → Go p e below P T (mkF m pc' Ls st)) : Go p e below P T (mkF m pc Ls (.int x :: st)) := by
  subst hf
  by_cases q : x = 0
  · exact (kn q).of fun t q' => XS.ifNo S.X.here S.ex rfl (S.hd hd) rfl (Jvm.Free.XT.i0_ne_f q) q'
  · exact (ky q).of fun t q' => XS.ifYes S.X.here S.ex rfl (pc0 := pc) rfl (S.hd hd) rfl (Jvm.Free.XT.i0_ne_t q) (off0 ht) (off1 ht) q'
theorem Go.icmp_ne (S : St p l e R s m args below meth c Z own bytes nl ret nm h0 ws T h locs cells slots) {x y : Int32} {o : Int} {pt : Nat} (hd : decode bytes pc = .ok (.if_icmp .ne o, 3)) (ht : (pc : Int) + o = (pt : Int)) (hf : pc + 3 = pc') (ky : ¬ x = y → Go p e below P T (mkF m pt Ls st)) (kn : x = y → Go p e below P T (mkF m pc' Ls st)) : Go p e below P T (mkF m pc Ls (.int y :: .int x :: st)) := by
  subst hf
  by_cases q : x = y
  · exact (kn q).of fun t q' => XS.icmpNo S.X.here S.ex rfl (S.hd hd) rfl (Jvm.Free.XT.ii_ne_f q) q'
  · exact (ky q).of fun t q' => XS.icmpYes S.X.here S.ex rfl (pc0 := pc) rfl (S.hd hd) rfl (Jvm.Free.XT.ii_ne_t q) (off0 ht) (off1 ht) q'
theorem Go.lcmp_ne (S : St p l e R s m args below meth c Z own bytes nl ret nm h0 ws T h locs cells slots) {x y : Int64} {o : Int} {pt : Nat} {pc1 : Nat} (hd1 : decode bytes pc = .ok (.lcmp, 1)) (h1 : pc + 1 = pc1) (hd : decode bytes pc1 = .ok (.ifCond .ne o, 3)) (ht : (pc1 : Int) + o = (pt : Int)) (hf : pc1 + 3 = pc') (ky : ¬ x = y → Go p e below P T (mkF m pt Ls st)) (kn : x = y → Go p e below P T (mkF m pc' Ls st)) : Go p e below P T (mkF m pc Ls (.long y :: .long x :: st)) := by
  subst hf h1
  by_cases q : x = y
  · exact (kn q).of fun t q' => Jvm.Free.XT.lcmp S.X.here S.ex rfl (S.hd hd1) rfl (XS.ifNo S.X.here S.ex rfl (S.hd hd) rfl (Jvm.Free.XT.ll_ne_f q) q')
  · exact (ky q).of fun t q' => Jvm.Free.XT.lcmp S.X.here S.ex rfl (S.hd hd1) rfl (XS.ifYes S.X.here S.ex rfl (pc0 := pc + 1) rfl (S.hd hd) rfl (Jvm.Free.XT.ll_ne_t q) (off0 ht) (off1 ht) q')
theorem Go.if_lt (S : St p l e R s m args below meth c Z own bytes nl ret nm h0 ws T h locs cells slots) {x : Int32} {o : Int} {pt : Nat} (hd : decode bytes pc = .ok (.ifCond .lt o, 3)) (ht : (pc : Int) + o = (pt : Int)) (hf : pc + 3 = pc') (ky : x < 0 → Go p e below P T (mkF m pt Ls st)) (kn : ¬ x < 0 → Go p e below P T (mkF m pc' Ls st)) : Go p e below P T (mkF m pc Ls (.int x :: st)) := by
  subst hf
  by_cases q : x < 0
  · exact (ky q).of fun t q' => XS.ifYes S.X.here S.ex rfl (pc0 := pc) rfl (S.hd hd) rfl (Jvm.Free.XT.i0_lt_t q) (off0 ht) (off1 ht) q'
  · exact (kn q).of fun t q' => XS.ifNo S.X.here S.ex rfl (S.hd hd) rfl (Jvm.Free.XT.i0_lt_f q) q'
theorem Go.icmp_lt (S : St p l e R s m args below meth c Z own bytes nl ret nm h0 ws T h locs cells slots) {x y : Int32} {o : Int} {pt : Nat} (hd : decode bytes pc = .ok (.if_icmp .lt o, 3)) (ht : (pc : Int) + o = (pt : Int)) (hf : pc + 3 = pc') (ky : x < y → Go p e below P T (mkF m pt Ls st)) (kn : ¬ x < y → Go p e below P T (mkF m pc' Ls st)) : Go p e below P T (mkF m pc Ls (.int y :: .int x :: st)) := by
  subst hf
  by_cases q : x < y
  · exact (ky q).of fun t q' => XS.icmpYes S.X.here S.ex rfl (pc0 := pc) rfl (S.hd hd) rfl (Jvm.Free.XT.ii_lt_t q) (off0 ht) (off1 ht) q'
  · exact (kn q).of fun t q' => XS.icmpNo S.X.here S.ex rfl (S.hd hd) rfl (Jvm.Free.XT.ii_lt_f q) q'
theorem Go.lcmp_lt (S : St p l e R s m args below meth c Z own bytes nl ret nm h0 ws T h locs cells slots) {x y : Int64} {o : Int} {pt : Nat} {pc1 : Nat} (hd1 : decode bytes pc = .ok (.lcmp, 1)) (h1 : pc + 1 = pc1) (hd : decode bytes pc1 = .ok (.ifCond .lt o, 3)) (ht : (pc1 : Int) + o = (pt : Int)) (hf : pc1 + 3 = pc') (ky : x < y → Go p e below P T (mkF m pt Ls st)) (kn : ¬ x < y → Go p e below P T (mkF m pc' Ls st)) : Go p e below P T (mkF m pc Ls (.long y :: .long x :: st)) := by
  subst hf h1
  by_cases q : x < y
  · exact (ky q).of fun t q' => Jvm.Free.XT.lcmp S.X.here S.ex rfl (S.hd hd1) rfl (XS.ifYes S.X.here S.ex rfl (pc0 := pc + 1) rfl (S.hd hd) rfl (Jvm.Free.XT.ll_lt_t q) (off0 ht) (off1 ht) q')
  · exact (kn q).of fun t q' => Jvm.Free.XT.lcmp S.X.here S.ex rfl (S.hd hd1) rfl (XS.ifNo S.X.here S.ex rfl (S.hd hd) rfl (Jvm.Free.XT.ll_lt_f q) q')
theorem Go.if_ge (S : St p l e R s m args below meth c Z own bytes nl ret nm h0 ws T h locs cells slots) {x : Int32} {o : Int} {pt : Nat} (hd : decode bytes pc = .ok (.ifCond .ge o, 3)) (ht : (pc : Int) + o = (pt : Int)) (hf : pc + 3 = pc') (ky : ¬ x < 0 → Go p e below P T (mkF m pt Ls st)) (kn : x < 0 → Go p e below P T (mkF m pc' Ls st)) : Go p e below P T (mkF m pc Ls (.int x :: st)) := by
  subst hf
  by_cases q : x < 0
  · exact (kn q).of fun t q' => XS.ifNo S.X.here S.ex rfl (S.hd hd) rfl (Jvm.Free.XT.i0_ge_f q) q'
  · exact (ky q).of fun t q' => XS.ifYes S.X.here S.ex rfl (pc0 := pc) rfl (S.hd hd) rfl (Jvm.Free.XT.i0_ge_t q) (off0 ht) (off1 ht) q'
theorem Go.icmp_ge (S : St p l e R s m args below meth c Z own bytes nl ret nm h0 ws T h locs cells slots) {x y : Int32} {o : Int} {pt : Nat} (hd : decode bytes pc = .ok (.if_icmp .ge o, 3)) (ht : (pc : Int) + o = (pt : Int)) (hf : pc + 3 = pc') (ky : ¬ x < y → Go p e below P T (mkF m pt Ls st)) (kn : x < y → Go p e below P T (mkF m pc' Ls st)) : Go p e below P T (mkF m pc Ls (.int y :: .int x :: st)) := by
  subst hf
  by_cases q : x < y
  · exact (kn q).of fun t q' => XS.icmpNo S.X.here S.ex rfl (S.hd hd) rfl (Jvm.Free.XT.ii_ge_f q) q'
  · exact (ky q).of fun t q' => XS.icmpYes S.X.here S.ex rfl (pc0 := pc) rfl (S.hd hd) rfl (Jvm.Free.XT.ii_ge_t q) (off0 ht) (off1 ht) q'
theorem Go.lcmp_ge (S : St p l e R s m args below meth c Z own bytes nl ret nm h0 ws T h locs cells slots) {x y : Int64} {o : Int} {pt : Nat} {pc1 : Nat} (hd1 : decode bytes pc = .ok (.lcmp, 1)) (h1 : pc + 1 = pc1) (hd : decode bytes pc1 = .ok (.ifCond .ge o, 3)) (ht : (pc1 : Int) + o = (pt : Int)) (hf : pc1 + 3 = pc') (ky : ¬ x < y → Go p e below P T (mkF m pt Ls st)) (kn : x < y → Go p e below P T (mkF m pc' Ls st)) : Go p e below P T (mkF m pc Ls (.long y :: .long x :: st)) := by
  subst hf h1
  by_cases q : x < y
  · exact (kn q).of fun t q' => Jvm.Free.XT.lcmp S.X.here S.ex rfl (S.hd hd1) rfl (XS.ifNo S.X.here S.ex rfl (S.hd hd) rfl (Jvm.Free.XT.ll_ge_f q) q')
  · exact (ky q).of fun t q' => Jvm.Free.XT.lcmp S.X.here S.ex rfl (S.hd hd1) rfl (XS.ifYes S.X.here S.ex rfl (pc0 := pc + 1) rfl (S.hd hd) rfl (Jvm.Free.XT.ll_ge_t q) (off0 ht) (off1 ht) q')
theorem Go.if_gt (S : St p l e R s m args below meth c Z own bytes nl ret nm h0 ws T h locs cells slots) {x : Int32} {o : Int} {pt : Nat} (hd : decode bytes pc = .ok (.ifCond .gt o, 3)) (ht : (pc : Int) + o = (pt : Int)) (hf : pc + 3 = pc') (ky : 0 < x → Go p e below P T (mkF m pt Ls st)) (kn : ¬ 0 < x → Go p e below P T (mkF m pc' Ls st)) : Go p e below P T (mkF m pc Ls (.int x :: st)) := by
  subst hf
  by_cases q : 0 < x
  · exact (ky q).of fun t q' => XS.ifYes S.X.here S.ex rfl (pc0 := pc) rfl (S.hd hd) rfl (Jvm.Free.XT.i0_gt_t q) (off0 ht) (off1 ht) q'
  · exact (kn q).of fun t q' => XS.ifNo S.X.here S.ex rfl (S.hd hd) rfl (Jvm.Free.XT.i0_gt_f q) q'
theorem Go.icmp_gt (S : St p l e R s m args below meth c Z own bytes nl ret nm h0 ws T h locs cells slots) {x y : Int32} {o : Int} {pt : Nat} (hd : decode bytes pc = .ok (.if_icmp .gt o, 3)) (ht : (pc : Int) + o = (pt : Int)) (hf : pc + 3 = pc') (ky : y < x → Go p e below P T (mkF m pt Ls st)) (kn : ¬ y < x → Go p e below P T (mkF m pc' Ls st)) : Go p e below P T (mkF m pc Ls (.int y :: .int x :: st)) := by
  subst hf
  by_cases q : y < x
  · exact (ky q).of fun t q' => XS.icmpYes S.X.here S.ex rfl (pc0 := pc) rfl (S.hd hd) rfl (Jvm.Free.XT.ii_gt_t q) (off0 ht) (off1 ht) q'
  · exact (kn q).of fun t q' => XS.icmpNo S.X.here S.ex rfl (S.hd hd) rfl (Jvm.Free.XT.ii_gt_f q) q'
theorem Go.lcmp_gt (S : St p l e R s m args below meth c Z own bytes nl ret nm h0 ws T h locs cells slots) {x y : Int64} {o : Int} {pt : Nat} {pc1 : Nat} (hd1 : decode bytes pc = .ok (.lcmp, 1)) (h1 : pc + 1 = pc1) (hd : decode bytes pc1 = .ok (.ifCond .gt o, 3)) (ht : (pc1 : Int) + o = (pt : Int)) (hf : pc1 + 3 = pc') (ky : y < x → Go p e below P T (mkF m pt Ls st)) (kn : ¬ y < x → Go p e below P T (mkF m pc' Ls st)) : Go p e below P T (mkF m pc Ls (.long y :: .long x :: st)) := by
  subst hf h1
  by_cases q : y < x
  · exact (ky q).of fun t q' => Jvm.Free.XT.lcmp S.X.here S.ex rfl (S.hd hd1) rfl (XS.ifYes S.X.here S.ex rfl (pc0 := pc + 1) rfl (S.hd hd) rfl (Jvm.Free.XT.ll_gt_t q) (off0 ht) (off1 ht) q')
  · exact (kn q).of fun t q' => Jvm.Free.XT.lcmp S.X.here S.ex rfl (S.hd hd1) rfl (XS.ifNo S.X.here S.ex rfl (S.hd hd) rfl (Jvm.Free.XT.ll_gt_f q) q')
theorem Go.if_le (S : St p l e R s m args below meth c Z own bytes nl ret nm h0 ws T h locs cells slots) {x : Int32} {o : Int} {pt : Nat} (hd : decode bytes pc = .ok (.ifCond .le o, 3)) (ht : (pc : Int) + o = (pt : Int)) (hf : pc + 3 = pc') (ky : ¬ 0 < x → Go p e below P T (mkF m pt Ls st)) (kn : 0 < x → Go p e below P T (mkF m pc' Ls st)) : Go p e below P T (mkF m pc Ls (.int x :: st)) := by
  subst hf
  by_cases q : 0 < x
  · exact (kn q).of fun t q' => XS.ifNo S.X.here S.ex rfl (S.hd hd) rfl (Jvm.Free.XT.i0_le_f q) q'
  · exact (ky q).of fun t q' => XS.ifYes S.X.here S.ex rfl (pc0 := pc) rfl (S.hd hd) rfl (Jvm.Free.XT.i0_le_t q) (off0 ht) (off1 ht) q'
theorem Go.icmp_le (S : St p l e R s m args below meth c Z own bytes nl ret nm h0 ws T h locs cells slots) {x y : Int32} {o : Int} {pt : Nat} (hd : decode bytes pc = .ok (.if_icmp .le o, 3)) (ht : (pc : Int) + o = (pt : Int)) (hf : pc + 3 = pc') (ky : ¬ y < x → Go p e below P T (mkF m pt Ls st)) (kn : y < x → Go p e below P T (mkF m pc' Ls st)) : Go p e below P T (mkF m pc Ls (.int y :: .int x :: st)) := by
  subst hf
  by_cases q : y < x
  · exact (kn q).of fun t q' => XS.icmpNo S.X.here S.ex rfl (S.hd hd) rfl (Jvm.Free.XT.ii_le_f q) q'
  · exact (ky q).of fun t q' => XS.icmpYes S.X.here S.ex rfl (pc0 := pc) rfl (S.hd hd) rfl (Jvm.Free.XT.ii_le_t q) (off0 ht) (off1 ht) q'
theorem Go.lcmp_le (S : St p l e R s m args below meth c Z own bytes nl ret nm h0 ws T h locs cells slots) {x y : Int64} {o : Int} {pt : Nat} {pc1 : Nat} (hd1 : decode bytes pc = .ok (.lcmp, 1)) (h1 : pc + 1 = pc1) (hd : decode bytes pc1 = .ok (.ifCond .le o, 3)) (ht : (pc1 : Int) + o = (pt : Int)) (hf : pc1 + 3 = pc') (ky : ¬ y < x → Go p e below P T (mkF m pt Ls st)) (kn : y < x → Go p e below P T (mkF m pc' Ls st)) : Go p e below P T (mkF m pc Ls (.long y :: .long x :: st)) := by
  subst hf h1
  by_cases q : y < x
  · exact (kn q).of fun t q' => Jvm.Free.XT.lcmp S.X.here S.ex rfl (S.hd hd1) rfl (XS.ifNo S.X.here S.ex rfl (S.hd hd) rfl (Jvm.Free.XT.ll_le_f q) q')
  · exact (ky q).of fun t q' => Jvm.Free.XT.lcmp S.X.here S.ex rfl (S.hd hd1) rfl (XS.ifYes S.X.here S.ex rfl (pc0 := pc + 1) rfl (S.hd hd) rfl (Jvm.Free.XT.ll_le_t q) (off0 ht) (off1 ht) q')
theorem Go.acmp_eq (S : St p l e R s m args below meth c Z own bytes nl ret nm h0 ws T h locs cells slots) {x y : Value} {o : Int} {pt : Nat} (hd : decode bytes pc = .ok (.if_acmp .eq o, 3)) (ht : (pc : Int) + o = (pt : Int)) (hf : pc + 3 = pc') (rx : x.isRef = true) (ry : y.isRef = true) (ky : x = y → Go p e below P T (mkF m pt Ls st)) (kn : ¬ x = y → Go p e below P T (mkF m pc' Ls st)) : Go p e below P T (mkF m pc Ls (y :: x :: st)) := by
  subst hf
  by_cases q : x = y
  · exact (ky q).of fun t q' => Jvm.RoadKit.acmp (g := mkF m pc Ls (y :: x :: st)) S.X S.ex rfl rx ry (pc0 := pc) (same := true) rfl (S.hd hd) rfl (decide_eq_true q) (off0 ht) ((off1 ht).symm.trans (if_pos rfl).symm) q'
  · exact (kn q).of fun t q' => Jvm.RoadKit.acmp (g := mkF m pc Ls (y :: x :: st)) S.X S.ex rfl rx ry (pc0 := pc) (same := false) rfl (S.hd hd) rfl (decide_eq_false q) (off0 ht) ((if_neg (fun z => nomatch z)).symm) q'
theorem Go.acmp_ne (S : St p l e R s m args below meth c Z own bytes nl ret nm h0 ws T h locs cells slots) {x y : Value} {o : Int} {pt : Nat} (hd : decode bytes pc = .ok (.if_acmp .ne o, 3)) (ht : (pc : Int) + o = (pt : Int)) (hf : pc + 3 = pc') (rx : x.isRef = true) (ry : y.isRef = true) (ky : ¬ x = y → Go p e below P T (mkF m pt Ls st)) (kn : x = y → Go p e below P T (mkF m pc' Ls st)) : Go p e below P T (mkF m pc Ls (y :: x :: st)) := by
  subst hf
  by_cases q : x = y
  · exact (kn q).of fun t q' => Jvm.RoadKit.acmp (g := mkF m pc Ls (y :: x :: st)) S.X S.ex rfl rx ry (pc0 := pc) (same := true) rfl (S.hd hd) rfl (decide_eq_true q) (off0 ht) ((if_neg (fun z => nomatch z)).symm) q'
  · exact (ky q).of fun t q' => Jvm.RoadKit.acmp (g := mkF m pc Ls (y :: x :: st)) S.X S.ex rfl rx ry (pc0 := pc) (same := false) rfl (S.hd hd) rfl (decide_eq_false q) (off0 ht) ((off1 ht).symm.trans (if_pos rfl).symm) q'
theorem Go.ifnullY (S : St p l e R s m args below meth c Z own bytes nl ret nm h0 ws T h locs cells slots) {o : Int} {pt : Nat} (hd : decode bytes pc = .ok (.ifnull o, 3)) (ht : (pc : Int) + o = (pt : Int)) (k : Go p e below P T (mkF m pt Ls st)) : Go p e below P T (mkF m pc Ls (.null :: st)) :=
  k.of fun t q => XS.ifnullYes S.X.here S.ex rfl (pc0 := pc) rfl (S.hd hd) rfl (off0 ht) (off1 ht) q
theorem Go.ifnullN (S : St p l e R s m args below meth c Z own bytes nl ret nm h0 ws T h locs cells slots) {o : Int} {b : Addr} (hd : decode bytes pc = .ok (.ifnull o, 3)) (hf : pc + 3 = pc') (k : Go p e below P T (mkF m pc' Ls st)) : Go p e below P T (mkF m pc Ls (.ref b :: st)) := by
  subst hf
  exact k.of fun t q => XS.ifnullNo S.X.here S.ex rfl (S.hd hd) rfl q
theorem Go.ifnonnullY (S : St p l e R s m args below meth c Z own bytes nl ret nm h0 ws T h locs cells slots) {o : Int} {pt : Nat} {b : Addr} (hd : decode bytes pc = .ok (.ifnonnull o, 3)) (ht : (pc : Int) + o = (pt : Int)) (k : Go p e below P T (mkF m pt Ls st)) : Go p e below P T (mkF m pc Ls (.ref b :: st)) :=
  k.of fun t q => XS.ifnonnullYes S.X.here S.ex rfl (pc0 := pc) rfl (S.hd hd) rfl (off0 ht) (off1 ht) q
theorem Go.ifnonnullN (S : St p l e R s m args below meth c Z own bytes nl ret nm h0 ws T h locs cells slots) {o : Int} (hd : decode bytes pc = .ok (.ifnonnull o, 3)) (hf : pc + 3 = pc') (k : Go p e below P T (mkF m pc' Ls st)) : Go p e below P T (mkF m pc Ls (.null :: st)) := by
  subst hf
  exact k.of fun t q => XS.ifnonnullNo S.X.here S.ex rfl (S.hd hd) rfl q
theorem Go.ldc (S : St p l e R s m args below meth c Z own bytes nl ret nm h0 ws T h locs cells slots) {index : Nat} {v : Int32} (w : (Jvm.Cond.constant own index v).before a0 Z = true) (hd : decode bytes pc = .ok (.ldc index, 2)) (hp : pc + 2 = pc') (k : Go p e below P T (mkF m pc' Ls (.int v :: st))) : Go p e below P T (mkF m pc Ls st) := by
  subst hp
  exact k.of fun t q => S.X.ldcInt S.ex S.hown (mvT S.hZ w) (g := mkF m pc Ls st) rfl (S.hd hd) _ q
theorem Go.ldc2 (S : St p l e R s m args below meth c Z own bytes nl ret nm h0 ws T h locs cells slots) {index : Nat} {v : Int64} (w : (Jvm.Cond.constantLong own index v).before a0 Z = true) (hd : decode bytes pc = .ok (.ldc2_w index, 3)) (hp : pc + 3 = pc') (k : Go p e below P T (mkF m pc' Ls (.long v :: st))) : Go p e below P T (mkF m pc Ls st) := by
  subst hp
  exact k.of fun t q => S.X.ldc2Long S.ex S.hown (mvT S.hZ w) (g := mkF m pc Ls st) rfl (S.hd hd) _ q
theorem Go.leaves (S : St p l e R s m args below meth c Z own bytes nl ret nm h0 ws T h locs cells slots) {kc ks : Nat} {Q : Option Value → Heap → Prop} {g : JFrame} {v : Option Value} (hv : ret = none → v = none) (hc : cells ≤ kc) (hs : slots ≤ ks)
    (step : ∀ fs : List Frame, (∀ (f : JFrame) (acts : List Action), f.method = m → f.locked = none → f.entered = [] → (doReturn e (T.setTop f) acts v).1 = T.setFrames fs) → Steps p.tables e below (T.setTop g) (T.setFrames fs)) (q : Q v h) : Go p e below (PostOf Z s h0 ws kc ks Q) T g := by
  obtain ⟨fs, hr, hrun, hended, hW, hsame⟩ := S.X.leave (v := v) (fun q => hv (S.hret ▸ q)) S.locks
  refine ⟨_, _, step fs hr, hrun, hended, v, locs, rfl, ⟨S.fr, ?_, ?_, ?_⟩, ⟨_, rfl⟩, hW, hsame.mono hc hs⟩
  · show Keep h0 T.heap ws
    rw [S.eT]; exact S.keep
  · show Ext Z.heap T.heap
    rw [S.eT]; exact S.ext
  · show Q v T.heap
    rw [S.eT]; exact q
theorem St.leaves0 (S : St p l e R s m args below meth c Z own bytes nl ret nm h0 ws T h locs cells slots) {kc ks : Nat} {Q : Option Value → Heap → Prop} {g : JFrame} {w : Value} {t : FieldType} (hret : ret = some t) (hc : cells ≤ kc) (hs : slots ≤ ks) (q : Q (some w) h)
    (step : ∀ fs : List Frame, (∀ (f : JFrame) (acts : List Action), f.method = m → f.locked = none → f.entered = [] → (doReturn e (T.setTop f) acts (some w)).1 = T.setFrames fs) → Steps p.tables e below (T.setTop g) (T.setFrames fs)) : Go p e below (PostOf Z s h0 ws kc ks Q) T g :=
  Go.leaves S (fun q => by rw [hret] at q; cases q) hc hs step q
theorem narrow_ref {t : FieldType} {w : Value} (ht : t.isReference = true) (hw : w.isRef = true) : narrow t w = w := by
  rcases ref_cases hw with rfl | ⟨a, rfl⟩ <;> cases t <;> rfl
theorem Go.ireturn (S : St p l e R s m args below meth c Z own bytes nl ret nm h0 ws T h locs cells slots) {kc ks : Nat} {Q : Option Value → Heap → Prop} {z : Int32} (hret : ret = some .int) (hd : decode bytes pc = .ok (.ireturn, 1)) (hc : cells ≤ kc) (hs : slots ≤ ks) (q : Q (some (.int z)) h) : Go p e below (PostOf Z s h0 ws kc ks Q) T (mkF m pc Ls (.int z :: st)) :=
  S.leaves0 hret hc hs q fun fs hr => retOut S.X S.ex (t := .int) (i := .ireturn) (S.hret.trans hret) rfl (Or.inl ⟨rfl, Or.inl rfl, z, rfl⟩) (S.hd hd) hr
theorem Go.lreturn (S : St p l e R s m args below meth c Z own bytes nl ret nm h0 ws T h locs cells slots) {kc ks : Nat} {Q : Option Value → Heap → Prop} {z : Int64} (hret : ret = some .long) (hd : decode bytes pc = .ok (.lreturn, 1)) (hc : cells ≤ kc) (hs : slots ≤ ks) (q : Q (some (.long z)) h) : Go p e below (PostOf Z s h0 ws kc ks Q) T (mkF m pc Ls (.long z :: st)) :=
  S.leaves0 hret hc hs q fun fs hr => retOut S.X S.ex (t := .long) (i := .lreturn) (S.hret.trans hret) rfl (Or.inr (Or.inl ⟨rfl, rfl, z, rfl⟩)) (S.hd hd) hr
theorem Go.areturn (S : St p l e R s m args below meth c Z own bytes nl ret nm h0 ws T h locs cells slots) {kc ks : Nat} {Q : Option Value → Heap → Prop} {w : Value} {t : FieldType} (hret : ret = some t) (ht : t.isReference = true) (hw : w.isRef = true) (hd : decode bytes pc = .ok (.areturn, 1)) (hc : cells ≤ kc) (hs : slots ≤ ks) (q : Q (some w) h) : Go p e below (PostOf Z s h0 ws kc ks Q) T (mkF m pc Ls (w :: st)) :=
  S.leaves0 hret hc hs q fun fs hr => retOut S.X S.ex (i := .areturn) (S.hret.trans hret) (narrow_ref ht hw) (Or.inr (Or.inr (Or.inr (Or.inr ⟨rfl, ht, hw⟩)))) (S.hd hd) hr
theorem Go.zreturn (S : St p l e R s m args below meth c Z own bytes nl ret nm h0 ws T h locs cells slots) {kc ks : Nat} {Q : Option Value → Heap → Prop} {z z' : Int32} {t : FieldType} (hret : ret = some t) (ht : t = .boolean ∨ t = .byte ∨ t = .char ∨ t = .short) (hd : decode bytes pc = .ok (.ireturn, 1)) (hz : nar t z = z') (hc : cells ≤ kc) (hs : slots ≤ ks) (q : Q (some (.int z')) h) : Go p e below (PostOf Z s h0 ws kc ks Q) T (mkF m pc Ls (.int z :: st)) := by
  subst hz
  exact S.leaves0 hret hc hs q fun fs hr => retN S.X S.ex (S.hret.trans hret) ht (S.hd hd) hr
theorem Go.vreturn (S : St p l e R s m args below meth c Z own bytes nl ret nm h0 ws T h locs cells slots) {kc ks : Nat} {Q : Option Value → Heap → Prop} (hret : ret = none) (hd : decode bytes pc = .ok (.return_, 1)) (hc : cells ≤ kc) (hs : slots ≤ ks) (q : Q none h) : Go p e below (PostOf Z s h0 ws kc ks Q) T (mkF m pc Ls []) :=
  Go.leaves S (fun _ => rfl) hc hs (fun fs hr => S.X.returnOut S.ex (S.hret.trans hret) (S.hd hd) hr) q
theorem Go.getfield (S : St p l e R s m args below meth c Z own bytes nl ret nm h0 ws T h locs cells slots) {R0 O n d host : String} {index : Nat} {a : Addr} {v : Value} (w : ((Jvm.Cond.fieldLink own index R0 n d).before a0 Z = true ∨ (Jvm.Cond.fieldLinkNest own index R0 n d host).before a0 Z = true)) (via : Via Z R0 O n d) (F : Fld Z h a O n d v) (hd : decode bytes pc = .ok (.getfield index, 3)) (hp : pc + 3 = pc')
    (k : ∀ T', St p l e R s m args below meth c Z own bytes nl ret nm h0 ws T' h locs cells slots → Go p e below P T' (mkF m pc' Ls (v :: st))) : Go p e below P T (mkF m pc Ls (.ref a :: st)) := by
  subst hp
  obtain ⟨T', X', e', f⟩ := getF S.X S.ex S.hZ S.hown w via S.eT F (g := mkF m pc Ls (.ref a :: st)) rfl rfl (S.hd hd)
  exact (k T' (S.next X' e' S.fr S.keep S.ext)).of f
theorem Go.getstatic (S : St p l e R s m args below meth c Z own bytes nl ret nm h0 ws T h locs cells slots) {R0 O n d host : String} {index : Nat} {v : Value} (w : ((Jvm.Cond.fieldLink own index R0 n d).before a0 Z = true ∨ (Jvm.Cond.fieldLinkNest own index R0 n d host).before a0 Z = true)) (via : Via Z R0 O n d) (F : Sta Z Z.heap O n d v) (hd : decode bytes pc = .ok (.getstatic index, 3)) (hp : pc + 3 = pc')
    (k : ∀ T', St p l e R s m args below meth c Z own bytes nl ret nm h0 ws T' h locs cells slots → Go p e below P T' (mkF m pc' Ls (v :: st))) : Go p e below P T (mkF m pc Ls st) := by
  subst hp
  obtain ⟨T', X', e', f⟩ := getS2 S.X S.ex S.hZ S.hown w via S.eT (F.ext S.ext) (g := mkF m pc Ls st) rfl (S.hd hd)
  exact (k T' (S.next X' e' S.fr S.keep S.ext)).of f
theorem St.wrote (S : St p l e R s m args below meth c Z own bytes nl ret nm h0 ws T h locs cells slots) {T' : State} {h' : Heap} {a : Addr} {sl : Nat} {v : Value} (X : Stand p l e R s m args below meth c T' (locs ++ [⟨a, sl⟩]) cells slots) (e1 : T'.heap = h') (W : Wr h h' a sl v) (hz : Z.heap.size ≤ a) (hws : a ∈ ws ∨ h0.size ≤ a) : St p l e R s m args below meth c Z own bytes nl ret nm h0 ws T' h' (locs ++ [⟨a, sl⟩]) cells slots :=
  S.next X e1 (Fr.snoc X S.fr hz) (S.keep.wr W hws) (Old.wr (n0 := Z.heap.size) ⟨rfl, S.ext⟩ W hz).2
theorem Go.putfield (S : St p l e R s m args below meth c Z own bytes nl ret nm h0 ws T h locs cells slots) {R0 O n d host C : String} {index kk : Nat} {ty : FieldType} {a : Addr} {v old : Value} (w : ((Jvm.Cond.fieldLink own index R0 n d).before a0 Z = true ∨ (Jvm.Cond.fieldLinkNest own index R0 n d host).before a0 Z = true)) (via : Via Z R0 O n d) (F : Fld Z h a O n d old) (E : Exa Z h a C)
    (L : (Jvm.Cond.lays C O n d).before a0 Z = true ∨ ((Jvm.Cond.laysFinal C O n d).before a0 Z = true ∧ own = O ∧ nm = "<init>")) (wi : (Jvm.Cond.instantiable C kk).before a0 Z = true) (hty : parseFieldDescriptor d = some ty) (hn : narrow ty v = v) (hf : fits ty v = true)
    (hz : Z.heap.size ≤ a) (hws : a ∈ ws ∨ h0.size ≤ a) (hd : decode bytes pc = .ok (.putfield index, 3)) (hp : pc + 3 = pc')
    (k : ∀ T' h' locs', St p l e R s m args below meth c Z own bytes nl ret nm h0 ws T' h' locs' cells slots → Wr h h' a (Jvm.RoadKit.slotOf Z O n d) v → Go p e below P T' (mkF m pc' Ls st)) : Go p e below P T (mkF m pc Ls (v :: .ref a :: st)) := by
  subst hp
  obtain ⟨T', h', X', e', W, f⟩ := putF S.X S.ex S.hZ S.hown w via S.eT F E (L.imp id fun q => ⟨q.1, q.2.1, S.hnm.trans q.2.2⟩) wi hty hn hf (g := mkF m pc Ls (v :: .ref a :: st)) rfl rfl (S.hd hd)
  exact (k T' h' _ (S.wrote X' e' W hz hws) W).of f
theorem Go.putfieldN (S : St p l e R s m args below meth c Z own bytes nl ret nm h0 ws T h locs cells slots) {R0 O n d C : String} {index kk : Nat} {ty : FieldType} {a : Addr} {v v' old : Value} (w : (Jvm.Cond.fieldLink own index R0 n d).before a0 Z = true) (via : Via Z R0 O n d) (F : Fld Z h a O n d old) (E : Exa Z h a C)
    (L : (Jvm.Cond.lays C O n d).before a0 Z = true ∨ ((Jvm.Cond.laysFinal C O n d).before a0 Z = true ∧ own = O ∧ nm = "<init>")) (wi : (Jvm.Cond.instantiable C kk).before a0 Z = true) (hty : parseFieldDescriptor d = some ty) (hn : narrow ty v = v') (hf : fits ty v' = true)
    (hz : Z.heap.size ≤ a) (hws : a ∈ ws ∨ h0.size ≤ a) (hd : decode bytes pc = .ok (.putfield index, 3)) (hp : pc + 3 = pc')
    (k : ∀ T' h' locs', St p l e R s m args below meth c Z own bytes nl ret nm h0 ws T' h' locs' cells slots → Wr h h' a (Jvm.RoadKit.slotOf Z O n d) v' → Go p e below P T' (mkF m pc' Ls st)) : Go p e below P T (mkF m pc Ls (v :: .ref a :: st)) := by
  subst hp
  obtain ⟨T', h', X', e', W, f⟩ := putFN S.X S.ex S.hZ S.hown w via S.eT F E (L.imp id fun q => ⟨q.1, q.2.1, S.hnm.trans q.2.2⟩) wi hty hn hf (g := mkF m pc Ls (v :: .ref a :: st)) rfl rfl (S.hd hd)
  exact (k T' h' _ (S.wrote X' e' W hz hws) W).of f
theorem St.made (S : St p l e R s m args below meth c Z own bytes nl ret nm h0 ws T h locs cells slots) {T' : State} {h' : Heap} {cells' slots' : Nat} (X : Stand p l e R s m args below meth c T' locs cells' slots') (e1 : T'.heap = h') (E : Ext h h') : St p l e R s m args below meth c Z own bytes nl ret nm h0 ws T' h' locs cells' slots' :=
  S.next X e1 S.fr (S.keep.ext E) (Old.ext (n0 := Z.heap.size) ⟨rfl, S.ext⟩ E).2
theorem Go.new (S : St p l e R s m args below meth c Z own bytes nl ret nm h0 ws T h locs cells slots) {C : String} {index n : Nat} (w : (Jvm.Cond.classLink own index C).before a0 Z = true) (wi : (Jvm.Cond.instantiable C n).before a0 Z = true) (wz : (Jvm.Cond.initialized C).before a0 Z = true) (hd : decode bytes pc = .ok (.new index, 3)) (hc : cells + 1 ≤ R.cells) (hl : slots + n ≤ R.slots) (hp : pc + 3 = pc')
    (k : ∀ T' h' a, St p l e R s m args below meth c Z own bytes nl ret nm h0 ws T' h' locs (cells + 1) (slots + n) → Ext h h' → h.size = a → Z.heap.size ≤ a → h0.size ≤ a → Exa Z h' a C → (∀ {O nm d : String} {ty : FieldType}, Laid Z a0 C O nm d → parseFieldDescriptor d = some ty → Fld Z h' a O nm d (defaultValue ty)) → Go p e below P T' (mkF m pc' Ls (.ref a :: st))) : Go p e below P T (mkF m pc Ls st) := by
  subst hp
  obtain ⟨T', h', X', e', E, A, D, -, f⟩ := newO S.X S.ex S.hZ S.hown w wi wz S.eT (g := mkF m pc Ls st) rfl (S.hd hd) hc hl
  exact (k T' h' h.size (S.made X' e' E) E rfl S.ext.1 S.keep.1 A D).of f
theorem Go.newarray (S : St p l e R s m args below meth c Z own bytes nl ret nm h0 ws T h locs cells slots) {aty : ArrayType} {n : Int32} {cap : Nat} {ty : FieldType} {dv : Value} (hty : newarray.typeOf aty = ty) (hdv : defaultValue ty = dv) (w : (Jvm.Cond.arrayClass ty).before a0 Z = true) (hd : decode bytes pc = .ok (.newarray aty, 2)) (hn : ¬ n < 0) (hcap : n.toNatClampNeg ≤ cap) (hb : cap * 8 ≤ 536870912) (hc : cells + 1 ≤ R.cells) (hl : slots + cap ≤ R.slots) (hp : pc + 2 = pc')
    (k : ∀ T' h' a cA, St p l e R s m args below meth c Z own bytes nl ret nm h0 ws T' h' locs (cells + 1) (slots + cap) → Ext h h' → h.size = a → Z.heap.size ≤ a → h0.size ≤ a → Arv Z h' a cA ty n (List.replicate cap dv) dv → Go p e below P T' (mkF m pc' Ls (.ref a :: st))) : Go p e below P T (mkF m pc Ls (.int n :: st)) := by
  subst hp hty hdv
  obtain ⟨T', h', cA, X', e', E, A, f⟩ := newP S.X S.ex S.hZ w S.eT (g := mkF m pc Ls (.int n :: st)) rfl (S.hd hd) rfl hn hcap hb hc hl
  exact (k T' h' h.size cA (S.made X' e' E) E rfl S.ext.1 S.keep.1 ((Arv.new A hn).pad (pad_rep [] _ cap))).of f
theorem Go.anewarray (S : St p l e R s m args below meth c Z own bytes nl ret nm h0 ws T h locs cells slots) {C : String} {index : Nat} {n : Int32} {cap : Nat} (w1 : (Jvm.Cond.classLink own index C).before a0 Z = true) (w2 : (Jvm.Cond.arrayOver (.object C)).before a0 Z = true) (hd : decode bytes pc = .ok (.anewarray index, 3)) (hn : ¬ n < 0) (hcap : n.toNatClampNeg ≤ cap) (hb : cap * 8 ≤ 536870912) (hc : cells + 1 ≤ R.cells) (hl : slots + cap ≤ R.slots) (hp : pc + 3 = pc')
    (k : ∀ T' h' a cA, St p l e R s m args below meth c Z own bytes nl ret nm h0 ws T' h' locs (cells + 1) (slots + cap) → Ext h h' → h.size = a → Z.heap.size ≤ a → h0.size ≤ a → Arv Z h' a cA (.object C) n (List.replicate cap .null) .null → Ovr Z cA C → Go p e below P T' (mkF m pc' Ls (.ref a :: st))) : Go p e below P T (mkF m pc Ls (.int n :: st)) := by
  subst hp
  obtain ⟨T', h', cA, X', e', E, A, O, f⟩ := newR S.X S.ex S.hZ S.hown w1 w2 S.eT (g := mkF m pc Ls (.int n :: st)) rfl (S.hd hd) rfl hn hcap hb hc hl
  exact (k T' h' h.size cA (S.made X' e' E) E rfl S.ext.1 S.keep.1 ((Arv.new A hn).pad (pad_rep [] _ cap)) O).of f
theorem Go.iastore (S : St p l e R s m args below meth c Z own bytes nl ret nm h0 ws T h locs cells slots) {a : Addr} {kA : ClassId} {n j : Int32} {x : Int32} {vs : List Value} {dv : Value} {i : Nat} (V : Arv Z h a kA .int n vs dv) (hj : ¬ j < 0 ∧ j < n) (hi : j.toNatClampNeg = i) (hl : i < vs.length) (hz : Z.heap.size ≤ a) (hws : a ∈ ws ∨ h0.size ≤ a) (hd : decode bytes pc = .ok (.iastore, 1)) (hp : pc + 1 = pc')
    (k : ∀ T' h' locs', St p l e R s m args below meth c Z own bytes nl ret nm h0 ws T' h' locs' cells slots → Wr h h' a j.toNatClampNeg (.int x) → Arv Z h' a kA .int n (vs.set i (.int x)) dv → Go p e below P T' (mkF m pc' Ls st)) : Go p e below P T (mkF m pc Ls (.int x :: .int j :: .ref a :: st)) := by
  subst hp
  obtain ⟨cl, A, q1, q2, q3, H, F⟩ := V
  obtain ⟨T', h', X', e', W, f⟩ := stI S.X S.ex S.hZ S.eT A (j := j) (x := x) (inb_of q2 hj) (g := mkF m pc Ls (.int x :: .int j :: .ref a :: st)) rfl rfl (S.hd hd)
  exact (k T' h' _ (S.wrote X' e' W hz hws) W (Arv.set A q1 q2 q3 H F rfl W i hi hl)).of f
theorem Go.castore (S : St p l e R s m args below meth c Z own bytes nl ret nm h0 ws T h locs cells slots) {a : Addr} {kA : ClassId} {n j : Int32} {x : Int32} {vs : List Value} {dv : Value} {i : Nat} (V : Arv Z h a kA .char n vs dv) (hj : ¬ j < 0 ∧ j < n) (hi : j.toNatClampNeg = i) (hl : i < vs.length) (hz : Z.heap.size ≤ a) (hws : a ∈ ws ∨ h0.size ≤ a) (hd : decode bytes pc = .ok (.castore, 1)) (hp : pc + 1 = pc')
    (k : ∀ T' h' locs', St p l e R s m args below meth c Z own bytes nl ret nm h0 ws T' h' locs' cells slots → Wr h h' a j.toNatClampNeg (.int (nar .char x)) → Arv Z h' a kA .char n (vs.set i (.int (nar .char x))) dv → Go p e below P T' (mkF m pc' Ls st)) : Go p e below P T (mkF m pc Ls (.int x :: .int j :: .ref a :: st)) := by
  subst hp
  obtain ⟨cl, A, q1, q2, q3, H, F⟩ := V
  obtain ⟨T', h', X', e', W, f⟩ := stC S.X S.ex S.hZ S.eT A (j := j) (x := x) (inb_of q2 hj) (g := mkF m pc Ls (.int x :: .int j :: .ref a :: st)) rfl rfl (S.hd hd)
  exact (k T' h' _ (S.wrote X' e' W hz hws) W (Arv.set A q1 q2 q3 H F (fits_nar_char _) W i hi hl)).of f
theorem Go.bastore (S : St p l e R s m args below meth c Z own bytes nl ret nm h0 ws T h locs cells slots) {a : Addr} {kA : ClassId} {n j : Int32} {x : Int32} {vs : List Value} {dv : Value} {i : Nat} (V : Arv Z h a kA .byte n vs dv) (hj : ¬ j < 0 ∧ j < n) (hi : j.toNatClampNeg = i) (hl : i < vs.length) (hz : Z.heap.size ≤ a) (hws : a ∈ ws ∨ h0.size ≤ a) (hd : decode bytes pc = .ok (.bastore, 1)) (hp : pc + 1 = pc')
    (k : ∀ T' h' locs', St p l e R s m args below meth c Z own bytes nl ret nm h0 ws T' h' locs' cells slots → Wr h h' a j.toNatClampNeg (.int (nar .byte x)) → Arv Z h' a kA .byte n (vs.set i (.int (nar .byte x))) dv → Go p e below P T' (mkF m pc' Ls st)) : Go p e below P T (mkF m pc Ls (.int x :: .int j :: .ref a :: st)) := by
  subst hp
  obtain ⟨cl, A, q1, q2, q3, H, F⟩ := V
  obtain ⟨T', h', X', e', W, f⟩ := stB S.X S.ex S.hZ S.eT A (j := j) (x := x) (inb_of q2 hj) (g := mkF m pc Ls (.int x :: .int j :: .ref a :: st)) rfl rfl (S.hd hd)
  exact (k T' h' _ (S.wrote X' e' W hz hws) W (Arv.set A q1 q2 q3 H F (fits_nar_byte _) W i hi hl)).of f
theorem Go.lastore (S : St p l e R s m args below meth c Z own bytes nl ret nm h0 ws T h locs cells slots) {a : Addr} {kA : ClassId} {n j : Int32} {x : Int64} {vs : List Value} {dv : Value} {i : Nat} (V : Arv Z h a kA .long n vs dv) (hj : ¬ j < 0 ∧ j < n) (hi : j.toNatClampNeg = i) (hl : i < vs.length) (hz : Z.heap.size ≤ a) (hws : a ∈ ws ∨ h0.size ≤ a) (hd : decode bytes pc = .ok (.lastore, 1)) (hp : pc + 1 = pc')
    (k : ∀ T' h' locs', St p l e R s m args below meth c Z own bytes nl ret nm h0 ws T' h' locs' cells slots → Wr h h' a j.toNatClampNeg (.long x) → Arv Z h' a kA .long n (vs.set i (.long x)) dv → Go p e below P T' (mkF m pc' Ls st)) : Go p e below P T (mkF m pc Ls (.long x :: .int j :: .ref a :: st)) := by
  subst hp
  obtain ⟨cl, A, q1, q2, q3, H, F⟩ := V
  obtain ⟨T', h', X', e', W, f⟩ := stJ S.X S.ex S.hZ S.eT A (j := j) (x := x) (inb_of q2 hj) (g := mkF m pc Ls (.long x :: .int j :: .ref a :: st)) rfl rfl (S.hd hd)
  exact (k T' h' _ (S.wrote X' e' W hz hws) W (Arv.set A q1 q2 q3 H F rfl W i hi hl)).of f
theorem Go.aastore (S : St p l e R s m args below meth c Z own bytes nl ret nm h0 ws T h locs cells slots) {a : Addr} {kA : ClassId} {ty : FieldType} {n j : Int32} {v : Value} {vs : List Value} {dv : Value} {i : Nat} (V : Arv Z h a kA ty n vs dv) (hty : ty.isReference = true) (hj : ¬ j < 0 ∧ j < n) (hi : j.toNatClampNeg = i) (hl : i < vs.length) (hfit : fits ty v = true) (F : Sto Z h a v) (hz : Z.heap.size ≤ a) (hws : a ∈ ws ∨ h0.size ≤ a) (hd : decode bytes pc = .ok (.aastore, 1)) (hp : pc + 1 = pc')
    (k : ∀ T' h' locs', St p l e R s m args below meth c Z own bytes nl ret nm h0 ws T' h' locs' cells slots → Wr h h' a j.toNatClampNeg v → Arv Z h' a kA ty n (vs.set i v) dv → Go p e below P T' (mkF m pc' Ls st)) : Go p e below P T (mkF m pc Ls (v :: .int j :: .ref a :: st)) := by
  subst hp
  obtain ⟨cl, A, q1, q2, q3, H, F'⟩ := V
  obtain ⟨T', h', X', e', W, f⟩ := stR S.X S.ex S.hZ S.eT A (j := j) (v := v) (inb_of q2 hj) hty F (g := mkF m pc Ls (v :: .int j :: .ref a :: st)) rfl rfl (S.hd hd)
  exact (k T' h' _ (S.wrote X' e' W hz hws) W (Arv.set A q1 q2 q3 H F' hfit W i hi hl)).of f
theorem Go.iaload (S : St p l e R s m args below meth c Z own bytes nl ret nm h0 ws T h locs cells slots) {a : Addr} {kA : ClassId} {n j : Int32} {v : Value} {vs : List Value} {dv : Value} (V : Arv Z h a kA .int n vs dv) (hj : ¬ j < 0 ∧ j < n) (hv : vs.getD j.toNatClampNeg dv = v) (hd : decode bytes pc = .ok (.iaload, 1)) (hp : pc + 1 = pc') (k : Go p e below P T (mkF m pc' Ls (v :: st))) : Go p e below P T (mkF m pc Ls (.int j :: .ref a :: st)) := by
  subst hp
  obtain ⟨cl, A, q1, q2, q3, H, F⟩ := V
  exact k.of fun t q => S.X.iaload S.ex (j := j) (v := v) (by rw [S.eT]; exact A.1) (State.isArrayOf_alike S.hZ.alike A.2.1) A.2.2 (inb_of q2 hj) (H.at (inb_of q2 hj) hv) (g := mkF m pc Ls (.int j :: .ref a :: st)) rfl rfl (S.hd hd) _ q
theorem Go.laload (S : St p l e R s m args below meth c Z own bytes nl ret nm h0 ws T h locs cells slots) {a : Addr} {kA : ClassId} {n j : Int32} {v : Value} {vs : List Value} {dv : Value} (V : Arv Z h a kA .long n vs dv) (hj : ¬ j < 0 ∧ j < n) (hv : vs.getD j.toNatClampNeg dv = v) (hd : decode bytes pc = .ok (.laload, 1)) (hp : pc + 1 = pc') (k : Go p e below P T (mkF m pc' Ls (v :: st))) : Go p e below P T (mkF m pc Ls (.int j :: .ref a :: st)) := by
  subst hp
  obtain ⟨cl, A, q1, q2, q3, H, F⟩ := V
  exact k.of fun t q => S.X.laload S.ex (j := j) (v := v) (by rw [S.eT]; exact A.1) (State.isArrayOf_alike S.hZ.alike A.2.1) A.2.2 (inb_of q2 hj) (H.at (inb_of q2 hj) hv) (g := mkF m pc Ls (.int j :: .ref a :: st)) rfl rfl (S.hd hd) _ q
theorem Go.caload (S : St p l e R s m args below meth c Z own bytes nl ret nm h0 ws T h locs cells slots) {a : Addr} {kA : ClassId} {n j : Int32} {v : Value} {vs : List Value} {dv : Value} (V : Arv Z h a kA .char n vs dv) (hj : ¬ j < 0 ∧ j < n) (hv : vs.getD j.toNatClampNeg dv = v) (hd : decode bytes pc = .ok (.caload, 1)) (hp : pc + 1 = pc') (k : Go p e below P T (mkF m pc' Ls (v :: st))) : Go p e below P T (mkF m pc Ls (.int j :: .ref a :: st)) := by
  subst hp
  obtain ⟨cl, A, q1, q2, q3, H, F⟩ := V
  exact k.of fun t q => S.X.caload S.ex (j := j) (v := v) (by rw [S.eT]; exact A.1) (State.isArrayOf_alike S.hZ.alike A.2.1) A.2.2 (inb_of q2 hj) (H.at (inb_of q2 hj) hv) (g := mkF m pc Ls (.int j :: .ref a :: st)) rfl rfl (S.hd hd) _ q
theorem Go.baload (S : St p l e R s m args below meth c Z own bytes nl ret nm h0 ws T h locs cells slots) {a : Addr} {kA : ClassId} {n j : Int32} {v : Value} {vs : List Value} {dv : Value} (V : Arv Z h a kA .byte n vs dv) (hj : ¬ j < 0 ∧ j < n) (hv : vs.getD j.toNatClampNeg dv = v) (hd : decode bytes pc = .ok (.baload, 1)) (hp : pc + 1 = pc') (k : Go p e below P T (mkF m pc' Ls (v :: st))) : Go p e below P T (mkF m pc Ls (.int j :: .ref a :: st)) := by
  subst hp
  obtain ⟨cl, A, q1, q2, q3, H, F⟩ := V
  exact k.of fun t q => S.X.baloadBytes S.ex (j := j) (v := v) (by rw [S.eT]; exact A.1) (State.isArrayOf_alike S.hZ.alike A.2.1) A.2.2 (inb_of q2 hj) (H.at (inb_of q2 hj) hv) (g := mkF m pc Ls (.int j :: .ref a :: st)) rfl rfl (S.hd hd) _ q
theorem Go.aaload (S : St p l e R s m args below meth c Z own bytes nl ret nm h0 ws T h locs cells slots) {a : Addr} {kA : ClassId} {ty : FieldType} {n j : Int32} {v : Value} {vs : List Value} {dv : Value} (V : Arv Z h a kA ty n vs dv) (hty : ty.isReference = true) (hj : ¬ j < 0 ∧ j < n) (hv : vs.getD j.toNatClampNeg dv = v) (hd : decode bytes pc = .ok (.aaload, 1)) (hp : pc + 1 = pc') (k : Go p e below P T (mkF m pc' Ls (v :: st))) : Go p e below P T (mkF m pc Ls (.int j :: .ref a :: st)) := by
  subst hp
  obtain ⟨cl, A, q1, q2, q3, H, F⟩ := V
  exact k.of fun t q => S.X.aaload S.ex (j := j) (v := v) (by rw [S.eT]; exact A.1) (State.isArrayOf_alike S.hZ.alike A.2.1) hty A.2.2 (inb_of q2 hj) (H.at (inb_of q2 hj) hv) (g := mkF m pc Ls (.int j :: .ref a :: st)) rfl rfl (S.hd hd) _ q
theorem Go.arraylength (S : St p l e R s m args below meth c Z own bytes nl ret nm h0 ws T h locs cells slots) {a : Addr} {kA : ClassId} {ty : FieldType} {n : Int32} {vs : List Value} {dv : Value} (V : Arv Z h a kA ty n vs dv) (hd : decode bytes pc = .ok (.arraylength, 1)) (hp : pc + 1 = pc') (k : Go p e below P T (mkF m pc' Ls (.int n :: st))) : Go p e below P T (mkF m pc Ls (.ref a :: st)) := by
  subst hp
  obtain ⟨cl, A, q1, q2, q3, H, F⟩ := V
  exact k.of fun t q => S.X.arraylength S.ex (by rw [S.eT]; exact A.1) (State.isArrayOf_alike S.hZ.alike A.2.1) (g := mkF m pc Ls (.ref a :: st)) rfl rfl (S.hd hd) _ (by rw [len_of q2 q3]; exact q)
theorem Go.initObject (S : St p l e R s m args below meth c Z own bytes nl ret nm h0 ws T h locs cells slots) {idx : Nat} {a : Addr} {W : Nat} (w1 : (Jvm.Cond.methodLink own idx Lib.objectInit).before a0 Z = true) (w2 : (Jvm.Cond.instanceMethod Lib.objectInit).before a0 Z = true) (w3 : (Jvm.Cond.code Lib.objectInit ⟨#[0xb1]⟩ 1 none).before a0 Z = true) (hd : decode bytes pc = .ok (.invokespecial idx, 3)) (hsz : Ls.size = nl) (hf : 1 ≤ R.frames) (hW : (st.map fun v => v.category).sum = W) (hl : W + 12 ≤ R.locals) (hp : pc + 3 = pc')
    (k : ∀ T', St p l e R s m args below meth c Z own bytes nl ret nm h0 ws T' h locs cells slots → Go p e below P T' (mkF m pc' Ls st)) : Go p e below P T (mkF m pc Ls (.ref a :: st)) := by
  subst hp
  obtain ⟨T', X', e', f⟩ := initO S.X S.ex S.hZ S.hown w1 w2 w3 S.eT (g := mkF m pc Ls (.ref a :: st)) rfl (hsz.trans S.hnl.symm) rfl (S.hd hd) hf (W := W) (by show 2 * 0 + _ ≤ _; rw [hW]; omega) hl
  exact (k T' (S.next X' e' S.fr S.keep S.ext)).of f
theorem Go.checkcast (S : St p l e R s m args below meth c Z own bytes nl ret nm h0 ws T h locs cells slots) {C : String} {index : Nat} {a : Addr} (w : (Jvm.Cond.classLink own index C).before a0 Z = true) (F : Ins Z h a C true) (hd : decode bytes pc = .ok (.checkcast index, 3)) (hp : pc + 3 = pc')
    (k : ∀ T', St p l e R s m args below meth c Z own bytes nl ret nm h0 ws T' h locs cells slots → Go p e below P T' (mkF m pc' Ls (.ref a :: st))) : Go p e below P T (mkF m pc Ls (.ref a :: st)) := by
  subst hp
  obtain ⟨T', X', e', f⟩ := castY S.X S.ex S.hZ S.hown w S.eT F (g := mkF m pc Ls (.ref a :: st)) rfl rfl (S.hd hd)
  exact (k T' (S.next X' e' S.fr S.keep S.ext)).of f
theorem Go.instanceofY (S : St p l e R s m args below meth c Z own bytes nl ret nm h0 ws T h locs cells slots) {C : String} {index : Nat} {a : Addr} (w : (Jvm.Cond.classLink own index C).before a0 Z = true) (F : Ins Z h a C true) (hd : decode bytes pc = .ok (.instanceof index, 3)) (hp : pc + 3 = pc')
    (k : ∀ T', St p l e R s m args below meth c Z own bytes nl ret nm h0 ws T' h locs cells slots → Go p e below P T' (mkF m pc' Ls (.int 1 :: st))) : Go p e below P T (mkF m pc Ls (.ref a :: st)) := by
  subst hp
  obtain ⟨T', X', e', f⟩ := instY S.X S.ex S.hZ S.hown w S.eT F (g := mkF m pc Ls (.ref a :: st)) rfl rfl (S.hd hd)
  exact (k T' (S.next X' e' S.fr S.keep S.ext)).of f
theorem Go.invokestatic (S : St p l e R s m args below meth c Z own bytes nl ret nm h0 ws T h locs cells slots) {y : MethodName} {bytes' : ByteArray} {nl' : Nat} {ret' : Option FieldType} {rm : Room} {as' : Array Value} {ws' : List Addr} {Q' : Option Value → Heap → Prop} {index W : Nat} {ps : List FieldType} {r : Option FieldType} {argsL : List Value} (M : OMeets l Z y bytes' nl' ret' rm as' h ws' Q') (w1 : (Jvm.Cond.methodLink own index y).before a0 Z = true) (w2 : (Jvm.Cond.static y).before a0 Z = true) (w3 : (Jvm.Cond.initialized y.cls).before a0 Z = true) (w4 : (Jvm.Cond.code y bytes' nl' ret').before a0 Z = true) (hy : y.cls ≠ "java/lang/invoke/MethodHandle" ∧ y.cls ≠ "java/lang/invoke/VarHandle") (hd : decode bytes pc = .ok (.invokestatic index, 3)) (hsz : Ls.size = nl) (hlen : parseMethodDescriptor y.desc = some ⟨ps, r⟩) (hn : argsL.length = ps.length) (has : argsL.toArray = as') {stk : List Value} (hstk : stk = argsL.reverse ++ st) (hf : rm.frames + 1 ≤ R.frames) (hW : (st.map fun v => v.category).sum = W) (hl : W + (nl' + 11) + rm.locals ≤ R.locals) (hc : cells + rm.cells ≤ R.cells) (hs : slots + rm.slots ≤ R.slots) (hws : ∀ x ∈ ws', x ∈ ws ∨ h0.size ≤ x) (hp : pc + 3 = pc')
    (k : ∀ v T' h' locs', St p l e R s m args below meth c Z own bytes nl ret nm h0 ws T' h' locs' (cells + rm.cells) (slots + rm.slots) → Keep h h' ws' → Q' v h' → Go p e below P T' (mkF m pc' Ls (v.toList ++ st))) : Go p e below P T (mkF m pc Ls stk) := by
  subst hp hstk
  obtain ⟨v, _, ⟨T', L', k', n'⟩, -, X', ⟨L, hQ, l1, l2, l3⟩, f⟩ := Jvm.LawKit.callS S.X S.ex S.hown (mvT S.hZ w1) (mvT S.hZ w2) (mvT S.hZ w3) (mvT S.hZ w4) hy (backOf (Q := fun v U L => Fr Z.heap.size L ∧ Keep h U ws' ∧ Ext Z.heap U ∧ Q' v U) (W := W) (M []) S.hZ w4 w3 hf hl) (g := mkF m pc Ls (argsL.reverse ++ st)) rfl (hsz.trans S.hnl.symm) (argsL := argsL) (rest := st) (lenOf hlen hn) rfl (by show 2 * 0 + _ ≤ _; rw [hW]; omega) (S.hd hd) (fun _ _ => ⟨has, S.eT, hc, hs⟩)
  dsimp only [Pt.U, Pt.locs, Pt.cells, Pt.slots] at X' l1 l2 l3 hQ f
  subst l1 l2 l3
  obtain ⟨N, K', E', q⟩ := hQ
  exact (k v T' T'.heap _ (S.next X' rfl (S.fr.app N) (S.keep.trans K' hws) E') K' q).of f
theorem Go.invokespecial (S : St p l e R s m args below meth c Z own bytes nl ret nm h0 ws T h locs cells slots) {y : MethodName} {bytes' : ByteArray} {nl' : Nat} {ret' : Option FieldType} {rm : Room} {as' : Array Value} {ws' : List Addr} {Q' : Option Value → Heap → Prop} {index W : Nat} {ps : List FieldType} {r : Option FieldType} {argsL : List Value} {a : Addr} (M : OMeets l Z y bytes' nl' ret' rm as' h ws' Q') (hi : y.name = "<init>") (hr0 : ret' = none) (w1 : (Jvm.Cond.methodLink own index y).before a0 Z = true) (w2 : (Jvm.Cond.instanceMethod y).before a0 Z = true) (w3 : (Jvm.Cond.initialized y.cls).before a0 Z = true) (w4 : (Jvm.Cond.code y bytes' nl' ret').before a0 Z = true) (hy : y.cls ≠ "java/lang/invoke/MethodHandle" ∧ y.cls ≠ "java/lang/invoke/VarHandle") (hd : decode bytes pc = .ok (.invokespecial index, 3)) (hsz : Ls.size = nl) (hlen : parseMethodDescriptor y.desc = some ⟨ps, r⟩) (hn : argsL.length = ps.length) (has : (.ref a :: argsL).toArray = as') {stk : List Value} (hstk : stk = argsL.reverse ++ .ref a :: st) (hf : rm.frames + 1 ≤ R.frames) (hW : (st.map fun v => v.category).sum = W) (hl : W + (nl' + 11) + rm.locals ≤ R.locals) (hc : cells + rm.cells ≤ R.cells) (hs : slots + rm.slots ≤ R.slots) (hws : ∀ x ∈ ws', x ∈ ws ∨ h0.size ≤ x) (hp : pc + 3 = pc')
    (k : ∀ v T' h' locs', St p l e R s m args below meth c Z own bytes nl ret nm h0 ws T' h' locs' (cells + rm.cells) (slots + rm.slots) → Keep h h' ws' → Q' v h' → Go p e below P T' (mkF m pc' Ls (v.toList ++ st))) : Go p e below P T (mkF m pc Ls stk) := by
  subst hp hstk hr0
  obtain ⟨v, _, ⟨T', L', k', n'⟩, -, X', ⟨L, hQ, l1, l2, l3⟩, f⟩ := S.X.specialBack S.ex hi S.hown (mvT S.hZ w1) (mvT S.hZ w2) (mvT S.hZ w4) hy (backOf (Q := fun v U L => Fr Z.heap.size L ∧ Keep h U ws' ∧ Ext Z.heap U ∧ Q' v U) (W := W) (M []) S.hZ w4 w3 hf hl) (g := mkF m pc Ls (argsL.reverse ++ .ref a :: st)) rfl (hsz.trans S.hnl.symm) (Steps.refl _) (a := a) (argsL := argsL) (rest := st) (lenOf hlen hn) rfl (by show 2 * 0 + _ ≤ _; rw [hW]; omega) (S.hd hd) (fun _ _ => ⟨has, S.eT, hc, hs⟩)
  dsimp only [Pt.U, Pt.locs, Pt.cells, Pt.slots] at X' l1 l2 l3 hQ f
  subst l1 l2 l3
  obtain ⟨N, K', E', q⟩ := hQ
  exact (k v T' T'.heap _ (S.next X' rfl (S.fr.app N) (S.keep.trans K' hws) E') K' q).of fun t q => f.trans q
theorem Go.invokevirtual (S : St p l e R s m args below meth c Z own bytes nl ret nm h0 ws T h locs cells slots) {y : MethodName} {bytes' : ByteArray} {nl' : Nat} {ret' : Option FieldType} {rm : Room} {as' : Array Value} {ws' : List Addr} {Q' : Option Value → Heap → Prop} {index W : Nat} {ps : List FieldType} {r : Option FieldType} {argsL : List Value} {a : Addr} {x : MethodName} {C : String} (M : OMeets l Z y bytes' nl' ret' rm as' h ws' Q') (w1 : (Jvm.Cond.methodLink own index x).before a0 Z = true) (w2 : (Jvm.Cond.declares x).before a0 Z = true) (hnf : NotFace s x) (w5 : (Jvm.Cond.selects C x y).before a0 Z = true) (w6 : (Jvm.Cond.instanceMethod y).before a0 Z = true) (w3 : (Jvm.Cond.initialized y.cls).before a0 Z = true) (w4 : (Jvm.Cond.code y bytes' nl' ret').before a0 Z = true) (hy : x.cls ≠ "java/lang/invoke/MethodHandle" ∧ x.cls ≠ "java/lang/invoke/VarHandle") (E : Exa Z h a C) (hd : decode bytes pc = .ok (.invokevirtual index, 3)) (hsz : Ls.size = nl) (hlen : parseMethodDescriptor x.desc = some ⟨ps, r⟩) (hn : argsL.length = ps.length) (has : (.ref a :: argsL).toArray = as') {stk : List Value} (hstk : stk = argsL.reverse ++ .ref a :: st) (hf : rm.frames + 1 ≤ R.frames) (hW : (st.map fun v => v.category).sum = W) (hl : W + (nl' + 11) + rm.locals ≤ R.locals) (hc : cells + rm.cells ≤ R.cells) (hs : slots + rm.slots ≤ R.slots) (hws : ∀ x ∈ ws', x ∈ ws ∨ h0.size ≤ x) (hp : pc + 3 = pc')
    (k : ∀ v T' h' locs', St p l e R s m args below meth c Z own bytes nl ret nm h0 ws T' h' locs' (cells + rm.cells) (slots + rm.slots) → Keep h h' ws' → Q' v h' → Go p e below P T' (mkF m pc' Ls (v.toList ++ st))) : Go p e below P T (mkF m pc Ls stk) := by
  subst hp hstk
  obtain ⟨cq, kq, q1, q2, q3⟩ := isOf S.hZ S.eT E
  obtain ⟨v, _, ⟨T', L', k', n'⟩, -, X', ⟨L, hQ, l1, l2, l3⟩, f⟩ := S.X.virtualBack S.ex S.hown (mvT S.hZ w1) (mvT S.hZ w2) hnf (mvT S.hZ w5) (mvT S.hZ w6) hy (backOf (Q := fun v U L => Fr Z.heap.size L ∧ Keep h U ws' ∧ Ext Z.heap U ∧ Q' v U) (W := W) (M []) S.hZ w4 w3 hf hl) q1 q3 (g := mkF m pc Ls (argsL.reverse ++ .ref a :: st)) rfl (hsz.trans S.hnl.symm) (Steps.refl _) (argsL := argsL) (rest := st) (lenOf hlen hn) rfl (by show 2 * 0 + _ ≤ _; rw [hW]; omega) (S.hd hd) (fun _ _ => ⟨has, S.eT, hc, hs⟩)
  dsimp only [Pt.U, Pt.locs, Pt.cells, Pt.slots] at X' l1 l2 l3 hQ f
  subst l1 l2 l3
  obtain ⟨N, K', E', q⟩ := hQ
  exact (k v T' T'.heap _ (S.next X' rfl (S.fr.app N) (S.keep.trans K' hws) E') K' q).of fun t q => f.trans q
theorem St.nf (S : St p l e R s m args below meth c Z own bytes nl ret nm h0 ws T h locs cells slots) {C : String} {x : MethodName} (w : (Jvm.Cond.selects C x x).before a0 Z = true) : NotFace s x := notFace_of_selects (args := #[]) (mvT S.hZ w)
theorem Go.invokevirtualUp (S : St p l e R s m args below meth c Z own bytes nl ret nm h0 ws T h locs cells slots) {y : MethodName} {bytes' : ByteArray} {nl' : Nat} {ret' : Option FieldType} {rm : Room} {as' : Array Value} {ws' : List Addr} {Q' : Option Value → Heap → Prop} {index W : Nat} {ps : List FieldType} {r : Option FieldType} {argsL : List Value} {a : Addr} {x : MethodName} {C owner : String} (M : OMeets l Z y bytes' nl' ret' rm as' h ws' Q') (w1 : (Jvm.Cond.methodLink own index x).before a0 Z = true) (w2 : (Jvm.Cond.declares ⟨owner, x.name, x.desc⟩).before a0 Z = true) (w7 : (Jvm.Cond.sameMethod x.cls owner x.name x.desc).before a0 Z = true) (w5 : (Jvm.Cond.selects C x y).before a0 Z = true) (w6 : (Jvm.Cond.instanceMethod y).before a0 Z = true) (w3 : (Jvm.Cond.initialized y.cls).before a0 Z = true) (w4 : (Jvm.Cond.code y bytes' nl' ret').before a0 Z = true) (hy : owner ≠ "java/lang/invoke/MethodHandle" ∧ owner ≠ "java/lang/invoke/VarHandle") (E : Exa Z h a C) (hd : decode bytes pc = .ok (.invokevirtual index, 3)) (hsz : Ls.size = nl) (hlen : parseMethodDescriptor x.desc = some ⟨ps, r⟩) (hn : argsL.length = ps.length) (has : (.ref a :: argsL).toArray = as') {stk : List Value} (hstk : stk = argsL.reverse ++ .ref a :: st) (hf : rm.frames + 1 ≤ R.frames) (hW : (st.map fun v => v.category).sum = W) (hl : W + (nl' + 11) + rm.locals ≤ R.locals) (hc : cells + rm.cells ≤ R.cells) (hs : slots + rm.slots ≤ R.slots) (hws : ∀ x ∈ ws', x ∈ ws ∨ h0.size ≤ x) (hp : pc + 3 = pc')
    (k : ∀ v T' h' locs', St p l e R s m args below meth c Z own bytes nl ret nm h0 ws T' h' locs' (cells + rm.cells) (slots + rm.slots) → Keep h h' ws' → Q' v h' → Go p e below P T' (mkF m pc' Ls (v.toList ++ st))) : Go p e below P T (mkF m pc Ls stk) := by
  subst hp hstk
  obtain ⟨cq, kq, q1, q2, q3⟩ := isOf S.hZ S.eT E
  obtain ⟨v, _, ⟨T', L', k', n'⟩, -, X', ⟨L, hQ, l1, l2, l3⟩, f⟩ := S.X.virtualBackUp S.ex S.hown (mvT S.hZ w1) (mvT S.hZ w7) (mvT S.hZ w2) hy (mvT S.hZ w5) (mvT S.hZ w6) (backOf (Q := fun v U L => Fr Z.heap.size L ∧ Keep h U ws' ∧ Ext Z.heap U ∧ Q' v U) (W := W) (M []) S.hZ w4 w3 hf hl) q1 q3 (g := mkF m pc Ls (argsL.reverse ++ .ref a :: st)) rfl (hsz.trans S.hnl.symm) (Steps.refl _) (argsL := argsL) (rest := st) (lenOf hlen hn) rfl (by show 2 * 0 + _ ≤ _; rw [hW]; omega) (S.hd hd) (fun _ _ => ⟨has, S.eT, hc, hs⟩)
  dsimp only [Pt.U, Pt.locs, Pt.cells, Pt.slots] at X' l1 l2 l3 hQ f
  subst l1 l2 l3
  obtain ⟨N, K', E', q⟩ := hQ
  exact (k v T' T'.heap _ (S.next X' rfl (S.fr.app N) (S.keep.trans K' hws) E') K' q).of fun t q => f.trans q
theorem Go.tableswitch (S : St p l e R s m args below meth c Z own bytes nl ret nm h0 ws T h locs cells slots) {dflt low high : Int} {offs : Array Int} {len : Nat} {o : Int} {i : Int32} (hd : decode bytes pc = .ok (.tableswitch dflt low high offs, len)) (hin : ¬ (i.toInt < low ∨ i.toInt > high)) (hoff : offs[(i.toInt - low).toNat]? = some o) (hp : (pc : Int) + o = (pc' : Int)) (k : Go p e below P T (mkF m pc' Ls st)) : Go p e below P T (mkF m pc Ls (.int i :: st)) :=
  k.of fun t q => XS.tswIn S.X.here S.ex rfl (pc0 := pc) rfl (S.hd hd) rfl hin hoff (off0 hp) (off1 hp) q
theorem Go.instanceofN (S : St p l e R s m args below meth c Z own bytes nl ret nm h0 ws T h locs cells slots) {C K : String} {index : Nat} {a : Addr} (w : (Jvm.Cond.classLink own index K).before a0 Z = true) (E : Exa Z h a C) (F : ∃ c t, Z.vm.findClass C = some c ∧ Z.vm.findClass K = some t ∧ Z.vm.assignable c t = false) (hd : decode bytes pc = .ok (.instanceof index, 3)) (hp : pc + 3 = pc')
    (k : ∀ T', St p l e R s m args below meth c Z own bytes nl ret nm h0 ws T' h locs cells slots → Go p e below P T' (mkF m pc' Ls (.int 0 :: st))) : Go p e below P T (mkF m pc Ls (.ref a :: st)) := by
  subst hp
  obtain ⟨T', X', e', f⟩ := instNo S.X S.ex S.hZ S.hown w S.eT E F (g := mkF m pc Ls (.ref a :: st)) rfl rfl (S.hd hd)
  exact (k T' (S.next X' e' S.fr S.keep S.ext)).of f
theorem Go.instanceofNull (S : St p l e R s m args below meth c Z own bytes nl ret nm h0 ws T h locs cells slots) {index : Nat} (hd : decode bytes pc = .ok (.instanceof index, 3)) (hp : pc + 3 = pc') (k : Go p e below P T (mkF m pc' Ls (.int 0 :: st))) : Go p e below P T (mkF m pc Ls (.null :: st)) := by
  subst hp
  exact k.of fun t q => S.X.instanceofNull S.ex (g := mkF m pc Ls (.null :: st)) rfl rfl (S.hd hd) _ q
theorem Go.checkcastNull (S : St p l e R s m args below meth c Z own bytes nl ret nm h0 ws T h locs cells slots) {index : Nat} (hd : decode bytes pc = .ok (.checkcast index, 3)) (hp : pc + 3 = pc') (k : Go p e below P T (mkF m pc' Ls (.null :: st))) : Go p e below P T (mkF m pc Ls (.null :: st)) := by
  subst hp
  exact k.of fun t q => S.X.checkcastNull S.ex (g := mkF m pc Ls (.null :: st)) rfl rfl (S.hd hd) _ q
theorem Go.aaloadA (S : St p l e R s m args below meth c Z own bytes nl ret nm h0 ws T h locs cells slots) {a : Addr} {cl : Cell} {ty : FieldType} {j : Int32} {v : Value} (A : Arr Z h a cl ty) (hty : ty.isReference = true) (hj : ¬ (j < 0 ∨ cl.slots.size ≤ j.toNatClampNeg)) (hv : cl.slots[j.toNatClampNeg]? = some v) (hd : decode bytes pc = .ok (.aaload, 1)) (hp : pc + 1 = pc') (k : Go p e below P T (mkF m pc' Ls (v :: st))) : Go p e below P T (mkF m pc Ls (.int j :: .ref a :: st)) := by
  subst hp
  exact k.of fun t q => S.X.aaload S.ex (j := j) (v := v) (by rw [S.eT]; exact A.1) (State.isArrayOf_alike S.hZ.alike A.2.1) hty A.2.2 hj hv (g := mkF m pc Ls (.int j :: .ref a :: st)) rfl rfl (S.hd hd) _ q
theorem Go.clone (S : St p l e R s m args below meth c Z own bytes nl ret nm h0 ws T h locs cells slots) {ad : String} {index : Nat} {a : Addr} {kA : ClassId} {ty : FieldType} {n : Int32} {vs : List Value} {dv : Value} {W cap : Nat} (w1 : (Jvm.Cond.methodLink own index ⟨ad, "clone", "()Ljava/lang/Object;"⟩).before a0 Z = true) (w2 : (Jvm.Cond.sameMethod ad "java/lang/Object" "clone" "()Ljava/lang/Object;").before a0 Z = true) (w3 : (Jvm.Cond.native ⟨"java/lang/Object", "clone", "()Ljava/lang/Object;"⟩).before a0 Z = true) (w4 : (Jvm.Cond.instanceMethod ⟨"java/lang/Object", "clone", "()Ljava/lang/Object;"⟩).before a0 Z = true) (w5 : (Jvm.Cond.selects ad ⟨ad, "clone", "()Ljava/lang/Object;"⟩ ⟨"java/lang/Object", "clone", "()Ljava/lang/Object;"⟩).before a0 Z = true) (w6 : (Jvm.Cond.castable ad "java/lang/Cloneable").before a0 Z = true)
    (V : Arv Z Z.heap a kA ty n vs dv) (hfit : Fit Z) (E : Exa Z Z.heap a ad) (hd : decode bytes pc = .ok (.invokevirtual index, 3)) (hsz : Ls.size = nl) (hf : 1 ≤ R.frames) (hW : (st.map fun v => v.category).sum = W) (hl : W + 14 ≤ R.locals) (hcap : n.toNatClampNeg ≤ cap) (hc : cells + 1 ≤ R.cells) (hsl : slots + cap ≤ R.slots) (hp : pc + 3 = pc')
    (k : ∀ T' h' b, St p l e R s m args below meth c Z own bytes nl ret nm h0 ws T' h' locs (cells + 1) (slots + cap) → Ext h h' → h.size = b → Arv Z h' b kA ty n vs dv → Exa Z h' b ad → Go p e below P T' (mkF m pc' Ls (.ref b :: st))) : Go p e below P T (mkF m pc Ls (.ref a :: st)) := by
  subst hp
  obtain ⟨cl, A, q1, q2, q3, H, F⟩ := V
  obtain ⟨T', h', X', e', E', A', EA, f⟩ := cloneA S.X S.ex S.hZ S.hown w1 w2 w3 w4 w5 w6 S.eT (A.ext S.ext) (E.ext S.ext) (FitC.start hfit A) (g := mkF m pc Ls (.ref a :: st)) rfl (hsz.trans S.hnl.symm) rfl (S.hd hd) hf (W := W) (by show 2 * 0 + _ ≤ _; rw [hW]; omega) hl (cap := cap) (by rw [q2]; exact hcap) hc hsl
  exact (k T' h' h.size (S.made X' e' E') E' rfl ⟨_, A', q1, q2, q3, H, F⟩ EA).of f
theorem OMeets.body {y : MethodName} {Q : Option Value → Heap → Prop} {as : Array Value} (hpl : plainFor y = true) (hE : Ext Z.heap h0) (Ls : Array Slot) (hef : ∀ m : MethodId, entryFrame m as nl = mkF m 0 Ls [])
    (H : ∀ p e s m below meth c T, St p l e R s m as below meth c Z y.cls bytes nl ret y.name h0 ws T h0 [] 0 0 → Go p e below (PostOf Z s h0 ws R.cells R.slots Q) T (mkF m 0 Ls [])) : OMeets l Z y bytes nl ret R as h0 ws Q := by
  intro wd
  refine MetFree.of_bodySF hpl hisR ?_
  intro p e s m args below meth c s₁ Bd hml hP _
  obtain ⟨rfl, hZ, hh⟩ := hP
  have X0 : Stand p l e R s m args below meth c s₁ [] 0 0 := Stand.of_body Bd
  have e0 : s₁.heap = h0 := by rw [← hh, Bd.state]; rfl
  have hg := H p e s m below meth c s₁ ⟨⟨Bd.exec, Bd.bytes, hml, hZ, findClass_of_methodNamed Bd.named, Bd.returns, Bd.notSynchronized, (name_of_methodNamed Bd.named Bd.method).1⟩, X0, e0, Fr.nil _, Keep.refl _ _, hE⟩
  rw [hef]
  exact hg
end Steps
end Jvm.Own
namespace Jvm.Pilot.@@N@@
open Jvm Jvm.ClassFile Sem Op Lib Jvm.Free Jvm.Stand Jvm.LawKit Jvm.RoadKit Jvm.Own Bundle Jvm.Pilot.@@N@@.Jvm.D
abbrev HW (Z : State) (a0 : Array Value) : Prop := ∀ d ∈ tables_1, d.before a0 Z = true
theorem wd0 {Z : State} {a0 : Array Value} (hw : HW Z a0) : Jvm.Cond.before (Jvm.Cond.classLink "com/example/tukda/tukda/model/IndexFillPlusPinLaw" (7 : Nat) "com/example/tukda/tukda/model/IndexFill") a0 Z = true := hw _ (List.mem_of_getElem? (i := 0) rfl)
theorem wd1 {Z : State} {a0 : Array Value} (hw : HW Z a0) : Jvm.Cond.before (Jvm.Cond.instantiable "com/example/tukda/tukda/model/IndexFill" (2 : Nat)) a0 Z = true := hw _ (List.mem_of_getElem? (i := 1) rfl)
theorem wd2 {Z : State} {a0 : Array Value} (hw : HW Z a0) : Jvm.Cond.before (Jvm.Cond.initialized "com/example/tukda/tukda/model/IndexFill") a0 Z = true := hw _ (List.mem_of_getElem? (i := 2) rfl)
theorem wd3 {Z : State} {a0 : Array Value} (hw : HW Z a0) : Jvm.Cond.before (Jvm.Cond.methodLink "com/example/tukda/tukda/model/IndexFillPlusPinLaw" (9 : Nat) ({ cls := "com/example/tukda/tukda/model/IndexFill", name := "<init>", desc := "(JJ)V" } : Jvm.MethodName)) a0 Z = true := hw _ (List.mem_of_getElem? (i := 3) rfl)
theorem wd4 {Z : State} {a0 : Array Value} (hw : HW Z a0) : Jvm.Cond.before (Jvm.Cond.instanceMethod ({ cls := "com/example/tukda/tukda/model/IndexFill", name := "<init>", desc := "(JJ)V" } : Jvm.MethodName)) a0 Z = true := hw _ (List.mem_of_getElem? (i := 4) rfl)
theorem wd5 {Z : State} {a0 : Array Value} (hw : HW Z a0) : Jvm.Cond.before (Jvm.Cond.code ({ cls := "com/example/tukda/tukda/model/IndexFill", name := "<init>", desc := "(JJ)V" } : Jvm.MethodName) prog_15_method_1_code (5 : Nat) (Option.none : Option Jvm.ClassFile.FieldType)) a0 Z = true := hw _ (List.mem_of_getElem? (i := 5) rfl)
theorem wd6 {Z : State} {a0 : Array Value} (hw : HW Z a0) : Jvm.Cond.before (Jvm.Cond.methodLink "com/example/tukda/tukda/model/IndexFill" (1 : Nat) ({ cls := "java/lang/Object", name := "<init>", desc := "()V" } : Jvm.MethodName)) a0 Z = true := hw _ (List.mem_of_getElem? (i := 6) rfl)
theorem wd7 {Z : State} {a0 : Array Value} (hw : HW Z a0) : Jvm.Cond.before (Jvm.Cond.instanceMethod ({ cls := "java/lang/Object", name := "<init>", desc := "()V" } : Jvm.MethodName)) a0 Z = true := hw _ (List.mem_of_getElem? (i := 7) rfl)
theorem wd8 {Z : State} {a0 : Array Value} (hw : HW Z a0) : Jvm.Cond.before (Jvm.Cond.code ({ cls := "java/lang/Object", name := "<init>", desc := "()V" } : Jvm.MethodName) object_method_1_code (1 : Nat) (Option.none : Option Jvm.ClassFile.FieldType)) a0 Z = true := hw _ (List.mem_of_getElem? (i := 8) rfl)
theorem wd9 {Z : State} {a0 : Array Value} (hw : HW Z a0) : Jvm.Cond.before (Jvm.Cond.fieldLink "com/example/tukda/tukda/model/IndexFill" (7 : Nat) "com/example/tukda/tukda/model/IndexFill" "entries" "J") a0 Z = true := hw _ (List.mem_of_getElem? (i := 9) rfl)
theorem wd10 {Z : State} {a0 : Array Value} (hw : HW Z a0) : Jvm.Cond.before (Jvm.Cond.laysFinal "com/example/tukda/tukda/model/IndexFill" "com/example/tukda/tukda/model/IndexFill" "entries" "J") a0 Z = true := hw _ (List.mem_of_getElem? (i := 10) rfl)
theorem wd11 {Z : State} {a0 : Array Value} (hw : HW Z a0) : Jvm.Cond.before (Jvm.Cond.fieldLink "com/example/tukda/tukda/model/IndexFill" (13 : Nat) "com/example/tukda/tukda/model/IndexFill" "skipped" "J") a0 Z = true := hw _ (List.mem_of_getElem? (i := 11) rfl)
theorem wd12 {Z : State} {a0 : Array Value} (hw : HW Z a0) : Jvm.Cond.before (Jvm.Cond.laysFinal "com/example/tukda/tukda/model/IndexFill" "com/example/tukda/tukda/model/IndexFill" "skipped" "J") a0 Z = true := hw _ (List.mem_of_getElem? (i := 12) rfl)
theorem wd13 {Z : State} {a0 : Array Value} (hw : HW Z a0) : Jvm.Cond.before (Jvm.Cond.methodLink "com/example/tukda/tukda/model/IndexFillPlusPinLaw" (12 : Nat) ({ cls := "com/example/tukda/tukda/model/IndexFill", name := "plus", desc := "(Lcom/example/tukda/tukda/model/IndexFill;)Lcom/example/tukda/tukda/model/IndexFill;" } : Jvm.MethodName)) a0 Z = true := hw _ (List.mem_of_getElem? (i := 13) rfl)
theorem wd14 {Z : State} {a0 : Array Value} (hw : HW Z a0) : Jvm.Cond.before (Jvm.Cond.declares ({ cls := "com/example/tukda/tukda/model/IndexFill", name := "plus", desc := "(Lcom/example/tukda/tukda/model/IndexFill;)Lcom/example/tukda/tukda/model/IndexFill;" } : Jvm.MethodName)) a0 Z = true := hw _ (List.mem_of_getElem? (i := 14) rfl)
theorem wd15 {Z : State} {a0 : Array Value} (hw : HW Z a0) : Jvm.Cond.before (Jvm.Cond.instanceMethod ({ cls := "com/example/tukda/tukda/model/IndexFill", name := "plus", desc := "(Lcom/example/tukda/tukda/model/IndexFill;)Lcom/example/tukda/tukda/model/IndexFill;" } : Jvm.MethodName)) a0 Z = true := hw _ (List.mem_of_getElem? (i := 15) rfl)
theorem wd16 {Z : State} {a0 : Array Value} (hw : HW Z a0) : Jvm.Cond.before (Jvm.Cond.selects "com/example/tukda/tukda/model/IndexFill" ({ cls := "com/example/tukda/tukda/model/IndexFill", name := "plus", desc := "(Lcom/example/tukda/tukda/model/IndexFill;)Lcom/example/tukda/tukda/model/IndexFill;" } : Jvm.MethodName) ({ cls := "com/example/tukda/tukda/model/IndexFill", name := "plus", desc := "(Lcom/example/tukda/tukda/model/IndexFill;)Lcom/example/tukda/tukda/model/IndexFill;" } : Jvm.MethodName)) a0 Z = true := hw _ (List.mem_of_getElem? (i := 16) rfl)
theorem wd17 {Z : State} {a0 : Array Value} (hw : HW Z a0) : Jvm.Cond.before (Jvm.Cond.code ({ cls := "com/example/tukda/tukda/model/IndexFill", name := "plus", desc := "(Lcom/example/tukda/tukda/model/IndexFill;)Lcom/example/tukda/tukda/model/IndexFill;" } : Jvm.MethodName) prog_15_method_4_code (2 : Nat) (Option.some (Jvm.ClassFile.FieldType.object "com/example/tukda/tukda/model/IndexFill"))) a0 Z = true := hw _ (List.mem_of_getElem? (i := 17) rfl)
theorem wd18 {Z : State} {a0 : Array Value} (hw : HW Z a0) : Jvm.Cond.before (Jvm.Cond.classLink "com/example/tukda/tukda/model/IndexFill" (8 : Nat) "com/example/tukda/tukda/model/IndexFill") a0 Z = true := hw _ (List.mem_of_getElem? (i := 18) rfl)
theorem wd19 {Z : State} {a0 : Array Value} (hw : HW Z a0) : Jvm.Cond.before (Jvm.Cond.methodLink "com/example/tukda/tukda/model/IndexFill" (16 : Nat) ({ cls := "com/example/tukda/tukda/model/IndexFill", name := "<init>", desc := "(JJ)V" } : Jvm.MethodName)) a0 Z = true := hw _ (List.mem_of_getElem? (i := 19) rfl)
theorem wd20 {Z : State} {a0 : Array Value} (hw : HW Z a0) : Jvm.Cond.before (Jvm.Cond.methodLink "com/example/tukda/tukda/model/IndexFillPlusPinLaw" (16 : Nat) ({ cls := "com/example/tukda/tukda/model/IndexFill", name := "entries", desc := "()J" } : Jvm.MethodName)) a0 Z = true := hw _ (List.mem_of_getElem? (i := 20) rfl)
theorem wd21 {Z : State} {a0 : Array Value} (hw : HW Z a0) : Jvm.Cond.before (Jvm.Cond.declares ({ cls := "com/example/tukda/tukda/model/IndexFill", name := "entries", desc := "()J" } : Jvm.MethodName)) a0 Z = true := hw _ (List.mem_of_getElem? (i := 21) rfl)
theorem wd22 {Z : State} {a0 : Array Value} (hw : HW Z a0) : Jvm.Cond.before (Jvm.Cond.instanceMethod ({ cls := "com/example/tukda/tukda/model/IndexFill", name := "entries", desc := "()J" } : Jvm.MethodName)) a0 Z = true := hw _ (List.mem_of_getElem? (i := 22) rfl)
theorem wd23 {Z : State} {a0 : Array Value} (hw : HW Z a0) : Jvm.Cond.before (Jvm.Cond.selects "com/example/tukda/tukda/model/IndexFill" ({ cls := "com/example/tukda/tukda/model/IndexFill", name := "entries", desc := "()J" } : Jvm.MethodName) ({ cls := "com/example/tukda/tukda/model/IndexFill", name := "entries", desc := "()J" } : Jvm.MethodName)) a0 Z = true := hw _ (List.mem_of_getElem? (i := 23) rfl)
theorem wd24 {Z : State} {a0 : Array Value} (hw : HW Z a0) : Jvm.Cond.before (Jvm.Cond.code ({ cls := "com/example/tukda/tukda/model/IndexFill", name := "entries", desc := "()J" } : Jvm.MethodName) prog_15_method_2_code (1 : Nat) (Option.some Jvm.ClassFile.FieldType.long)) a0 Z = true := hw _ (List.mem_of_getElem? (i := 24) rfl)
theorem wd25 {Z : State} {a0 : Array Value} (hw : HW Z a0) : Jvm.Cond.before (Jvm.Cond.methodLink "com/example/tukda/tukda/model/IndexFillPlusPinLaw" (20 : Nat) ({ cls := "com/example/tukda/tukda/model/IndexFill", name := "skipped", desc := "()J" } : Jvm.MethodName)) a0 Z = true := hw _ (List.mem_of_getElem? (i := 25) rfl)
theorem wd26 {Z : State} {a0 : Array Value} (hw : HW Z a0) : Jvm.Cond.before (Jvm.Cond.declares ({ cls := "com/example/tukda/tukda/model/IndexFill", name := "skipped", desc := "()J" } : Jvm.MethodName)) a0 Z = true := hw _ (List.mem_of_getElem? (i := 26) rfl)
theorem wd27 {Z : State} {a0 : Array Value} (hw : HW Z a0) : Jvm.Cond.before (Jvm.Cond.instanceMethod ({ cls := "com/example/tukda/tukda/model/IndexFill", name := "skipped", desc := "()J" } : Jvm.MethodName)) a0 Z = true := hw _ (List.mem_of_getElem? (i := 27) rfl)
theorem wd28 {Z : State} {a0 : Array Value} (hw : HW Z a0) : Jvm.Cond.before (Jvm.Cond.selects "com/example/tukda/tukda/model/IndexFill" ({ cls := "com/example/tukda/tukda/model/IndexFill", name := "skipped", desc := "()J" } : Jvm.MethodName) ({ cls := "com/example/tukda/tukda/model/IndexFill", name := "skipped", desc := "()J" } : Jvm.MethodName)) a0 Z = true := hw _ (List.mem_of_getElem? (i := 28) rfl)
theorem wd29 {Z : State} {a0 : Array Value} (hw : HW Z a0) : Jvm.Cond.before (Jvm.Cond.code ({ cls := "com/example/tukda/tukda/model/IndexFill", name := "skipped", desc := "()J" } : Jvm.MethodName) prog_15_method_3_code (1 : Nat) (Option.some Jvm.ClassFile.FieldType.long)) a0 Z = true := hw _ (List.mem_of_getElem? (i := 29) rfl)
theorem pn0 : plainName "com/example/tukda/tukda/model/IndexFill" = true := by first | (simp [plainName, overriddenIn]; done) | decide +kernel
theorem pn1 : plainName "com/example/tukda/tukda/model/IndexFillPlusPinLaw" = true := by first | (simp [plainName, overriddenIn]; done) | decide +kernel
theorem pd0 : parseMethodDescriptor "(JJ)V" = some ⟨[.long, .long], none⟩ := by decide +kernel
theorem pd1 : parseMethodDescriptor "(Lcom/example/tukda/tukda/model/IndexFill;)Lcom/example/tukda/tukda/model/IndexFill;" = some ⟨[(.object "com/example/tukda/tukda/model/IndexFill")], some (.object "com/example/tukda/tukda/model/IndexFill")⟩ := by decide +kernel
theorem pd2 : parseMethodDescriptor "()J" = some ⟨[], some .long⟩ := by decide +kernel
theorem d_prog_15_method_1_code_0 : decode prog_15_method_1_code 0 = .ok (.aload_n 0, 1) := by decide +kernel
theorem d_prog_15_method_1_code_1 : decode prog_15_method_1_code 1 = .ok (.invokespecial 1, 3) := by decide +kernel
theorem d_prog_15_method_1_code_4 : decode prog_15_method_1_code 4 = .ok (.aload_n 0, 1) := by decide +kernel
theorem d_prog_15_method_1_code_5 : decode prog_15_method_1_code 5 = .ok (.lload_n 1, 1) := by decide +kernel
theorem d_prog_15_method_1_code_6 : decode prog_15_method_1_code 6 = .ok (.putfield 7, 3) := by decide +kernel
theorem d_prog_15_method_1_code_9 : decode prog_15_method_1_code 9 = .ok (.aload_n 0, 1) := by decide +kernel
theorem d_prog_15_method_1_code_10 : decode prog_15_method_1_code 10 = .ok (.lload_n 3, 1) := by decide +kernel
theorem d_prog_15_method_1_code_11 : decode prog_15_method_1_code 11 = .ok (.putfield 13, 3) := by decide +kernel
theorem d_prog_15_method_1_code_14 : decode prog_15_method_1_code 14 = .ok (.return_, 1) := by decide +kernel
theorem d_prog_15_method_2_code_0 : decode prog_15_method_2_code 0 = .ok (.aload_n 0, 1) := by decide +kernel
theorem d_prog_15_method_2_code_1 : decode prog_15_method_2_code 1 = .ok (.getfield 7, 3) := by decide +kernel
theorem d_prog_15_method_2_code_4 : decode prog_15_method_2_code 4 = .ok (.lreturn, 1) := by decide +kernel
theorem d_prog_15_method_3_code_0 : decode prog_15_method_3_code 0 = .ok (.aload_n 0, 1) := by decide +kernel
theorem d_prog_15_method_3_code_1 : decode prog_15_method_3_code 1 = .ok (.getfield 13, 3) := by decide +kernel
theorem d_prog_15_method_3_code_4 : decode prog_15_method_3_code 4 = .ok (.lreturn, 1) := by decide +kernel
theorem d_prog_15_method_4_code_0 : decode prog_15_method_4_code 0 = .ok (.new 8, 3) := by decide +kernel
theorem d_prog_15_method_4_code_3 : decode prog_15_method_4_code 3 = .ok (.dup, 1) := by decide +kernel
theorem d_prog_15_method_4_code_4 : decode prog_15_method_4_code 4 = .ok (.aload_n 0, 1) := by decide +kernel
theorem d_prog_15_method_4_code_5 : decode prog_15_method_4_code 5 = .ok (.getfield 7, 3) := by decide +kernel
theorem d_prog_15_method_4_code_8 : decode prog_15_method_4_code 8 = .ok (.aload_n 1, 1) := by decide +kernel
theorem d_prog_15_method_4_code_9 : decode prog_15_method_4_code 9 = .ok (.getfield 7, 3) := by decide +kernel
theorem d_prog_15_method_4_code_12 : decode prog_15_method_4_code 12 = .ok (.ladd, 1) := by decide +kernel
theorem d_prog_15_method_4_code_13 : decode prog_15_method_4_code 13 = .ok (.aload_n 0, 1) := by decide +kernel
theorem d_prog_15_method_4_code_14 : decode prog_15_method_4_code 14 = .ok (.getfield 13, 3) := by decide +kernel
theorem d_prog_15_method_4_code_17 : decode prog_15_method_4_code 17 = .ok (.aload_n 1, 1) := by decide +kernel
theorem d_prog_15_method_4_code_18 : decode prog_15_method_4_code 18 = .ok (.getfield 13, 3) := by decide +kernel
theorem d_prog_15_method_4_code_21 : decode prog_15_method_4_code 21 = .ok (.ladd, 1) := by decide +kernel
theorem d_prog_15_method_4_code_22 : decode prog_15_method_4_code 22 = .ok (.invokespecial 16, 3) := by decide +kernel
theorem d_prog_15_method_4_code_25 : decode prog_15_method_4_code 25 = .ok (.areturn, 1) := by decide +kernel
set_option maxRecDepth 65536 in
set_option maxHeartbeats 4000000 in
theorem rm_prog_15_method_1_code {l : Launch} {Z : State} {a0 : Array Value} (hw : HW Z a0) (a : Addr) (e1 : Int64) (s1 : Int64)  {h0 : Heap} (hE : Ext Z.heap h0) (hz : Z.heap.size ≤ a) (E : Exa Z h0 a "com/example/tukda/tukda/model/IndexFill") (F_entries : Fld Z h0 a "com/example/tukda/tukda/model/IndexFill" "entries" "J" (.long 0)) (F_skipped : Fld Z h0 a "com/example/tukda/tukda/model/IndexFill" "skipped" "J" (.long 0)) :
    OMeets l Z (⟨"com/example/tukda/tukda/model/IndexFill", "<init>", "(JJ)V"⟩ : MethodName) prog_15_method_1_code 5 none ({ frames := 1, cells := 0, slots := 0, locals := 12 } : Room) #[(.ref a), (.long e1), (.long s1)] h0 [a] (fun v h => v = none ∧ Fld Z h a "com/example/tukda/tukda/model/IndexFill" "entries" "J" (.long e1) ∧ Fld Z h a "com/example/tukda/tukda/model/IndexFill" "skipped" "J" (.long s1)) := by
  refine OMeets.body (plainFor_of_name pn0) hE #[.val (.ref a), .val (.long e1), .second, .val (.long s1), .second] (fun m => by first | rfl | (simp [entryFrame, mkF, argsToLocals, Value.category, maxLocals]; done)) ?_
  intro p e s m below meth co T S
  refine Go.aloadN S d_prog_15_method_1_code_0 rfl rfl (pc' := 1) rfl ?_
  refine Go.initObject S (wd6 hw) (wd7 hw) (wd8 hw) d_prog_15_method_1_code_1 rfl (by decide) (W := 0) rfl (by decide) (pc' := 4) rfl ?_
  intro T1 S1
  refine Go.aloadN S1 d_prog_15_method_1_code_4 rfl rfl (pc' := 5) rfl ?_
  refine Go.lloadN S1 d_prog_15_method_1_code_5 rfl (pc' := 6) rfl ?_
  refine Go.putfield S1 (host := "") (Or.inl (wd9 hw)) Via.refl F_entries E (Or.inr ⟨(wd10 hw), rfl, rfl⟩) (wd1 hw) (ty := .long) (by decide) rfl rfl hz (Or.inl (List.mem_singleton.mpr rfl)) d_prog_15_method_1_code_6 (pc' := 9) rfl ?_
  intro T2 h2 L2 S2 W2
  have F2 := F_entries.same W2
  replace F_skipped := F_skipped.other W2 (Or.inr (slot_ne (Or.inr (wd12 hw)) (Or.inr (wd10 hw)) (by decide) (t := .long) (t' := .long) (by decide) (by decide)))
  replace E := E.wr W2
  refine Go.aloadN S2 d_prog_15_method_1_code_9 rfl rfl (pc' := 10) rfl ?_
  refine Go.lloadN S2 d_prog_15_method_1_code_10 rfl (pc' := 11) rfl ?_
  refine Go.putfield S2 (host := "") (Or.inl (wd11 hw)) Via.refl F_skipped E (Or.inr ⟨(wd12 hw), rfl, rfl⟩) (wd1 hw) (ty := .long) (by decide) rfl rfl hz (Or.inl (List.mem_singleton.mpr rfl)) d_prog_15_method_1_code_11 (pc' := 14) rfl ?_
  intro T3 h3 L3 S3 W3
  have F3 := F_skipped.same W3
  replace F2 := F2.other W3 (Or.inr (slot_ne (Or.inr (wd10 hw)) (Or.inr (wd12 hw)) (by decide) (t := .long) (t' := .long) (by decide) (by decide)))
  replace E := E.wr W3
  exact Go.vreturn S3 rfl d_prog_15_method_1_code_14 (by decide) (by decide) (⟨rfl, F2, F3⟩)
set_option maxRecDepth 65536 in
set_option maxHeartbeats 4000000 in
theorem rm_prog_15_method_2_code {l : Launch} {Z : State} {a0 : Array Value} (hw : HW Z a0) (a : Addr) (w : Int64) {h0 : Heap} (hE : Ext Z.heap h0) (F : Fld Z h0 a "com/example/tukda/tukda/model/IndexFill" "entries" "J" (.long w)) :
    OMeets l Z (⟨"com/example/tukda/tukda/model/IndexFill", "entries", "()J"⟩ : MethodName) prog_15_method_2_code 1 (some .long) ({ frames := 0, cells := 0, slots := 0, locals := 0 } : Room) #[(.ref a)] h0 [] (fun v h => v = some (.long w) ∧ h0 = h) := by
  refine OMeets.body (plainFor_of_name pn0) hE #[.val (.ref a)] (fun m => by first | rfl | (simp [entryFrame, mkF, argsToLocals, Value.category, maxLocals]; done)) ?_
  intro p e s m below meth co T S
  refine Go.aloadN S d_prog_15_method_2_code_0 rfl rfl (pc' := 1) rfl ?_
  refine Go.getfield S (host := "") (Or.inl (wd9 hw)) Via.refl F d_prog_15_method_2_code_1 (pc' := 4) rfl ?_
  intro T1 S1
  exact Go.lreturn S1 rfl d_prog_15_method_2_code_4 (by decide) (by decide) (⟨rfl, rfl⟩)
set_option maxRecDepth 65536 in
set_option maxHeartbeats 4000000 in
theorem rm_prog_15_method_3_code {l : Launch} {Z : State} {a0 : Array Value} (hw : HW Z a0) (a : Addr) (w : Int64) {h0 : Heap} (hE : Ext Z.heap h0) (F : Fld Z h0 a "com/example/tukda/tukda/model/IndexFill" "skipped" "J" (.long w)) :
    OMeets l Z (⟨"com/example/tukda/tukda/model/IndexFill", "skipped", "()J"⟩ : MethodName) prog_15_method_3_code 1 (some .long) ({ frames := 0, cells := 0, slots := 0, locals := 0 } : Room) #[(.ref a)] h0 [] (fun v h => v = some (.long w) ∧ h0 = h) := by
  refine OMeets.body (plainFor_of_name pn0) hE #[.val (.ref a)] (fun m => by first | rfl | (simp [entryFrame, mkF, argsToLocals, Value.category, maxLocals]; done)) ?_
  intro p e s m below meth co T S
  refine Go.aloadN S d_prog_15_method_3_code_0 rfl rfl (pc' := 1) rfl ?_
  refine Go.getfield S (host := "") (Or.inl (wd11 hw)) Via.refl F d_prog_15_method_3_code_1 (pc' := 4) rfl ?_
  intro T1 S1
  exact Go.lreturn S1 rfl d_prog_15_method_3_code_4 (by decide) (by decide) (⟨rfl, rfl⟩)
set_option maxRecDepth 65536 in
set_option maxHeartbeats 4000000 in
theorem rm_prog_15_method_4_code {l : Launch} {Z : State} {a0 : Array Value} (hw : HW Z a0) (a : Addr) (b : Addr) (e1 s1 e2 s2 : Int64) {h0 : Heap} (hE : Ext Z.heap h0) (Fa1 : Fld Z h0 a "com/example/tukda/tukda/model/IndexFill" "entries" "J" (.long e1)) (Fa2 : Fld Z h0 a "com/example/tukda/tukda/model/IndexFill" "skipped" "J" (.long s1)) (Fb1 : Fld Z h0 b "com/example/tukda/tukda/model/IndexFill" "entries" "J" (.long e2)) (Fb2 : Fld Z h0 b "com/example/tukda/tukda/model/IndexFill" "skipped" "J" (.long s2)) :
    OMeets l Z (⟨"com/example/tukda/tukda/model/IndexFill", "plus", "(Lcom/example/tukda/tukda/model/IndexFill;)Lcom/example/tukda/tukda/model/IndexFill;"⟩ : MethodName) prog_15_method_4_code 2 (some (.object "com/example/tukda/tukda/model/IndexFill")) ({ frames := 2, cells := 1, slots := 2, locals := 33 } : Room) #[(.ref a), (.ref b)] h0 [] (fun v h => ∃ r, v = some (.ref r) ∧ Exa Z h r "com/example/tukda/tukda/model/IndexFill" ∧ Fld Z h r "com/example/tukda/tukda/model/IndexFill" "entries" "J" (.long (e1 + e2)) ∧ Fld Z h r "com/example/tukda/tukda/model/IndexFill" "skipped" "J" (.long (s1 + s2))) := by
  refine OMeets.body (plainFor_of_name pn0) hE #[.val (.ref a), .val (.ref b)] (fun m => by first | rfl | (simp [entryFrame, mkF, argsToLocals, Value.category, maxLocals]; done)) ?_
  intro p e s m below meth co T S
  refine Go.new S (wd18 hw) (wd1 hw) (wd2 hw) d_prog_15_method_4_code_0 (by decide) (by decide) (pc' := 3) rfl ?_
  intro T1 h1 a1 S1 E1 hg1 hz1 hk1 X1 D1
  have n_a_a1 : a ≠ a1 := Nat.ne_of_lt (Nat.lt_of_lt_of_le Fa1.lt (Nat.le_of_eq hg1))
  have n_b_a1 : b ≠ a1 := Nat.ne_of_lt (Nat.lt_of_lt_of_le Fb1.lt (Nat.le_of_eq hg1))
  replace Fa1 := Fa1.ext E1
  replace Fa2 := Fa2.ext E1
  replace Fb1 := Fb1.ext E1
  replace Fb2 := Fb2.ext E1
  have F1_entries : Fld Z h1 a1 "com/example/tukda/tukda/model/IndexFill" "entries" "J" (.long (0 : Int64)) := D1 (Or.inr (wd10 hw)) (ty := .long) (by decide)
  have F1_skipped : Fld Z h1 a1 "com/example/tukda/tukda/model/IndexFill" "skipped" "J" (.long (0 : Int64)) := D1 (Or.inr (wd12 hw)) (ty := .long) (by decide)
  refine Go.dup S1 d_prog_15_method_4_code_3 rfl (pc' := 4) rfl ?_
  refine Go.aloadN S1 d_prog_15_method_4_code_4 rfl rfl (pc' := 5) rfl ?_
  refine Go.getfield S1 (host := "") (Or.inl (wd9 hw)) Via.refl Fa1 d_prog_15_method_4_code_5 (pc' := 8) rfl ?_
  intro T2 S2
  refine Go.aloadN S2 d_prog_15_method_4_code_8 rfl rfl (pc' := 9) rfl ?_
  refine Go.getfield S2 (host := "") (Or.inl (wd9 hw)) Via.refl Fb1 d_prog_15_method_4_code_9 (pc' := 12) rfl ?_
  intro T3 S3
  refine Go.ladd S3 d_prog_15_method_4_code_12 (pc' := 13) rfl ?_
  refine Go.aloadN S3 d_prog_15_method_4_code_13 rfl rfl (pc' := 14) rfl ?_
  refine Go.getfield S3 (host := "") (Or.inl (wd11 hw)) Via.refl Fa2 d_prog_15_method_4_code_14 (pc' := 17) rfl ?_
  intro T4 S4
  refine Go.aloadN S4 d_prog_15_method_4_code_17 rfl rfl (pc' := 18) rfl ?_
  refine Go.getfield S4 (host := "") (Or.inl (wd11 hw)) Via.refl Fb2 d_prog_15_method_4_code_18 (pc' := 21) rfl ?_
  intro T5 S5
  refine Go.ladd S5 d_prog_15_method_4_code_21 (pc' := 22) rfl ?_
  refine Go.invokespecial S5 (y := ⟨"com/example/tukda/tukda/model/IndexFill", "<init>", "(JJ)V"⟩) (rm_prog_15_method_1_code hw a1 (e1 + e2) (s1 + s2) S5.ext hz1 X1 F1_entries F1_skipped) rfl rfl (wd19 hw) (wd4 hw) (wd2 hw) (wd5 hw) (by decide) d_prog_15_method_4_code_22 rfl pd0 (argsL := [(.long (e1 + e2)), (.long (s1 + s2))]) rfl rfl rfl (by decide) (W := 1) rfl (by decide) (by decide) (by decide) (allS (Or.inr hk1) all0) (pc' := 25) rfl ?_
  intro v6 T6 h6 L6 S6 K6 q6
  obtain ⟨rfl, Fe6, Fs6⟩ := q6
  replace Fa1 := Fa1.keep K6 (ninS n_a_a1 nin0)
  replace Fa2 := Fa2.keep K6 (ninS n_a_a1 nin0)
  replace Fb1 := Fb1.keep K6 (ninS n_b_a1 nin0)
  replace Fb2 := Fb2.keep K6 (ninS n_b_a1 nin0)
  replace X1 := X1.keep K6
  show Go _ _ _ _ T6 (mkF m 25 #[.val (.ref a), .val (.ref b)] [(.ref a1)])
  exact Go.areturn S6 rfl rfl rfl d_prog_15_method_4_code_25 (by decide) (by decide) (⟨a1, rfl, X1, Fe6, Fs6⟩)
set_option maxRecDepth 65536 in
set_option maxHeartbeats 4000000 in
theorem rm_code {l : Launch} {Z : State} {a0 : Array Value} (hw : HW Z a0) (e1 : Int64) (s1 : Int64) (e2 : Int64) (s2 : Int64) (e3 : Int64) (s3 : Int64)  {h0 : Heap} (hE : Ext Z.heap h0) :
    OMeets l Z x code maxLocals ret room_1 #[(.long e1), (.long s1), (.long e2), (.long s2), (.long e3), (.long s3)] h0 [] (fun v h => v = some (.int 1)) := by
  refine OMeets.body (plainFor_of_name pn1) hE #[.val (.long e1), .second, .val (.long s1), .second, .val (.long e2), .second, .val (.long s2), .second, .val (.long e3), .second, .val (.long s3), .second, .unset, .unset, .unset, .unset, .unset, .unset, .unset, .unset, .unset, .unset, .unset, .unset] (fun m => by first | (simp [entryFrame, mkF, argsToLocals, Value.category, maxLocals]; done) | rfl) ?_
  intro p e s m below meth co T S
  refine Go.new S (wd0 hw) (wd1 hw) (wd2 hw) at_0 (by decide) (by decide) (pc' := 3) rfl ?_
  intro T1 h1 a1 S1 E1 hg1 hz1 hk1 X1 D1
  have F1_entries : Fld Z h1 a1 "com/example/tukda/tukda/model/IndexFill" "entries" "J" (.long (0 : Int64)) := D1 (Or.inr (wd10 hw)) (ty := .long) (by decide)
  have F1_skipped : Fld Z h1 a1 "com/example/tukda/tukda/model/IndexFill" "skipped" "J" (.long (0 : Int64)) := D1 (Or.inr (wd12 hw)) (ty := .long) (by decide)
  refine Go.dup S1 at_3 rfl (pc' := 4) rfl ?_
  refine Go.lloadN S1 at_4 rfl (pc' := 5) rfl ?_
  refine Go.lloadN S1 at_5 rfl (pc' := 6) rfl ?_
  refine Go.invokespecial S1 (y := ⟨"com/example/tukda/tukda/model/IndexFill", "<init>", "(JJ)V"⟩) (rm_prog_15_method_1_code hw a1 e1 s1 S1.ext hz1 X1 F1_entries F1_skipped) rfl rfl (wd3 hw) (wd4 hw) (wd2 hw) (wd5 hw) (by decide) at_6 rfl pd0 (argsL := [(.long e1), (.long s1)]) rfl rfl rfl (by decide) (W := 1) rfl (by decide) (by decide) (by decide) (allS (Or.inr hk1) all0) (pc' := 9) rfl ?_
  intro v2 T2 h2 L2 S2 K2 q2
  obtain ⟨rfl, Fe2, Fs2⟩ := q2
  replace X1 := X1.keep K2
  show Go _ _ _ _ T2 (mkF m 9 #[.val (.long e1), .second, .val (.long s1), .second, .val (.long e2), .second, .val (.long s2), .second, .val (.long e3), .second, .val (.long s3), .second, .unset, .unset, .unset, .unset, .unset, .unset, .unset, .unset, .unset, .unset, .unset, .unset] [(.ref a1)])
  refine Go.astore S2 at_9 rfl (Ls' := #[.val (.long e1), .second, .val (.long s1), .second, .val (.long e2), .second, .val (.long s2), .second, .val (.long e3), .second, .val (.long s3), .second, .val (.ref a1), .unset, .unset, .unset, .unset, .unset, .unset, .unset, .unset, .unset, .unset, .unset]) rfl (pc' := 11) rfl ?_
  refine Go.new S2 (wd0 hw) (wd1 hw) (wd2 hw) at_11 (by decide) (by decide) (pc' := 14) rfl ?_
  intro T3 h3 a3 S3 E3 hg3 hz3 hk3 X3 D3
  have n_a1_a3 : a1 ≠ a3 := Nat.ne_of_lt (Nat.lt_of_lt_of_le X1.lt (Nat.le_of_eq hg3))
  replace X1 := X1.ext E3
  replace Fe2 := Fe2.ext E3
  replace Fs2 := Fs2.ext E3
  have F3_entries : Fld Z h3 a3 "com/example/tukda/tukda/model/IndexFill" "entries" "J" (.long (0 : Int64)) := D3 (Or.inr (wd10 hw)) (ty := .long) (by decide)
  have F3_skipped : Fld Z h3 a3 "com/example/tukda/tukda/model/IndexFill" "skipped" "J" (.long (0 : Int64)) := D3 (Or.inr (wd12 hw)) (ty := .long) (by decide)
  refine Go.dup S3 at_14 rfl (pc' := 15) rfl ?_
  refine Go.lload S3 at_15 rfl (pc' := 17) rfl ?_
  refine Go.lload S3 at_17 rfl (pc' := 19) rfl ?_
  refine Go.invokespecial S3 (y := ⟨"com/example/tukda/tukda/model/IndexFill", "<init>", "(JJ)V"⟩) (rm_prog_15_method_1_code hw a3 e2 s2 S3.ext hz3 X3 F3_entries F3_skipped) rfl rfl (wd3 hw) (wd4 hw) (wd2 hw) (wd5 hw) (by decide) at_19 rfl pd0 (argsL := [(.long e2), (.long s2)]) rfl rfl rfl (by decide) (W := 1) rfl (by decide) (by decide) (by decide) (allS (Or.inr hk3) all0) (pc' := 22) rfl ?_
  intro v4 T4 h4 L4 S4 K4 q4
  obtain ⟨rfl, Fe4, Fs4⟩ := q4
  replace X1 := X1.keep K4
  replace Fe2 := Fe2.keep K4 (ninS n_a1_a3 nin0)
  replace Fs2 := Fs2.keep K4 (ninS n_a1_a3 nin0)
  replace X3 := X3.keep K4
  show Go _ _ _ _ T4 (mkF m 22 #[.val (.long e1), .second, .val (.long s1), .second, .val (.long e2), .second, .val (.long s2), .second, .val (.long e3), .second, .val (.long s3), .second, .val (.ref a1), .unset, .unset, .unset, .unset, .unset, .unset, .unset, .unset, .unset, .unset, .unset] [(.ref a3)])
  refine Go.astore S4 at_22 rfl (Ls' := #[.val (.long e1), .second, .val (.long s1), .second, .val (.long e2), .second, .val (.long s2), .second, .val (.long e3), .second, .val (.long s3), .second, .val (.ref a1), .val (.ref a3), .unset, .unset, .unset, .unset, .unset, .unset, .unset, .unset, .unset, .unset]) rfl (pc' := 24) rfl ?_
  refine Go.new S4 (wd0 hw) (wd1 hw) (wd2 hw) at_24 (by decide) (by decide) (pc' := 27) rfl ?_
  intro T5 h5 a5 S5 E5 hg5 hz5 hk5 X5 D5
  have n_a1_a5 : a1 ≠ a5 := Nat.ne_of_lt (Nat.lt_of_lt_of_le X1.lt (Nat.le_of_eq hg5))
  have n_a3_a5 : a3 ≠ a5 := Nat.ne_of_lt (Nat.lt_of_lt_of_le X3.lt (Nat.le_of_eq hg5))
  replace X1 := X1.ext E5
  replace Fe2 := Fe2.ext E5
  replace Fs2 := Fs2.ext E5
  replace X3 := X3.ext E5
  replace Fe4 := Fe4.ext E5
  replace Fs4 := Fs4.ext E5
  have F5_entries : Fld Z h5 a5 "com/example/tukda/tukda/model/IndexFill" "entries" "J" (.long (0 : Int64)) := D5 (Or.inr (wd10 hw)) (ty := .long) (by decide)
  have F5_skipped : Fld Z h5 a5 "com/example/tukda/tukda/model/IndexFill" "skipped" "J" (.long (0 : Int64)) := D5 (Or.inr (wd12 hw)) (ty := .long) (by decide)
  refine Go.dup S5 at_27 rfl (pc' := 28) rfl ?_
  refine Go.lload S5 at_28 rfl (pc' := 30) rfl ?_
  refine Go.lload S5 at_30 rfl (pc' := 32) rfl ?_
  refine Go.invokespecial S5 (y := ⟨"com/example/tukda/tukda/model/IndexFill", "<init>", "(JJ)V"⟩) (rm_prog_15_method_1_code hw a5 e3 s3 S5.ext hz5 X5 F5_entries F5_skipped) rfl rfl (wd3 hw) (wd4 hw) (wd2 hw) (wd5 hw) (by decide) at_32 rfl pd0 (argsL := [(.long e3), (.long s3)]) rfl rfl rfl (by decide) (W := 1) rfl (by decide) (by decide) (by decide) (allS (Or.inr hk5) all0) (pc' := 35) rfl ?_
  intro v6 T6 h6 L6 S6 K6 q6
  obtain ⟨rfl, Fe6, Fs6⟩ := q6
  replace X1 := X1.keep K6
  replace Fe2 := Fe2.keep K6 (ninS n_a1_a5 nin0)
  replace Fs2 := Fs2.keep K6 (ninS n_a1_a5 nin0)
  replace X3 := X3.keep K6
  replace Fe4 := Fe4.keep K6 (ninS n_a3_a5 nin0)
  replace Fs4 := Fs4.keep K6 (ninS n_a3_a5 nin0)
  replace X5 := X5.keep K6
  show Go _ _ _ _ T6 (mkF m 35 #[.val (.long e1), .second, .val (.long s1), .second, .val (.long e2), .second, .val (.long s2), .second, .val (.long e3), .second, .val (.long s3), .second, .val (.ref a1), .val (.ref a3), .unset, .unset, .unset, .unset, .unset, .unset, .unset, .unset, .unset, .unset] [(.ref a5)])
  refine Go.astore S6 at_35 rfl (Ls' := #[.val (.long e1), .second, .val (.long s1), .second, .val (.long e2), .second, .val (.long s2), .second, .val (.long e3), .second, .val (.long s3), .second, .val (.ref a1), .val (.ref a3), .val (.ref a5), .unset, .unset, .unset, .unset, .unset, .unset, .unset, .unset, .unset]) rfl (pc' := 37) rfl ?_
  refine Go.aload S6 at_37 rfl rfl (pc' := 39) rfl ?_
  refine Go.aload S6 at_39 rfl rfl (pc' := 41) rfl ?_
  refine Go.invokevirtual S6 (y := ⟨"com/example/tukda/tukda/model/IndexFill", "plus", "(Lcom/example/tukda/tukda/model/IndexFill;)Lcom/example/tukda/tukda/model/IndexFill;"⟩) (rm_prog_15_method_4_code hw a1 a3 e1 s1 e2 s2 S6.ext Fe2 Fs2 Fe4 Fs4) (wd13 hw) (wd14 hw) (S6.nf (wd16 hw)) (wd16 hw) (wd15 hw) (wd2 hw) (wd17 hw) (by decide) X1 at_41 rfl pd1 (argsL := [(.ref a3)]) rfl rfl rfl (by decide) (W := 0) rfl (by decide) (by decide) (by decide) all0 (pc' := 44) rfl ?_
  intro v7 T7 h7 L7 S7 K7 q7
  obtain ⟨r7, rfl, Xr7, Fe7, Fs7⟩ := q7
  replace X1 := X1.keep K7
  replace Fe2 := Fe2.keep K7 nin0
  replace Fs2 := Fs2.keep K7 nin0
  replace X3 := X3.keep K7
  replace Fe4 := Fe4.keep K7 nin0
  replace Fs4 := Fs4.keep K7 nin0
  replace X5 := X5.keep K7
  replace Fe6 := Fe6.keep K7 nin0
  replace Fs6 := Fs6.keep K7 nin0
  show Go _ _ _ _ T7 (mkF m 44 #[.val (.long e1), .second, .val (.long s1), .second, .val (.long e2), .second, .val (.long s2), .second, .val (.long e3), .second, .val (.long s3), .second, .val (.ref a1), .val (.ref a3), .val (.ref a5), .unset, .unset, .unset, .unset, .unset, .unset, .unset, .unset, .unset] [(.ref r7)])
  refine Go.astore S7 at_44 rfl (Ls' := #[.val (.long e1), .second, .val (.long s1), .second, .val (.long e2), .second, .val (.long s2), .second, .val (.long e3), .second, .val (.long s3), .second, .val (.ref a1), .val (.ref a3), .val (.ref a5), .val (.ref r7), .unset, .unset, .unset, .unset, .unset, .unset, .unset, .unset]) rfl (pc' := 46) rfl ?_
  refine Go.aload S7 at_46 rfl rfl (pc' := 48) rfl ?_
  refine Go.aload S7 at_48 rfl rfl (pc' := 50) rfl ?_
  refine Go.invokevirtual S7 (y := ⟨"com/example/tukda/tukda/model/IndexFill", "plus", "(Lcom/example/tukda/tukda/model/IndexFill;)Lcom/example/tukda/tukda/model/IndexFill;"⟩) (rm_prog_15_method_4_code hw r7 a5 (e1 + e2) (s1 + s2) e3 s3 S7.ext Fe7 Fs7 Fe6 Fs6) (wd13 hw) (wd14 hw) (S7.nf (wd16 hw)) (wd16 hw) (wd15 hw) (wd2 hw) (wd17 hw) (by decide) Xr7 at_50 rfl pd1 (argsL := [(.ref a5)]) rfl rfl rfl (by decide) (W := 0) rfl (by decide) (by decide) (by decide) all0 (pc' := 53) rfl ?_
  intro v8 T8 h8 L8 S8 K8 q8
  obtain ⟨r8, rfl, Xr8, Fe8, Fs8⟩ := q8
  replace X1 := X1.keep K8
  replace Fe2 := Fe2.keep K8 nin0
  replace Fs2 := Fs2.keep K8 nin0
  replace X3 := X3.keep K8
  replace Fe4 := Fe4.keep K8 nin0
  replace Fs4 := Fs4.keep K8 nin0
  replace X5 := X5.keep K8
  replace Fe6 := Fe6.keep K8 nin0
  replace Fs6 := Fs6.keep K8 nin0
  replace Xr7 := Xr7.keep K8
  replace Fe7 := Fe7.keep K8 nin0
  replace Fs7 := Fs7.keep K8 nin0
  show Go _ _ _ _ T8 (mkF m 53 #[.val (.long e1), .second, .val (.long s1), .second, .val (.long e2), .second, .val (.long s2), .second, .val (.long e3), .second, .val (.long s3), .second, .val (.ref a1), .val (.ref a3), .val (.ref a5), .val (.ref r7), .unset, .unset, .unset, .unset, .unset, .unset, .unset, .unset] [(.ref r8)])
  refine Go.astore S8 at_53 rfl (Ls' := #[.val (.long e1), .second, .val (.long s1), .second, .val (.long e2), .second, .val (.long s2), .second, .val (.long e3), .second, .val (.long s3), .second, .val (.ref a1), .val (.ref a3), .val (.ref a5), .val (.ref r7), .val (.ref r8), .unset, .unset, .unset, .unset, .unset, .unset, .unset]) rfl (pc' := 55) rfl ?_
  refine Go.lloadN S8 at_55 rfl (pc' := 56) rfl ?_
  refine Go.lload S8 at_56 rfl (pc' := 58) rfl ?_
  refine Go.ladd S8 at_58 (pc' := 59) rfl ?_
  refine Go.lstore S8 at_59 (Ls' := #[.val (.long e1), .second, .val (.long s1), .second, .val (.long e2), .second, .val (.long s2), .second, .val (.long e3), .second, .val (.long s3), .second, .val (.ref a1), .val (.ref a3), .val (.ref a5), .val (.ref r7), .val (.ref r8), .val (.long (e1 + e2)), .second, .unset, .unset, .unset, .unset, .unset]) rfl (pc' := 61) rfl ?_
  refine Go.lloadN S8 at_61 rfl (pc' := 62) rfl ?_
  refine Go.lload S8 at_62 rfl (pc' := 64) rfl ?_
  refine Go.ladd S8 at_64 (pc' := 65) rfl ?_
  refine Go.lstore S8 at_65 (Ls' := #[.val (.long e1), .second, .val (.long s1), .second, .val (.long e2), .second, .val (.long s2), .second, .val (.long e3), .second, .val (.long s3), .second, .val (.ref a1), .val (.ref a3), .val (.ref a5), .val (.ref r7), .val (.ref r8), .val (.long (e1 + e2)), .second, .val (.long (s1 + s2)), .second, .unset, .unset, .unset]) rfl (pc' := 67) rfl ?_
  refine Go.aload S8 at_67 rfl rfl (pc' := 69) rfl ?_
  refine Go.invokevirtual S8 (y := ⟨"com/example/tukda/tukda/model/IndexFill", "entries", "()J"⟩) (rm_prog_15_method_2_code hw r7 (e1 + e2) S8.ext Fe7) (wd20 hw) (wd21 hw) (S8.nf (wd23 hw)) (wd23 hw) (wd22 hw) (wd2 hw) (wd24 hw) (by decide) Xr7 at_69 rfl pd2 (argsL := []) rfl rfl rfl (by decide) (W := 0) rfl (by decide) (by decide) (by decide) all0 (pc' := 72) rfl ?_
  intro v9 T9 h9 L9 S9 K9 q9
  obtain ⟨rfl, rfl⟩ := q9
  show Go _ _ _ _ T9 (mkF m 72 #[.val (.long e1), .second, .val (.long s1), .second, .val (.long e2), .second, .val (.long s2), .second, .val (.long e3), .second, .val (.long s3), .second, .val (.ref a1), .val (.ref a3), .val (.ref a5), .val (.ref r7), .val (.ref r8), .val (.long (e1 + e2)), .second, .val (.long (s1 + s2)), .second, .unset, .unset, .unset] [(.long (e1 + e2))])
  refine Go.lload S9 at_72 rfl (pc' := 74) rfl ?_
  refine Go.lcmp_ne S9 at_74 (pc1 := 75) rfl at_75 (pt := 93) (by decide) (pc' := 78) rfl ?_ ?_
  · intro c74; exact absurd rfl c74
  · intro c74
    refine Go.aload S9 at_78 rfl rfl (pc' := 80) rfl ?_
    refine Go.invokevirtual S9 (y := ⟨"com/example/tukda/tukda/model/IndexFill", "skipped", "()J"⟩) (rm_prog_15_method_3_code hw r7 (s1 + s2) S9.ext Fs7) (wd25 hw) (wd26 hw) (S9.nf (wd28 hw)) (wd28 hw) (wd27 hw) (wd2 hw) (wd29 hw) (by decide) Xr7 at_80 rfl pd2 (argsL := []) rfl rfl rfl (by decide) (W := 0) rfl (by decide) (by decide) (by decide) all0 (pc' := 83) rfl ?_
    intro v10 T10 h10 L10 S10 K10 q10
    obtain ⟨rfl, rfl⟩ := q10
    show Go _ _ _ _ T10 (mkF m 83 #[.val (.long e1), .second, .val (.long s1), .second, .val (.long e2), .second, .val (.long s2), .second, .val (.long e3), .second, .val (.long s3), .second, .val (.ref a1), .val (.ref a3), .val (.ref a5), .val (.ref r7), .val (.ref r8), .val (.long (e1 + e2)), .second, .val (.long (s1 + s2)), .second, .unset, .unset, .unset] [(.long (s1 + s2))])
    refine Go.lload S10 at_83 rfl (pc' := 85) rfl ?_
    refine Go.lcmp_ne S10 at_85 (pc1 := 86) rfl at_86 (pt := 93) (by decide) (pc' := 89) rfl ?_ ?_
    · intro c85; exact absurd rfl c85
    · intro c85
      refine Go.iconst S10 (v := 1) at_89 rfl (pc' := 90) rfl ?_
      refine Go.goto S10 at_90 (pc' := 94) (by decide) ?_
      refine Go.istore S10 at_94 (Ls' := #[.val (.long e1), .second, .val (.long s1), .second, .val (.long e2), .second, .val (.long s2), .second, .val (.long e3), .second, .val (.long s3), .second, .val (.ref a1), .val (.ref a3), .val (.ref a5), .val (.ref r7), .val (.ref r8), .val (.long (e1 + e2)), .second, .val (.long (s1 + s2)), .second, .val (.int (1 : Int32)), .unset, .unset]) rfl (pc' := 96) rfl ?_
      refine Go.aload S10 at_96 rfl rfl (pc' := 98) rfl ?_
      refine Go.invokevirtual S10 (y := ⟨"com/example/tukda/tukda/model/IndexFill", "entries", "()J"⟩) (rm_prog_15_method_2_code hw r8 ((e1 + e2) + e3) S10.ext Fe8) (wd20 hw) (wd21 hw) (S10.nf (wd23 hw)) (wd23 hw) (wd22 hw) (wd2 hw) (wd24 hw) (by decide) Xr8 at_98 rfl pd2 (argsL := []) rfl rfl rfl (by decide) (W := 0) rfl (by decide) (by decide) (by decide) all0 (pc' := 101) rfl ?_
      intro v11 T11 h11 L11 S11 K11 q11
      obtain ⟨rfl, rfl⟩ := q11
      show Go _ _ _ _ T11 (mkF m 101 #[.val (.long e1), .second, .val (.long s1), .second, .val (.long e2), .second, .val (.long s2), .second, .val (.long e3), .second, .val (.long s3), .second, .val (.ref a1), .val (.ref a3), .val (.ref a5), .val (.ref r7), .val (.ref r8), .val (.long (e1 + e2)), .second, .val (.long (s1 + s2)), .second, .val (.int (1 : Int32)), .unset, .unset] [(.long ((e1 + e2) + e3))])
      refine Go.lload S11 at_101 rfl (pc' := 103) rfl ?_
      refine Go.lload S11 at_103 rfl (pc' := 105) rfl ?_
      refine Go.ladd S11 at_105 (pc' := 106) rfl ?_
      refine Go.lcmp_ne S11 at_106 (pc1 := 107) rfl at_107 (pt := 128) (by decide) (pc' := 110) rfl ?_ ?_
      · intro c106; exact absurd rfl c106
      · intro c106
        refine Go.aload S11 at_110 rfl rfl (pc' := 112) rfl ?_
        refine Go.invokevirtual S11 (y := ⟨"com/example/tukda/tukda/model/IndexFill", "skipped", "()J"⟩) (rm_prog_15_method_3_code hw r8 ((s1 + s2) + s3) S11.ext Fs8) (wd25 hw) (wd26 hw) (S11.nf (wd28 hw)) (wd28 hw) (wd27 hw) (wd2 hw) (wd29 hw) (by decide) Xr8 at_112 rfl pd2 (argsL := []) rfl rfl rfl (by decide) (W := 0) rfl (by decide) (by decide) (by decide) all0 (pc' := 115) rfl ?_
        intro v12 T12 h12 L12 S12 K12 q12
        obtain ⟨rfl, rfl⟩ := q12
        show Go _ _ _ _ T12 (mkF m 115 #[.val (.long e1), .second, .val (.long s1), .second, .val (.long e2), .second, .val (.long s2), .second, .val (.long e3), .second, .val (.long s3), .second, .val (.ref a1), .val (.ref a3), .val (.ref a5), .val (.ref r7), .val (.ref r8), .val (.long (e1 + e2)), .second, .val (.long (s1 + s2)), .second, .val (.int (1 : Int32)), .unset, .unset] [(.long ((s1 + s2) + s3))])
        refine Go.lload S12 at_115 rfl (pc' := 117) rfl ?_
        refine Go.lload S12 at_117 rfl (pc' := 119) rfl ?_
        refine Go.ladd S12 at_119 (pc' := 120) rfl ?_
        refine Go.lcmp_ne S12 at_120 (pc1 := 121) rfl at_121 (pt := 128) (by decide) (pc' := 124) rfl ?_ ?_
        · intro c120; exact absurd rfl c120
        · intro c120
          refine Go.iconst S12 (v := 1) at_124 rfl (pc' := 125) rfl ?_
          refine Go.goto S12 at_125 (pc' := 129) (by decide) ?_
          refine Go.istore S12 at_129 (Ls' := #[.val (.long e1), .second, .val (.long s1), .second, .val (.long e2), .second, .val (.long s2), .second, .val (.long e3), .second, .val (.long s3), .second, .val (.ref a1), .val (.ref a3), .val (.ref a5), .val (.ref r7), .val (.ref r8), .val (.long (e1 + e2)), .second, .val (.long (s1 + s2)), .second, .val (.int (1 : Int32)), .val (.int (1 : Int32)), .unset]) rfl (pc' := 131) rfl ?_
          refine Go.aload S12 at_131 rfl rfl (pc' := 133) rfl ?_
          refine Go.invokevirtual S12 (y := ⟨"com/example/tukda/tukda/model/IndexFill", "entries", "()J"⟩) (rm_prog_15_method_2_code hw a1 e1 S12.ext Fe2) (wd20 hw) (wd21 hw) (S12.nf (wd23 hw)) (wd23 hw) (wd22 hw) (wd2 hw) (wd24 hw) (by decide) X1 at_133 rfl pd2 (argsL := []) rfl rfl rfl (by decide) (W := 0) rfl (by decide) (by decide) (by decide) all0 (pc' := 136) rfl ?_
          intro v13 T13 h13 L13 S13 K13 q13
          obtain ⟨rfl, rfl⟩ := q13
          show Go _ _ _ _ T13 (mkF m 136 #[.val (.long e1), .second, .val (.long s1), .second, .val (.long e2), .second, .val (.long s2), .second, .val (.long e3), .second, .val (.long s3), .second, .val (.ref a1), .val (.ref a3), .val (.ref a5), .val (.ref r7), .val (.ref r8), .val (.long (e1 + e2)), .second, .val (.long (s1 + s2)), .second, .val (.int (1 : Int32)), .val (.int (1 : Int32)), .unset] [(.long e1)])
          refine Go.lloadN S13 at_136 rfl (pc' := 137) rfl ?_
          refine Go.lcmp_ne S13 at_137 (pc1 := 138) rfl at_138 (pt := 177) (by decide) (pc' := 141) rfl ?_ ?_
          · intro c137; exact absurd rfl c137
          · intro c137
            refine Go.aload S13 at_141 rfl rfl (pc' := 143) rfl ?_
            refine Go.invokevirtual S13 (y := ⟨"com/example/tukda/tukda/model/IndexFill", "skipped", "()J"⟩) (rm_prog_15_method_3_code hw a1 s1 S13.ext Fs2) (wd25 hw) (wd26 hw) (S13.nf (wd28 hw)) (wd28 hw) (wd27 hw) (wd2 hw) (wd29 hw) (by decide) X1 at_143 rfl pd2 (argsL := []) rfl rfl rfl (by decide) (W := 0) rfl (by decide) (by decide) (by decide) all0 (pc' := 146) rfl ?_
            intro v14 T14 h14 L14 S14 K14 q14
            obtain ⟨rfl, rfl⟩ := q14
            show Go _ _ _ _ T14 (mkF m 146 #[.val (.long e1), .second, .val (.long s1), .second, .val (.long e2), .second, .val (.long s2), .second, .val (.long e3), .second, .val (.long s3), .second, .val (.ref a1), .val (.ref a3), .val (.ref a5), .val (.ref r7), .val (.ref r8), .val (.long (e1 + e2)), .second, .val (.long (s1 + s2)), .second, .val (.int (1 : Int32)), .val (.int (1 : Int32)), .unset] [(.long s1)])
            refine Go.lloadN S14 at_146 rfl (pc' := 147) rfl ?_
            refine Go.lcmp_ne S14 at_147 (pc1 := 148) rfl at_148 (pt := 177) (by decide) (pc' := 151) rfl ?_ ?_
            · intro c147; exact absurd rfl c147
            · intro c147
              refine Go.aload S14 at_151 rfl rfl (pc' := 153) rfl ?_
              refine Go.invokevirtual S14 (y := ⟨"com/example/tukda/tukda/model/IndexFill", "entries", "()J"⟩) (rm_prog_15_method_2_code hw a3 e2 S14.ext Fe4) (wd20 hw) (wd21 hw) (S14.nf (wd23 hw)) (wd23 hw) (wd22 hw) (wd2 hw) (wd24 hw) (by decide) X3 at_153 rfl pd2 (argsL := []) rfl rfl rfl (by decide) (W := 0) rfl (by decide) (by decide) (by decide) all0 (pc' := 156) rfl ?_
              intro v15 T15 h15 L15 S15 K15 q15
              obtain ⟨rfl, rfl⟩ := q15
              show Go _ _ _ _ T15 (mkF m 156 #[.val (.long e1), .second, .val (.long s1), .second, .val (.long e2), .second, .val (.long s2), .second, .val (.long e3), .second, .val (.long s3), .second, .val (.ref a1), .val (.ref a3), .val (.ref a5), .val (.ref r7), .val (.ref r8), .val (.long (e1 + e2)), .second, .val (.long (s1 + s2)), .second, .val (.int (1 : Int32)), .val (.int (1 : Int32)), .unset] [(.long e2)])
              refine Go.lload S15 at_156 rfl (pc' := 158) rfl ?_
              refine Go.lcmp_ne S15 at_158 (pc1 := 159) rfl at_159 (pt := 177) (by decide) (pc' := 162) rfl ?_ ?_
              · intro c158; exact absurd rfl c158
              · intro c158
                refine Go.aload S15 at_162 rfl rfl (pc' := 164) rfl ?_
                refine Go.invokevirtual S15 (y := ⟨"com/example/tukda/tukda/model/IndexFill", "skipped", "()J"⟩) (rm_prog_15_method_3_code hw a3 s2 S15.ext Fs4) (wd25 hw) (wd26 hw) (S15.nf (wd28 hw)) (wd28 hw) (wd27 hw) (wd2 hw) (wd29 hw) (by decide) X3 at_164 rfl pd2 (argsL := []) rfl rfl rfl (by decide) (W := 0) rfl (by decide) (by decide) (by decide) all0 (pc' := 167) rfl ?_
                intro v16 T16 h16 L16 S16 K16 q16
                obtain ⟨rfl, rfl⟩ := q16
                show Go _ _ _ _ T16 (mkF m 167 #[.val (.long e1), .second, .val (.long s1), .second, .val (.long e2), .second, .val (.long s2), .second, .val (.long e3), .second, .val (.long s3), .second, .val (.ref a1), .val (.ref a3), .val (.ref a5), .val (.ref r7), .val (.ref r8), .val (.long (e1 + e2)), .second, .val (.long (s1 + s2)), .second, .val (.int (1 : Int32)), .val (.int (1 : Int32)), .unset] [(.long s2)])
                refine Go.lload S16 at_167 rfl (pc' := 169) rfl ?_
                refine Go.lcmp_ne S16 at_169 (pc1 := 170) rfl at_170 (pt := 177) (by decide) (pc' := 173) rfl ?_ ?_
                · intro c169; exact absurd rfl c169
                · intro c169
                  refine Go.iconst S16 (v := 1) at_173 rfl (pc' := 174) rfl ?_
                  refine Go.goto S16 at_174 (pc' := 178) (by decide) ?_
                  refine Go.istore S16 at_178 (Ls' := #[.val (.long e1), .second, .val (.long s1), .second, .val (.long e2), .second, .val (.long s2), .second, .val (.long e3), .second, .val (.long s3), .second, .val (.ref a1), .val (.ref a3), .val (.ref a5), .val (.ref r7), .val (.ref r8), .val (.long (e1 + e2)), .second, .val (.long (s1 + s2)), .second, .val (.int (1 : Int32)), .val (.int (1 : Int32)), .val (.int (1 : Int32))]) rfl (pc' := 180) rfl ?_
                  refine Go.iload S16 at_180 rfl (pc' := 182) rfl ?_
                  refine Go.if_eq S16 at_182 (pt := 199) (by decide) (pc' := 185) rfl ?_ ?_
                  · intro c182; exact absurd c182 (by decide)
                  · intro c182
                    refine Go.iload S16 at_185 rfl (pc' := 187) rfl ?_
                    refine Go.if_eq S16 at_187 (pt := 199) (by decide) (pc' := 190) rfl ?_ ?_
                    · intro c187; exact absurd c187 (by decide)
                    · intro c187
                      refine Go.iload S16 at_190 rfl (pc' := 192) rfl ?_
                      refine Go.if_eq S16 at_192 (pt := 199) (by decide) (pc' := 195) rfl ?_ ?_
                      · intro c192; exact absurd c192 (by decide)
                      · intro c192
                        refine Go.iconst S16 (v := 1) at_195 rfl (pc' := 196) rfl ?_
                        refine Go.goto S16 at_196 (pc' := 200) (by decide) ?_
                        exact Go.zreturn S16 rfl (by decide) at_200 (z' := (1 : Int32)) rfl (by decide) (by decide) (rfl)
set_option maxRecDepth 65536 in
set_option maxHeartbeats 4000000 in
theorem comes_1 {Post : Tables → Env → Array Value → State → Outcome → State → Prop} (hpost : ∀ tb e args s v u, (limb_1_1.after args s (.returned v) u = true ∧ limb_1_2.after args s (.returned v) u = true ∧ True) → FrameEnd s (.returned v) u (Jvm.fieldLocs frame_1_writes args s ++ Jvm.arrayLocs frame_1_arrays args s ++ Jvm.staticLocs frame_1_statics s) 24 128 → Post tb e args s (.returned v) u) :
    ArmFor flags0 classFile x code maxLocals ret World_1 tables_1 room_1 Calls_1 rest_1 Pre_1 Post := by
  intro l hfl _ _ p e ha hc hk s m args below hf hA hF happ hP
  obtain ⟨hcalls, hrest, hpre⟩ := hP
  obtain ⟨-, -, -, hnamed, -, -, -, hat⟩ := (Spec.applies_iff hf).mp happ
  obtain ⟨hg, hn⟩ := and_e (Cond.before_iff.mp (show (Jvm.Cond.and given_1 narrow_1).before args s = true from hpre))
  obtain ⟨g1a, g1b⟩ := and_e hg
  obtain ⟨g2a, g2b⟩ := and_e g1b
  obtain ⟨g3a, g3b⟩ := and_e g2b
  obtain ⟨g4a, g4b⟩ := and_e g3b
  obtain ⟨g5a, g5b⟩ := and_e g4b
  obtain ⟨g6a, g6b⟩ := and_e g5b
  obtain ⟨w0, w1, w2, w3, w4, w5, rfl⟩ : ∃ w0 w1 w2 w3 w4 w5 : Value, args = #[w0, w1, w2, w3, w4, w5] := by
    have hs : args.size = 6 := by simpa [Cond.value, given_1] using g1a
    obtain ⟨L⟩ := args
    match L, hs with
    | [w0, w1, w2, w3, w4, w5], _ => exact ⟨w0, w1, w2, w3, w4, w5, rfl⟩
  have hw : HW s _ := fun d (hd : d ∈ tables_1) => atoms_spec (ws := Jvm.Cond.code x code maxLocals ret :: tables_1) hat d (List.mem_cons_of_mem _ hd)
  have hfit : Fit s := fun {y c} hc i hi => by
    obtain ⟨ha, rfl⟩ := Array.getElem?_eq_some_iff.mp hc
    have q := List.all_eq_true.mp ((Array.all_eq_true_iff_forall_mem.mp hF) _ (Array.getElem_mem ha)) i (List.mem_range.mpr hi)
    simpa [Array.getElem?_eq_getElem hi] using q
  obtain ⟨i0, ei0⟩ := isL_v g2a
  obtain rfl : w0 = (.long i0) := Option.some.inj ei0
  obtain ⟨i1, ei1⟩ := isL_v g3a
  obtain rfl : w1 = (.long i1) := Option.some.inj ei1
  obtain ⟨i2, ei2⟩ := isL_v g4a
  obtain rfl : w2 = (.long i2) := Option.some.inj ei2
  obtain ⟨i3, ei3⟩ := isL_v g5a
  obtain rfl : w3 = (.long i3) := Option.some.inj ei3
  obtain ⟨i4, ei4⟩ := isL_v g6a
  obtain rfl : w4 = (.long i4) := Option.some.inj ei4
  obtain ⟨i5, ei5⟩ := isL_v g6b
  obtain rfl : w5 = (.long i5) := Option.some.inj ei5
  obtain ⟨n, o, h1, h2, h3, _, L, rfl, ⟨N, -, -, rfl⟩, hq⟩ := rm_code (l := l) hw i0 i1 i2 i3 i4 i5  (h0 := s.heap) ⟨Nat.le_refl _, fun _ _ q => q⟩  tables_1 p e ha hc hk s m _ below hf ((Spec.applies_iff_loose hf).mp happ).1 ⟨rfl, State.Warmed39.refl s, rfl⟩ trivial
  refine ⟨n, _, h1, h2, h3, hpost _ _ _ _ _ _ ⟨Cond.after_iff.mpr rfl, Cond.after_iff.mpr (eq_i res_at (Term.int_eval (1)) rfl), trivial⟩ ⟨hq.1, hq.2.1, (hq.2.2.sift fun y hy => Or.inr (N y hy)).mono (by decide) (by decide)⟩⟩
theorem main_1_1 : Claimed_1_1 := comes_1 fun _ _ _ _ _ _ h hF => ⟨h.1, hF⟩
theorem main_1_2 : Claimed_1_2 := comes_1 fun _ _ _ _ _ _ h hF => ⟨h.2.1, hF⟩
end Jvm.Pilot.@@N@@
namespace Jvm.Pilot.@@N@@
open Jvm Jvm.ClassFile Sem Op Lib Jvm.Free Jvm.Stand Jvm.Pilot.@@N@@.Jvm.D
/-! MADE BY PROGRAM (witnessworld.py) out of the Statement's table words and the real class files: 9 classes; the members and pool entries that the words name. The judged class is class 1, her method 1. -/
namespace start1
open Jvm.ClassFile
def u (s : String) : CpInfo := .utf8 (stringToUtf16 s)
/-- a pool by its gaps: so many unusable entries, then the entry; so many at the end -/
def gap : Nat → List CpInfo → List CpInfo
  | 0, r => r
  | n + 1, r => .unusable :: gap n r
def poolList (es : List (Nat × CpInfo)) (last : Nat) : List CpInfo := es.foldr (fun e r => gap e.1 (e.2 :: r)) (gap last [])
def pool (es : List (Nat × CpInfo)) (last : Nat) : Array CpInfo := ⟨poolList es last⟩
def fileOf (pool : Array CpInfo) (this : Nat) (attrs : Array Attribute := #[]) (ms : Array MethodInfo := #[]) (fl : Nat := 33) (sup : Nat := 0) (ifs : Array Nat := #[]) (fds : Array FieldInfo := #[]) : ClassFile where
  minorVersion := 0
  majorVersion := 65
  constantPool := pool
  accessFlags := fl
  thisClass := this
  superClass := sup
  interfaces := ifs
  fields := fds
  methods := ms
  attributes := attrs
def plain (name : String) (sup : Option ClassId) : Class where
  name := name
  kind := .ordinary
  loader := none
  accessFlags := 33
  super := sup
  interfaces := #[]
  cf := none
  fields := #[]
  methods := #[]
  instanceTypes := #[]
  staticTypes := #[]
  resolved := #[]
  callSites := []
  init := .initialized
  statics := none
  mirror := none

def pool0 : Array CpInfo := pool [(5, u "<init>"), (0, u "()V"), (1, .class_ 10), (1, u "java/lang/Object")] 113

def k0c0 : Code := { maxStack := 0, maxLocals := 1, code := object_method_1_code, exceptionTable := #[], attributes := #[] }
def k0m0 : Method := { name := "<init>", desc := "()V", sig := { parameters := [], returnType := none }, accessFlags := 1, code := some k0c0 }
/-- java/lang/Object -/
def k0 : Class := { plain "java/lang/Object" none with
  accessFlags := 33
  interfaces := #[]
  cf := some (fileOf pool0 8 #[] #[{ accessFlags := 1, nameIndex := 5, descriptorIndex := 6, attributes := #[] }] 33 0 #[] #[])
  fields := #[]
  methods := #[k0m0]
  instanceTypes := #[]
  staticTypes := #[]
  resolved := Array.replicate 124 none
  statics := none }

def pool1 : Array CpInfo := pool [(2, .class_ 4), (1, u "java/lang/Object"), (0, u "<init>"), (0, u "()V"), (0, .class_ 8), (0, u "com/example/tukda/tukda/model/IndexFill"), (0, .methodref 7 10), (0, .nameAndType 5 11), (0, u "(JJ)V"), (0, .methodref 7 13), (0, .nameAndType 14 15), (0, u "plus"), (0, u "(Lcom/example/tukda/tukda/model/IndexFill;)Lcom/example/tukda/tukda/model/IndexFill;"), (0, .methodref 7 17), (0, .nameAndType 18 19), (0, u "entries"), (0, u "()J"), (0, .methodref 7 21), (0, .nameAndType 22 19), (0, u "skipped"), (0, .class_ 24), (0, u "com/example/tukda/tukda/model/IndexFillPlusPinLaw"), (2, u "law"), (0, u "(JJJJJJ)Z")] 3

def k1m0 : Method := { name := "<init>", desc := "()V", sig := { parameters := [], returnType := none }, accessFlags := 1, code := none }
def k1c1 : Code := { maxStack := 6, maxLocals := 24, code := code, exceptionTable := #[], attributes := #[] }
def k1m1 : Method := { name := "law", desc := "(JJJJJJ)Z", sig := { parameters := [.long, .long, .long, .long, .long, .long], returnType := some .boolean }, accessFlags := 9, code := some k1c1 }
/-- com/example/tukda/tukda/model/IndexFillPlusPinLaw -/
def k1 : Class := { plain "com/example/tukda/tukda/model/IndexFillPlusPinLaw" (some 0) with
  accessFlags := 49
  interfaces := #[]
  cf := some (fileOf pool1 23 #[] #[{ accessFlags := 1, nameIndex := 5, descriptorIndex := 6, attributes := #[] }, { accessFlags := 9, nameIndex := 27, descriptorIndex := 28, attributes := #[] }] 49 2 #[] #[])
  fields := #[]
  methods := #[k1m0, k1m1]
  instanceTypes := #[]
  staticTypes := #[]
  resolved := Array.replicate 32 none
  statics := none }

def pool2 : Array CpInfo := pool [(1, .methodref 2 3), (0, .class_ 4), (0, .nameAndType 5 6), (0, u "java/lang/Object"), (0, u "<init>"), (0, u "()V"), (0, .fieldref 8 9), (0, .class_ 10), (0, .nameAndType 11 12), (0, u "com/example/tukda/tukda/model/IndexFill"), (0, u "entries"), (0, u "J"), (0, .fieldref 8 14), (0, .nameAndType 15 12), (0, u "skipped"), (0, .methodref 8 17), (0, .nameAndType 5 18), (0, u "(JJ)V"), (2, u "NONE"), (0, u "Lcom/example/tukda/tukda/model/IndexFill;"), (2, u "()J"), (0, u "plus"), (0, u "(Lcom/example/tukda/tukda/model/IndexFill;)Lcom/example/tukda/tukda/model/IndexFill;")] 3

def k2c0 : Code := { maxStack := 3, maxLocals := 5, code := prog_15_method_1_code, exceptionTable := #[], attributes := #[] }
def k2m0 : Method := { name := "<init>", desc := "(JJ)V", sig := { parameters := [.long, .long], returnType := none }, accessFlags := 1, code := some k2c0 }
def k2c1 : Code := { maxStack := 2, maxLocals := 1, code := prog_15_method_2_code, exceptionTable := #[], attributes := #[] }
def k2m1 : Method := { name := "entries", desc := "()J", sig := { parameters := [], returnType := some .long }, accessFlags := 1, code := some k2c1 }
def k2c2 : Code := { maxStack := 2, maxLocals := 1, code := prog_15_method_3_code, exceptionTable := #[], attributes := #[] }
def k2m2 : Method := { name := "skipped", desc := "()J", sig := { parameters := [], returnType := some .long }, accessFlags := 1, code := some k2c2 }
def k2c3 : Code := { maxStack := 8, maxLocals := 2, code := prog_15_method_4_code, exceptionTable := #[], attributes := #[] }
def k2m3 : Method := { name := "plus", desc := "(Lcom/example/tukda/tukda/model/IndexFill;)Lcom/example/tukda/tukda/model/IndexFill;", sig := { parameters := [(.object "com/example/tukda/tukda/model/IndexFill")], returnType := some (.object "com/example/tukda/tukda/model/IndexFill") }, accessFlags := 1, code := some k2c3 }
/-- com/example/tukda/tukda/model/IndexFill -/
def k2 : Class := { plain "com/example/tukda/tukda/model/IndexFill" (some 0) with
  accessFlags := 49
  interfaces := #[]
  cf := some (fileOf pool2 8 #[] #[{ accessFlags := 1, nameIndex := 5, descriptorIndex := 18, attributes := #[] }, { accessFlags := 1, nameIndex := 11, descriptorIndex := 25, attributes := #[] }, { accessFlags := 1, nameIndex := 15, descriptorIndex := 25, attributes := #[] }, { accessFlags := 1, nameIndex := 26, descriptorIndex := 27, attributes := #[] }] 49 2 #[] #[{ accessFlags := 25, nameIndex := 21, descriptorIndex := 22, attributes := #[] }, { accessFlags := 18, nameIndex := 11, descriptorIndex := 12, attributes := #[] }, { accessFlags := 18, nameIndex := 15, descriptorIndex := 12, attributes := #[] }])
  fields := #[{ name := "NONE", type := (.object "com/example/tukda/tukda/model/IndexFill"), accessFlags := 25, slot := 0, constantValue := 0 }, { name := "entries", type := .long, accessFlags := 18, slot := 0, constantValue := 0 }, { name := "skipped", type := .long, accessFlags := 18, slot := 1, constantValue := 0 }]
  methods := #[k2m0, k2m1, k2m2, k2m3]
  instanceTypes := #[.long, .long]
  staticTypes := #[(.object "com/example/tukda/tukda/model/IndexFill")]
  resolved := Array.replicate 31 none
  statics := none }

def pool3 : Array CpInfo := pool [(1, u "java/lang/Cloneable"), (0, .class_ 1), (0, u "java/lang/Object"), (0, .class_ 3)] 3

/-- java/lang/Cloneable -/
def k3 : Class := { plain "java/lang/Cloneable" (some 0) with
  accessFlags := 1537
  interfaces := #[]
  cf := some (fileOf pool3 2 #[] #[] 1537 4 #[] #[])
  fields := #[]
  methods := #[]
  instanceTypes := #[]
  staticTypes := #[]
  resolved := Array.replicate 8 none
  statics := none }

def pool4 : Array CpInfo := pool [(1, u "java/io/Serializable"), (0, .class_ 1), (0, u "java/lang/Object"), (0, .class_ 3)] 3

/-- java/io/Serializable -/
def k4 : Class := { plain "java/io/Serializable" (some 0) with
  accessFlags := 1537
  interfaces := #[]
  cf := some (fileOf pool4 2 #[] #[] 1537 4 #[] #[])
  fields := #[]
  methods := #[]
  instanceTypes := #[]
  staticTypes := #[]
  resolved := Array.replicate 8 none
  statics := none }

/-- the primitive byte -/
def k5 : Class := { plain "byte" none with kind := .primitive 'B', accessFlags := 0x411 }
/-- [B -/
def k6 : Class := { plain "[B" (some 0) with kind := .array 5 .byte, interfaces := #[3, 4], accessFlags := 1041 }

/-- the primitive int -/
def k7 : Class := { plain "int" none with kind := .primitive 'I', accessFlags := 0x411 }
/-- [I -/
def k8 : Class := { plain "[I" (some 0) with kind := .array 7 .int, interfaces := #[3, 4], accessFlags := 1041 }

def heap : Heap := #[]
def classes : Array Class := #[k0, k1, k2, k3, k4, k5, k6, k7, k8]
def interned : List (Array UInt16 × Addr) := []
def slotsUsed : Nat := 0
def theMethod : MethodId := ⟨1, 1⟩
def args0 : Array Value := #[.long 0, .long 1, .long 2, .long 3, .long 4, .long 5]
def aboutOver (below : List Frame) : State where
  vm := { classes := classes, interned := interned.toArray }
  heap := heap
  slotsUsed := slotsUsed
  threads := #[{ frames := .invoking theMethod args0 :: below }]
def below0 : List Frame := [.native { method := ⟨0, 0⟩, args := #[] }]
def about1 : State := aboutOver below0
def p0 : Program := .bare "" "" ""
def e0 : Env := launch0.env 0 0 0
theorem w_frames : about1.frames = Frame.invoking theMethod args0 :: below0 := rfl
set_option maxRecDepth 65536 in
theorem w_args : argsFit about1.vm theMethod args0 = true := by decide +kernel
set_option maxRecDepth 65536 in
theorem w_heap : heapFits about1 = true := by decide +kernel
set_option maxRecDepth 65536 in
theorem w_runnable : about1.curStatus? = some .runnable := by decide +kernel
set_option maxRecDepth 65536 in
theorem w_alone : about1.alone = true := by decide +kernel
set_option maxRecDepth 65536 in
theorem w_named : about1.methodNamed? x = some theMethod := by decide +kernel
set_option maxRecDepth 65536 in
theorem w_hears : about1.hears theMethod below0 = true := by decide +kernel
set_option maxRecDepth 65536 in
theorem w_ripe : about1.ripe theMethod args0 below0 = true := by decide +kernel
theorem w_running : about1.status = .running := rfl
set_option maxRecDepth 65536 in
theorem w_room : about1.hasRoom e0.platform room_1 = true :=
  launch0.hasRoom_least _ room_1 (by decide +kernel) (by decide +kernel) (by decide +kernel) (by decide +kernel) (by decide +kernel) (by decide +kernel)
theorem allAtoms_all (ts : List Jvm.Cond) (a : Array Jvm.Value) (st : Jvm.State) : (allAtoms ts).before a st = ts.all (fun c => c.before a st) := by
  induction ts with
  | nil => rfl
  | cons c t ih =>
    show (Jvm.Cond.and c (allAtoms t)).before a st = _
    rw [Jvm.Cond.before_and, ih, List.all_cons]
def words1 : List Jvm.Cond := Jvm.Cond.code x code maxLocals ret :: tables_1
/-- a 'code' word, met by the world's own term for the bytes: nothing is compared byte by byte -/
theorem code_word {y : MethodName} {bytes : ByteArray} {mx : Nat} {rt : Option FieldType} {a : Array Value} {s : State} {m : MethodId} {meth : Method} {c : Code} (h1 : s.methodNamed? y = some m) (h2 : s.vm.method? m = some meth) (h3 : meth.code = some c) (h4 : c.code = bytes)
    (h5 : (c.maxLocals == mx && c.exceptionTable.isEmpty && decide (c.maxStack ≤ mostOperands) && decide (meth.sig.returnType = rt) && !meth.locks && decide (parseMethodDescriptor y.desc = some meth.sig)) = true) : (Jvm.Cond.code y bytes mx rt).before a s = true := by
  simp only [Bool.and_eq_true, beq_iff_eq, Bool.not_eq_true', decide_eq_true_eq] at h5
  obtain ⟨⟨⟨⟨⟨g1, g2⟩, g3⟩, g4⟩, g5⟩, g6⟩ := h5
  simp [Cond.before, Cond.holds, Cond.value, h1, h2, h3, h4, g1, g2, g3, g4, g5, g6]
def isCode : Jvm.Cond → Bool
  | .code _ _ _ _ => true
  | _ => false
theorem all_split {L : List Jvm.Cond} {P : Jvm.Cond → Bool} (h1 : L.all (fun c => isCode c || P c) = true) (h2 : ∀ c ∈ L.filter isCode, P c = true) : L.all P = true := by
  refine List.all_eq_true.mpr fun c hc => ?_
  have h := List.all_eq_true.mp h1 c hc
  rcases Bool.eq_false_or_eq_true (isCode c) with hi | hi
  · exact h2 c (List.mem_filter.mpr ⟨hc, hi⟩)
  · simpa [hi] using h
set_option maxRecDepth 65536 in
theorem w_c0 : (Jvm.Cond.code x code maxLocals ret).before args0 about1 = true := code_word (m := ⟨1, 1⟩) (meth := k1m1) (c := k1c1) (by decide +kernel) rfl rfl rfl (by decide +kernel)
set_option maxRecDepth 65536 in
theorem w_c1 : (Jvm.Cond.code ({ cls := "com/example/tukda/tukda/model/IndexFill", name := "<init>", desc := "(JJ)V" } : Jvm.MethodName) prog_15_method_1_code (5 : Nat) (Option.none : Option Jvm.ClassFile.FieldType)).before args0 about1 = true := code_word (m := ⟨2, 0⟩) (meth := k2m0) (c := k2c0) (by decide +kernel) rfl rfl rfl (by decide +kernel)
set_option maxRecDepth 65536 in
theorem w_c2 : (Jvm.Cond.code ({ cls := "java/lang/Object", name := "<init>", desc := "()V" } : Jvm.MethodName) object_method_1_code (1 : Nat) (Option.none : Option Jvm.ClassFile.FieldType)).before args0 about1 = true := code_word (m := ⟨0, 0⟩) (meth := k0m0) (c := k0c0) (by decide +kernel) rfl rfl rfl (by decide +kernel)
set_option maxRecDepth 65536 in
theorem w_c3 : (Jvm.Cond.code ({ cls := "com/example/tukda/tukda/model/IndexFill", name := "plus", desc := "(Lcom/example/tukda/tukda/model/IndexFill;)Lcom/example/tukda/tukda/model/IndexFill;" } : Jvm.MethodName) prog_15_method_4_code (2 : Nat) (Option.some (Jvm.ClassFile.FieldType.object "com/example/tukda/tukda/model/IndexFill"))).before args0 about1 = true := code_word (m := ⟨2, 3⟩) (meth := k2m3) (c := k2c3) (by decide +kernel) rfl rfl rfl (by decide +kernel)
set_option maxRecDepth 65536 in
theorem w_c4 : (Jvm.Cond.code ({ cls := "com/example/tukda/tukda/model/IndexFill", name := "entries", desc := "()J" } : Jvm.MethodName) prog_15_method_2_code (1 : Nat) (Option.some Jvm.ClassFile.FieldType.long)).before args0 about1 = true := code_word (m := ⟨2, 1⟩) (meth := k2m1) (c := k2c1) (by decide +kernel) rfl rfl rfl (by decide +kernel)
set_option maxRecDepth 65536 in
theorem w_c5 : (Jvm.Cond.code ({ cls := "com/example/tukda/tukda/model/IndexFill", name := "skipped", desc := "()J" } : Jvm.MethodName) prog_15_method_3_code (1 : Nat) (Option.some Jvm.ClassFile.FieldType.long)).before args0 about1 = true := code_word (m := ⟨2, 2⟩) (meth := k2m2) (c := k2c2) (by decide +kernel) rfl rfl rfl (by decide +kernel)
def codes1 : List Jvm.Cond := [Jvm.Cond.code x code maxLocals ret, Jvm.Cond.code ({ cls := "com/example/tukda/tukda/model/IndexFill", name := "<init>", desc := "(JJ)V" } : Jvm.MethodName) prog_15_method_1_code (5 : Nat) (Option.none : Option Jvm.ClassFile.FieldType), Jvm.Cond.code ({ cls := "java/lang/Object", name := "<init>", desc := "()V" } : Jvm.MethodName) object_method_1_code (1 : Nat) (Option.none : Option Jvm.ClassFile.FieldType), Jvm.Cond.code ({ cls := "com/example/tukda/tukda/model/IndexFill", name := "plus", desc := "(Lcom/example/tukda/tukda/model/IndexFill;)Lcom/example/tukda/tukda/model/IndexFill;" } : Jvm.MethodName) prog_15_method_4_code (2 : Nat) (Option.some (Jvm.ClassFile.FieldType.object "com/example/tukda/tukda/model/IndexFill")), Jvm.Cond.code ({ cls := "com/example/tukda/tukda/model/IndexFill", name := "entries", desc := "()J" } : Jvm.MethodName) prog_15_method_2_code (1 : Nat) (Option.some Jvm.ClassFile.FieldType.long), Jvm.Cond.code ({ cls := "com/example/tukda/tukda/model/IndexFill", name := "skipped", desc := "()J" } : Jvm.MethodName) prog_15_method_3_code (1 : Nat) (Option.some Jvm.ClassFile.FieldType.long)]
set_option maxRecDepth 65536 in
theorem codes_eq : words1.filter isCode = codes1 := rfl
theorem w_codes : ∀ c ∈ words1.filter isCode, c.before args0 about1 = true := by
  rw [codes_eq]
  intro c hc
  simp only [codes1, List.mem_cons, List.not_mem_nil, or_false] at hc
  rcases hc with rfl | rfl | rfl | rfl | rfl | rfl
  · exact w_c0
  · exact w_c1
  · exact w_c2
  · exact w_c3
  · exact w_c4
  · exact w_c5
set_option maxRecDepth 65536 in
theorem w_t1 : (words1.take 24).all (fun c => isCode c || c.before args0 about1) = true := by decide +kernel
set_option maxRecDepth 65536 in
theorem w_t2 : (words1.drop 24).all (fun c => isCode c || c.before args0 about1) = true := by decide +kernel
theorem w_tables : (allAtoms (Jvm.Cond.code x code maxLocals ret :: tables_1)).before args0 about1 = true := by
  rw [allAtoms_all]
  show words1.all (fun c => c.before args0 about1) = true
  refine all_split ?_ w_codes
  rw [← List.take_append_drop 24 words1, List.all_append, w_t1, w_t2]
  rfl
set_option maxRecDepth 65536 in
theorem w_case : (Jvm.Cond.and given_1 narrow_1).before args0 about1 = true := by decide +kernel
theorem w_applies : (headSpec (Jvm.Cond.code x code maxLocals ret :: tables_1) room_1).applies x e0.platform about1 = true :=
  (Spec.applies_iff w_frames).mpr ⟨w_running, w_runnable, w_alone, w_named, w_hears, w_ripe, w_room, w_tables⟩
theorem atStart : AtStart classFile x code maxLocals ret World_1 tables_1 room_1 Calls_1 rest_1 Pre_1 launch0 p0 e0 about1 theMethod args0 below0 :=
  ⟨lists_1, trivial, launch0.admits_env _ _ _, launch0.least_env, fairChoices_fair.cas, fairChoices_fair.clock, w_frames, w_args, w_heap, w_applies, trivial, trivial, w_case⟩
end start1
theorem witness_1 : WitnessClaimed_1 := ⟨start1.p0, start1.e0, start1.about1, start1.theMethod, start1.args0, start1.below0, start1.atStart⟩
end Jvm.Pilot.@@N@@
