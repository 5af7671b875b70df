import JvmDerived
import JvmDerived.Pilot.@@N@@Statement
import JvmDerived.Pilot.@@N@@Code
set_option linter.unusedVariables false
set_option linter.unusedSimpArgs false
namespace Jvm.Own
open Sem ClassFile Op Lib Jvm.Stand Jvm.Free Jvm.LawKit Jvm.RoadKit
/-- the run goes on from the frame g over T and comes to an end of which P holds -/
def Go (p : Program) (e : Env) (below : List Frame) (P : Outcome → State → Prop) (T : State) (g : JFrame) : Prop :=
  ∃ U o, Steps p.tables e below (T.setTop g) U ∧ U.status = .running ∧ Ended U below o ∧ P o U
/-- what a body's end says: it returned v; it wrote in new cells alone, kept the heap h0 but for ws and the start's heap whole; Q of what it returned and of the heap -/
def PostOf (Z s : State) (h0 : Heap) (ws : List Addr) (kc ks : Nat) (Q : Option Value → Heap → Prop) (o : Outcome) (U : State) : Prop :=
  ∃ v L, o = .returned v ∧ (Fr Z.heap.size L ∧ Keep h0 U.heap ws ∧ Ext Z.heap U.heap ∧ Q v U.heap) ∧ FrameEnd s o U L kc ks
/-- a body's contract for the arguments as at the heap h0 -/
def OMeets (l : Launch) (Z : State) (y : MethodName) (bytes : ByteArray) (nl : Nat) (ret : Option FieldType) (R : Room) (as : Array Value) (h0 : Heap) (ws : List Addr) (Q : Option Value → Heap → Prop) : Prop :=
  ∀ wd : List Jvm.Cond, MetFree l y (head1 (Jvm.Cond.code y bytes nl ret :: wd) R) (fun a U => a = as ∧ Z.Warmed39 U.vm ∧ U.heap = h0) (fun _ _ _ _ _ => True)
    (fun _ U o U' => PostOf Z U h0 ws R.cells R.slots Q o U')
/-- where the run of one body stands: what is fixed, the library's Stand, the heap, what was written, what is kept -/
def St (p : Program) (l : Launch) (e : Env) (R : Room) (s : State) (m : MethodId) (args : Array Value) (below : List Frame) (meth : Method) (c : Code) (Z : State) (own : String) (bytes : ByteArray) (nl : Nat) (ret : Option FieldType) (nm : String)
    (h0 : Heap) (ws : List Addr) (T : State) (h : Heap) (locs : List Loc) (cells slots : Nat) : Prop :=
  (p.tables.exec = Jvm.exec ∧ c.code = bytes ∧ c.maxLocals = nl ∧ Z.Warmed39 s.vm ∧ s.vm.findClass own = some m.cls ∧ meth.sig.returnType = ret ∧ meth.locks = false ∧ meth.name = nm) ∧
  Stand p l e R s m args below meth c T locs cells slots ∧ T.heap = h ∧ Fr Z.heap.size locs ∧ Keep h0 h ws ∧ Ext Z.heap h
section Steps
variable {p : Program} {l : Launch} {e : Env} {R : Room} {s : State} {m : MethodId} {args : Array Value} {below : List Frame} {meth : Method} {c : Code} {Z : State} {own : String} {bytes : ByteArray} {nl : Nat} {ret : Option FieldType} {nm : String}
  {h0 : Heap} {ws : List Addr} {T : State} {h : Heap} {locs : List Loc} {cells slots : Nat} {P : Outcome → State → Prop} {pc pc' : Nat} {Ls Ls' : Array Slot} {st : List Value} {a0 : Array Value}
theorem off0 {a b : Nat} {o : Int} (h : (a : Int) + o = (b : Int)) : 0 ≤ (a : Int) + o := by omega
theorem off1 {a b : Nat} {o : Int} (h : (a : Int) + o = (b : Int)) : ((a : Int) + o).toNat = b := by omega
theorem Go.of {T' : State} {g g' : JFrame} (k : Go p e below P T' g') (f : ∀ t, Steps p.tables e below (T'.setTop g') t → Steps p.tables e below (T.setTop g) t) : Go p e below P T g := by
  obtain ⟨U, o, h1, h2⟩ := k
  exact ⟨U, o, f _ h1, h2⟩
theorem Go.imp {g : JFrame} {P' : Outcome → State → Prop} (k : Go p e below P T g) (f : ∀ o U, P o U → P' o U) : Go p e below P' T g := by
  obtain ⟨U, o, h1, h2, h3, h4⟩ := k
  exact ⟨U, o, h1, h2, h3, f _ _ h4⟩
theorem St.ex (S : St p l e R s m args below meth c Z own bytes nl ret nm h0 ws T h locs cells slots) : p.tables.exec = Jvm.exec := S.1.1
theorem St.hd (S : St p l e R s m args below meth c Z own bytes nl ret nm h0 ws T h locs cells slots) {r : Except DecodeError (Instr × Nat)} (h2 : decode bytes pc = r) : decode c.code pc = r := S.1.2.1 ▸ h2
theorem St.hnl (S : St p l e R s m args below meth c Z own bytes nl ret nm h0 ws T h locs cells slots) : c.maxLocals = nl := S.1.2.2.1
theorem St.hZ (S : St p l e R s m args below meth c Z own bytes nl ret nm h0 ws T h locs cells slots) : Z.Warmed39 s.vm := S.1.2.2.2.1
theorem St.hown (S : St p l e R s m args below meth c Z own bytes nl ret nm h0 ws T h locs cells slots) : s.vm.findClass own = some m.cls := S.1.2.2.2.2.1
theorem St.hret (S : St p l e R s m args below meth c Z own bytes nl ret nm h0 ws T h locs cells slots) : meth.sig.returnType = ret := S.1.2.2.2.2.2.1
theorem St.locks (S : St p l e R s m args below meth c Z own bytes nl ret nm h0 ws T h locs cells slots) : meth.locks = false := S.1.2.2.2.2.2.2.1
theorem St.hnm (S : St p l e R s m args below meth c Z own bytes nl ret nm h0 ws T h locs cells slots) : meth.name = nm := S.1.2.2.2.2.2.2.2
theorem St.X (S : St p l e R s m args below meth c Z own bytes nl ret nm h0 ws T h locs cells slots) : Stand p l e R s m args below meth c T locs cells slots := S.2.1
theorem St.eT (S : St p l e R s m args below meth c Z own bytes nl ret nm h0 ws T h locs cells slots) : T.heap = h := S.2.2.1
theorem St.fr (S : St p l e R s m args below meth c Z own bytes nl ret nm h0 ws T h locs cells slots) : Fr Z.heap.size locs := S.2.2.2.1
theorem St.keep (S : St p l e R s m args below meth c Z own bytes nl ret nm h0 ws T h locs cells slots) : Keep h0 h ws := S.2.2.2.2.1
theorem St.ext (S : St p l e R s m args below meth c Z own bytes nl ret nm h0 ws T h locs cells slots) : Ext Z.heap h := S.2.2.2.2.2
theorem St.more (S : St p l e R s m args below meth c Z own bytes nl ret nm h0 ws T h locs cells slots) {cells' slots' : Nat} (hc : cells ≤ cells') (hs : slots ≤ slots') : St p l e R s m args below meth c Z own bytes nl ret nm h0 ws T h locs cells' slots' := ⟨S.1, S.X.more hc hs, S.2.2⟩
theorem St.next (S : St p l e R s m args below meth c Z own bytes nl ret nm h0 ws T h locs cells slots) {T' : State} {h' : Heap} {locs' : List Loc} {cells' slots' : Nat} (X : Stand p l e R s m args below meth c T' locs' cells' slots') (e1 : T'.heap = h') (N : Fr Z.heap.size locs') (K : Keep h0 h' ws) (E : Ext Z.heap h') : St p l e R s m args below meth c Z own bytes nl ret nm h0 ws T' h' locs' cells' slots' := ⟨S.1, X, e1, N, K, E⟩
theorem Go.iloadN (S : St p l e R s m args below meth c Z own bytes nl ret nm h0 ws T h locs cells slots) {k : Fin 4} {v : Int32} (hd : decode bytes pc = .ok (.iload_n k, 1)) (hl : Ls[k.val]? = some (.val (.int v))) (hp : pc + 1 = pc') (k : Go p e below P T (mkF m pc' Ls (.int v :: st))) : Go p e below P T (mkF m pc Ls st) := by
  subst hp
  exact k.of fun t q => XS.iloadN S.X.here S.ex rfl (S.hd hd) hl q
theorem Go.iload (S : St p l e R s m args below meth c Z own bytes nl ret nm h0 ws T h locs cells slots) {k : Nat} {v : Int32} (hd : decode bytes pc = .ok (.iload k, 2)) (hl : Ls[k]? = some (.val (.int v))) (hp : pc + 2 = pc') (k : Go p e below P T (mkF m pc' Ls (.int v :: st))) : Go p e below P T (mkF m pc Ls st) := by
  subst hp
  exact k.of fun t q => XS.iload S.X.here S.ex rfl (S.hd hd) hl q
theorem Go.istoreN (S : St p l e R s m args below meth c Z own bytes nl ret nm h0 ws T h locs cells slots) {k : Fin 4} {v : Int32} (hd : decode bytes pc = .ok (.istore_n k, 1)) (hl : storeLocals Ls k.val (.int v) = some Ls') (hp : pc + 1 = pc') (k : Go p e below P T (mkF m pc' Ls' st)) : Go p e below P T (mkF m pc Ls (.int v :: st)) := by
  subst hp
  exact k.of fun t q => XS.istoreN S.X.here S.ex rfl (S.hd hd) rfl hl q
theorem Go.istore (S : St p l e R s m args below meth c Z own bytes nl ret nm h0 ws T h locs cells slots) {k : Nat} {v : Int32} (hd : decode bytes pc = .ok (.istore k, 2)) (hl : storeLocals Ls k (.int v) = some Ls') (hp : pc + 2 = pc') (k : Go p e below P T (mkF m pc' Ls' st)) : Go p e below P T (mkF m pc Ls (.int v :: st)) := by
  subst hp
  exact k.of fun t q => XS.istore S.X.here S.ex rfl (S.hd hd) rfl hl q
theorem Go.lloadN (S : St p l e R s m args below meth c Z own bytes nl ret nm h0 ws T h locs cells slots) {k : Fin 4} {v : Int64} (hd : decode bytes pc = .ok (.lload_n k, 1)) (hl : Ls[k.val]? = some (.val (.long v))) (hp : pc + 1 = pc') (k : Go p e below P T (mkF m pc' Ls (.long v :: st))) : Go p e below P T (mkF m pc Ls st) := by
  subst hp
  exact k.of fun t q => XS.lloadN S.X.here S.ex rfl (S.hd hd) hl q
theorem Go.lload (S : St p l e R s m args below meth c Z own bytes nl ret nm h0 ws T h locs cells slots) {k : Nat} {v : Int64} (hd : decode bytes pc = .ok (.lload k, 2)) (hl : Ls[k]? = some (.val (.long v))) (hp : pc + 2 = pc') (k : Go p e below P T (mkF m pc' Ls (.long v :: st))) : Go p e below P T (mkF m pc Ls st) := by
  subst hp
  exact k.of fun t q => XS.lload S.X.here S.ex rfl (S.hd hd) hl q
theorem Go.lstoreN (S : St p l e R s m args below meth c Z own bytes nl ret nm h0 ws T h locs cells slots) {k : Fin 4} {v : Int64} (hd : decode bytes pc = .ok (.lstore_n k, 1)) (hl : storeLocals Ls k.val (.long v) = some Ls') (hp : pc + 1 = pc') (k : Go p e below P T (mkF m pc' Ls' st)) : Go p e below P T (mkF m pc Ls (.long v :: st)) := by
  subst hp
  exact k.of fun t q => XS.lstoreN S.X.here S.ex rfl (S.hd hd) rfl hl q
theorem Go.lstore (S : St p l e R s m args below meth c Z own bytes nl ret nm h0 ws T h locs cells slots) {k : Nat} {v : Int64} (hd : decode bytes pc = .ok (.lstore k, 2)) (hl : storeLocals Ls k (.long v) = some Ls') (hp : pc + 2 = pc') (k : Go p e below P T (mkF m pc' Ls' st)) : Go p e below P T (mkF m pc Ls (.long v :: st)) := by
  subst hp
  exact k.of fun t q => XS.lstore S.X.here S.ex rfl (S.hd hd) rfl hl q
theorem Go.aloadN (S : St p l e R s m args below meth c Z own bytes nl ret nm h0 ws T h locs cells slots) {k : Fin 4} {v : Value} (hd : decode bytes pc = .ok (.aload_n k, 1)) (hl : Ls[k.val]? = some (.val v)) (hr : v.isRef = true) (hp : pc + 1 = pc') (k : Go p e below P T (mkF m pc' Ls (v :: st))) : Go p e below P T (mkF m pc Ls st) := by
  subst hp
  exact k.of fun t q => XS.aloadN S.X.here S.ex rfl (S.hd hd) hl hr q
theorem Go.aload (S : St p l e R s m args below meth c Z own bytes nl ret nm h0 ws T h locs cells slots) {k : Nat} {v : Value} (hd : decode bytes pc = .ok (.aload k, 2)) (hl : Ls[k]? = some (.val v)) (hr : v.isRef = true) (hp : pc + 2 = pc') (k : Go p e below P T (mkF m pc' Ls (v :: st))) : Go p e below P T (mkF m pc Ls st) := by
  subst hp
  exact k.of fun t q => XS.aload S.X.here S.ex rfl (S.hd hd) hl hr q
theorem Go.astoreN (S : St p l e R s m args below meth c Z own bytes nl ret nm h0 ws T h locs cells slots) {k : Fin 4} {v : Value} (hd : decode bytes pc = .ok (.astore_n k, 1)) (hr : v.isRef = true) (hl : storeLocals Ls k.val v = some Ls') (hp : pc + 1 = pc') (k : Go p e below P T (mkF m pc' Ls' st)) : Go p e below P T (mkF m pc Ls (v :: st)) := by
  subst hp
  exact k.of fun t q => XS.astoreN S.X.here S.ex rfl (S.hd hd) rfl hr hl q
theorem Go.astore (S : St p l e R s m args below meth c Z own bytes nl ret nm h0 ws T h locs cells slots) {k : Nat} {v : Value} (hd : decode bytes pc = .ok (.astore k, 2)) (hr : v.isRef = true) (hl : storeLocals Ls k v = some Ls') (hp : pc + 2 = pc') (k : Go p e below P T (mkF m pc' Ls' st)) : Go p e below P T (mkF m pc Ls (v :: st)) := by
  subst hp
  exact k.of fun t q => XS.astore S.X.here S.ex rfl (S.hd hd) rfl hr hl q
theorem Go.iconst (S : St p l e R s m args below meth c Z own bytes nl ret nm h0 ws T h locs cells slots) {i : Int} {v : Int32} (hd : decode bytes pc = .ok (.iconst i, 1)) (hv : Int32.ofInt i = v) (hp : pc + 1 = pc') (k : Go p e below P T (mkF m pc' Ls (.int v :: st))) : Go p e below P T (mkF m pc Ls st) := by
  subst hp hv
  exact k.of fun t q => XS.iconst S.X.here S.ex rfl (S.hd hd) q
theorem Go.bipush (S : St p l e R s m args below meth c Z own bytes nl ret nm h0 ws T h locs cells slots) {i : Int} {v : Int32} (hd : decode bytes pc = .ok (.bipush i, 2)) (hv : (Int8.ofInt i).toInt32 = v) (hp : pc + 2 = pc') (k : Go p e below P T (mkF m pc' Ls (.int v :: st))) : Go p e below P T (mkF m pc Ls st) := by
  subst hp hv
  exact k.of fun t q => XS.bipush S.X.here S.ex rfl (S.hd hd) q
theorem Go.sipush (S : St p l e R s m args below meth c Z own bytes nl ret nm h0 ws T h locs cells slots) {i : Int} {v : Int32} (hd : decode bytes pc = .ok (.sipush i, 3)) (hv : (Int16.ofInt i).toInt32 = v) (hp : pc + 3 = pc') (k : Go p e below P T (mkF m pc' Ls (.int v :: st))) : Go p e below P T (mkF m pc Ls st) := by
  subst hp hv
  exact k.of fun t q => XS.sipush S.X.here S.ex rfl (S.hd hd) q
theorem Go.lconst (S : St p l e R s m args below meth c Z own bytes nl ret nm h0 ws T h locs cells slots) {i : Fin 2} {v : Int64} (hd : decode bytes pc = .ok (.lconst i, 1)) (hv : Int64.ofNat i = v) (hp : pc + 1 = pc') (k : Go p e below P T (mkF m pc' Ls (.long v :: st))) : Go p e below P T (mkF m pc Ls st) := by
  subst hp hv
  exact k.of fun t q => XS.lconst S.X.here S.ex rfl (S.hd hd) q
theorem Go.aconst_null (S : St p l e R s m args below meth c Z own bytes nl ret nm h0 ws T h locs cells slots)  (hd : decode bytes pc = .ok (.aconst_null, 1)) (hp : pc + 1 = pc') (k : Go p e below P T (mkF m pc' Ls (.null :: st))) : Go p e below P T (mkF m pc Ls st) := by
  subst hp
  exact k.of fun t q => XS.aconstNull S.X.here S.ex rfl (S.hd hd) q
theorem Go.iadd (S : St p l e R s m args below meth c Z own bytes nl ret nm h0 ws T h locs cells slots) {x y : Int32} (hd : decode bytes pc = .ok (.iadd, 1)) (hp : pc + 1 = pc') (k : Go p e below P T (mkF m pc' Ls (.int (x + y) :: st))) : Go p e below P T (mkF m pc Ls (.int y :: .int x :: st)) := by
  subst hp
  exact k.of fun t q => XS.iadd S.X.here S.ex rfl (S.hd hd) rfl q
theorem Go.ladd (S : St p l e R s m args below meth c Z own bytes nl ret nm h0 ws T h locs cells slots) {x y : Int64} (hd : decode bytes pc = .ok (.ladd, 1)) (hp : pc + 1 = pc') (k : Go p e below P T (mkF m pc' Ls (.long (x + y) :: st))) : Go p e below P T (mkF m pc Ls (.long y :: .long x :: st)) := by
  subst hp
  exact k.of fun t q => XS.ladd S.X.here S.ex rfl (S.hd hd) rfl q
theorem Go.isub (S : St p l e R s m args below meth c Z own bytes nl ret nm h0 ws T h locs cells slots) {x y : Int32} (hd : decode bytes pc = .ok (.isub, 1)) (hp : pc + 1 = pc') (k : Go p e below P T (mkF m pc' Ls (.int (x - y) :: st))) : Go p e below P T (mkF m pc Ls (.int y :: .int x :: st)) := by
  subst hp
  exact k.of fun t q => XS.isub S.X.here S.ex rfl (S.hd hd) rfl q
theorem Go.lsub (S : St p l e R s m args below meth c Z own bytes nl ret nm h0 ws T h locs cells slots) {x y : Int64} (hd : decode bytes pc = .ok (.lsub, 1)) (hp : pc + 1 = pc') (k : Go p e below P T (mkF m pc' Ls (.long (x - y) :: st))) : Go p e below P T (mkF m pc Ls (.long y :: .long x :: st)) := by
  subst hp
  exact k.of fun t q => XS.lsub S.X.here S.ex rfl (S.hd hd) rfl q
theorem Go.imul (S : St p l e R s m args below meth c Z own bytes nl ret nm h0 ws T h locs cells slots) {x y : Int32} (hd : decode bytes pc = .ok (.imul, 1)) (hp : pc + 1 = pc') (k : Go p e below P T (mkF m pc' Ls (.int (x * y) :: st))) : Go p e below P T (mkF m pc Ls (.int y :: .int x :: st)) := by
  subst hp
  exact k.of fun t q => XS.imul S.X.here S.ex rfl (S.hd hd) rfl q
theorem Go.lmul (S : St p l e R s m args below meth c Z own bytes nl ret nm h0 ws T h locs cells slots) {x y : Int64} (hd : decode bytes pc = .ok (.lmul, 1)) (hp : pc + 1 = pc') (k : Go p e below P T (mkF m pc' Ls (.long (x * y) :: st))) : Go p e below P T (mkF m pc Ls (.long y :: .long x :: st)) := by
  subst hp
  exact k.of fun t q => XS.lmul S.X.here S.ex rfl (S.hd hd) rfl q
theorem Go.iand (S : St p l e R s m args below meth c Z own bytes nl ret nm h0 ws T h locs cells slots) {x y : Int32} (hd : decode bytes pc = .ok (.iand, 1)) (hp : pc + 1 = pc') (k : Go p e below P T (mkF m pc' Ls (.int (x &&& y) :: st))) : Go p e below P T (mkF m pc Ls (.int y :: .int x :: st)) := by
  subst hp
  exact k.of fun t q => XS.iand S.X.here S.ex rfl (S.hd hd) rfl q
theorem Go.land (S : St p l e R s m args below meth c Z own bytes nl ret nm h0 ws T h locs cells slots) {x y : Int64} (hd : decode bytes pc = .ok (.land, 1)) (hp : pc + 1 = pc') (k : Go p e below P T (mkF m pc' Ls (.long (x &&& y) :: st))) : Go p e below P T (mkF m pc Ls (.long y :: .long x :: st)) := by
  subst hp
  exact k.of fun t q => XS.land S.X.here S.ex rfl (S.hd hd) rfl q
theorem Go.ior (S : St p l e R s m args below meth c Z own bytes nl ret nm h0 ws T h locs cells slots) {x y : Int32} (hd : decode bytes pc = .ok (.ior, 1)) (hp : pc + 1 = pc') (k : Go p e below P T (mkF m pc' Ls (.int (x ||| y) :: st))) : Go p e below P T (mkF m pc Ls (.int y :: .int x :: st)) := by
  subst hp
  exact k.of fun t q => XS.ior S.X.here S.ex rfl (S.hd hd) rfl q
theorem Go.lor (S : St p l e R s m args below meth c Z own bytes nl ret nm h0 ws T h locs cells slots) {x y : Int64} (hd : decode bytes pc = .ok (.lor, 1)) (hp : pc + 1 = pc') (k : Go p e below P T (mkF m pc' Ls (.long (x ||| y) :: st))) : Go p e below P T (mkF m pc Ls (.long y :: .long x :: st)) := by
  subst hp
  exact k.of fun t q => XS.lor S.X.here S.ex rfl (S.hd hd) rfl q
theorem Go.ixor (S : St p l e R s m args below meth c Z own bytes nl ret nm h0 ws T h locs cells slots) {x y : Int32} (hd : decode bytes pc = .ok (.ixor, 1)) (hp : pc + 1 = pc') (k : Go p e below P T (mkF m pc' Ls (.int (x ^^^ y) :: st))) : Go p e below P T (mkF m pc Ls (.int y :: .int x :: st)) := by
  subst hp
  exact k.of fun t q => XS.ixor S.X.here S.ex rfl (S.hd hd) rfl q
theorem Go.lxor (S : St p l e R s m args below meth c Z own bytes nl ret nm h0 ws T h locs cells slots) {x y : Int64} (hd : decode bytes pc = .ok (.lxor, 1)) (hp : pc + 1 = pc') (k : Go p e below P T (mkF m pc' Ls (.long (x ^^^ y) :: st))) : Go p e below P T (mkF m pc Ls (.long y :: .long x :: st)) := by
  subst hp
  exact k.of fun t q => XS.lxor S.X.here S.ex rfl (S.hd hd) rfl q
theorem Go.ishl (S : St p l e R s m args below meth c Z own bytes nl ret nm h0 ws T h locs cells slots) {x : Int32} {y : Int32} (hd : decode bytes pc = .ok (.ishl, 1)) (hp : pc + 1 = pc') (k : Go p e below P T (mkF m pc' Ls (.int (x <<< (y &&& 31)) :: st))) : Go p e below P T (mkF m pc Ls (.int y :: .int x :: st)) := by
  subst hp
  exact k.of fun t q => XS.ishl S.X.here S.ex rfl (S.hd hd) rfl q
theorem Go.ishr (S : St p l e R s m args below meth c Z own bytes nl ret nm h0 ws T h locs cells slots) {x : Int32} {y : Int32} (hd : decode bytes pc = .ok (.ishr, 1)) (hp : pc + 1 = pc') (k : Go p e below P T (mkF m pc' Ls (.int (x >>> (y &&& 31)) :: st))) : Go p e below P T (mkF m pc Ls (.int y :: .int x :: st)) := by
  subst hp
  exact k.of fun t q => XS.ishr S.X.here S.ex rfl (S.hd hd) rfl q
theorem Go.iushr (S : St p l e R s m args below meth c Z own bytes nl ret nm h0 ws T h locs cells slots) {x : Int32} {y : Int32} (hd : decode bytes pc = .ok (.iushr, 1)) (hp : pc + 1 = pc') (k : Go p e below P T (mkF m pc' Ls (.int ((x.toUInt32 >>> (y &&& 31).toUInt32).toInt32) :: st))) : Go p e below P T (mkF m pc Ls (.int y :: .int x :: st)) := by
  subst hp
  exact k.of fun t q => XS.iushr S.X.here S.ex rfl (S.hd hd) rfl q
theorem Go.lshl (S : St p l e R s m args below meth c Z own bytes nl ret nm h0 ws T h locs cells slots) {x : Int64} {y : Int32} (hd : decode bytes pc = .ok (.lshl, 1)) (hp : pc + 1 = pc') (k : Go p e below P T (mkF m pc' Ls (.long (x <<< (y &&& 0x3f).toInt64) :: st))) : Go p e below P T (mkF m pc Ls (.int y :: .long x :: st)) := by
  subst hp
  exact k.of fun t q => XS.lshl S.X.here S.ex rfl (S.hd hd) rfl q
theorem Go.lshr (S : St p l e R s m args below meth c Z own bytes nl ret nm h0 ws T h locs cells slots) {x : Int64} {y : Int32} (hd : decode bytes pc = .ok (.lshr, 1)) (hp : pc + 1 = pc') (k : Go p e below P T (mkF m pc' Ls (.long (x >>> (y &&& 0x3f).toInt64) :: st))) : Go p e below P T (mkF m pc Ls (.int y :: .long x :: st)) := by
  subst hp
  exact k.of fun t q => XS.lshr S.X.here S.ex rfl (S.hd hd) rfl q
theorem Go.lushr (S : St p l e R s m args below meth c Z own bytes nl ret nm h0 ws T h locs cells slots) {x : Int64} {y : Int32} (hd : decode bytes pc = .ok (.lushr, 1)) (hp : pc + 1 = pc') (k : Go p e below P T (mkF m pc' Ls (.long ((x.toUInt64 >>> (y &&& 0x3f).toInt64.toUInt64).toInt64) :: st))) : Go p e below P T (mkF m pc Ls (.int y :: .long x :: st)) := by
  subst hp
  exact k.of fun t q => XS.lushr S.X.here S.ex rfl (S.hd hd) rfl q
theorem Go.i2l (S : St p l e R s m args below meth c Z own bytes nl ret nm h0 ws T h locs cells slots) {x : Int32} (hd : decode bytes pc = .ok (.i2l, 1)) (hp : pc + 1 = pc') (k : Go p e below P T (mkF m pc' Ls (.long (x.toInt64) :: st))) : Go p e below P T (mkF m pc Ls (.int x :: st)) := by
  subst hp
  exact k.of fun t q => XS.i2l S.X.here S.ex rfl (S.hd hd) rfl q
theorem Go.l2i (S : St p l e R s m args below meth c Z own bytes nl ret nm h0 ws T h locs cells slots) {x : Int64} (hd : decode bytes pc = .ok (.l2i, 1)) (hp : pc + 1 = pc') (k : Go p e below P T (mkF m pc' Ls (.int (x.toInt32) :: st))) : Go p e below P T (mkF m pc Ls (.long x :: st)) := by
  subst hp
  exact k.of fun t q => XS.l2i S.X.here S.ex rfl (S.hd hd) rfl q
theorem Go.i2b (S : St p l e R s m args below meth c Z own bytes nl ret nm h0 ws T h locs cells slots) {x : Int32} (hd : decode bytes pc = .ok (.i2b, 1)) (hp : pc + 1 = pc') (k : Go p e below P T (mkF m pc' Ls (.int (x.toInt8.toInt32) :: st))) : Go p e below P T (mkF m pc Ls (.int x :: st)) := by
  subst hp
  exact k.of fun t q => XS.i2b S.X.here S.ex rfl (S.hd hd) rfl q
theorem Go.i2s (S : St p l e R s m args below meth c Z own bytes nl ret nm h0 ws T h locs cells slots) {x : Int32} (hd : decode bytes pc = .ok (.i2s, 1)) (hp : pc + 1 = pc') (k : Go p e below P T (mkF m pc' Ls (.int (x.toInt16.toInt32) :: st))) : Go p e below P T (mkF m pc Ls (.int x :: st)) := by
  subst hp
  exact k.of fun t q => XS.i2s S.X.here S.ex rfl (S.hd hd) rfl q
theorem Go.i2c (S : St p l e R s m args below meth c Z own bytes nl ret nm h0 ws T h locs cells slots) {x : Int32} (hd : decode bytes pc = .ok (.i2c, 1)) (hp : pc + 1 = pc') (k : Go p e below P T (mkF m pc' Ls (.int (x.toUInt32.toUInt16.toUInt32.toInt32) :: st))) : Go p e below P T (mkF m pc Ls (.int x :: st)) := by
  subst hp
  exact k.of fun t q => XS.i2c S.X.here S.ex rfl (S.hd hd) rfl q
theorem Go.ineg (S : St p l e R s m args below meth c Z own bytes nl ret nm h0 ws T h locs cells slots) {x : Int32} (hd : decode bytes pc = .ok (.ineg, 1)) (hp : pc + 1 = pc') (k : Go p e below P T (mkF m pc' Ls (.int (-x) :: st))) : Go p e below P T (mkF m pc Ls (.int x :: st)) := by
  subst hp
  exact k.of fun t q => XS.ineg S.X.here S.ex rfl (S.hd hd) rfl q
theorem Go.lneg (S : St p l e R s m args below meth c Z own bytes nl ret nm h0 ws T h locs cells slots) {x : Int64} (hd : decode bytes pc = .ok (.lneg, 1)) (hp : pc + 1 = pc') (k : Go p e below P T (mkF m pc' Ls (.long (-x) :: st))) : Go p e below P T (mkF m pc Ls (.long x :: st)) := by
  subst hp
  exact k.of fun t q => XS.lneg S.X.here S.ex rfl (S.hd hd) rfl q
theorem Go.idiv (S : St p l e R s m args below meth c Z own bytes nl ret nm h0 ws T h locs cells slots) {x y : Int32} (hd : decode bytes pc = .ok (.idiv, 1)) (hy : y ≠ 0) (hp : pc + 1 = pc') (k : Go p e below P T (mkF m pc' Ls (.int (x / y) :: st))) : Go p e below P T (mkF m pc Ls (.int y :: .int x :: st)) := by
  subst hp
  exact k.of fun t q => XS.idiv S.X.here S.ex rfl (S.hd hd) rfl hy q
theorem Go.ldiv (S : St p l e R s m args below meth c Z own bytes nl ret nm h0 ws T h locs cells slots) {x y : Int64} (hd : decode bytes pc = .ok (.ldiv, 1)) (hy : y ≠ 0) (hp : pc + 1 = pc') (k : Go p e below P T (mkF m pc' Ls (.long (x / y) :: st))) : Go p e below P T (mkF m pc Ls (.long y :: .long x :: st)) := by
  subst hp
  exact k.of fun t q => XS.ldiv S.X.here S.ex rfl (S.hd hd) rfl hy q
theorem Go.irem (S : St p l e R s m args below meth c Z own bytes nl ret nm h0 ws T h locs cells slots) {x y : Int32} (hd : decode bytes pc = .ok (.irem, 1)) (hy : y ≠ 0) (hp : pc + 1 = pc') (k : Go p e below P T (mkF m pc' Ls (.int (x % y) :: st))) : Go p e below P T (mkF m pc Ls (.int y :: .int x :: st)) := by
  subst hp
  exact k.of fun t q => Jvm.RoadKit.iremM S.X S.ex rfl (S.hd hd) rfl hy q
theorem Go.lrem (S : St p l e R s m args below meth c Z own bytes nl ret nm h0 ws T h locs cells slots) {x y : Int64} (hd : decode bytes pc = .ok (.lrem, 1)) (hy : y ≠ 0) (hp : pc + 1 = pc') (k : Go p e below P T (mkF m pc' Ls (.long (x % y) :: st))) : Go p e below P T (mkF m pc Ls (.long y :: .long x :: st)) := by
  subst hp
  rw [← lrem_mod] at k
  exact k.of fun t q => XS.lrem S.X.here S.ex rfl (S.hd hd) rfl hy q
theorem Go.iinc (S : St p l e R s m args below meth c Z own bytes nl ret nm h0 ws T h locs cells slots) {k : Nat} {cst : Int} {x : Int32} (hd : decode bytes pc = .ok (.iinc k cst, 3)) (hl : Ls[k]? = some (.val (.int x))) (hl' : storeLocals Ls k (.int (x + Int32.ofInt cst)) = some Ls') (hp : pc + 3 = pc') (k : Go p e below P T (mkF m pc' Ls' st)) : Go p e below P T (mkF m pc Ls st) := by
  subst hp
  exact k.of fun t q => XS.iinc S.X.here S.ex rfl (S.hd hd) hl hl' q
theorem Go.dup (S : St p l e R s m args below meth c Z own bytes nl ret nm h0 ws T h locs cells slots) {x : Value} (hd : decode bytes pc = .ok (.dup, 1)) (hc : x.category = 1) (hp : pc + 1 = pc') (k : Go p e below P T (mkF m pc' Ls (x :: x :: st))) : Go p e below P T (mkF m pc Ls (x :: st)) := by
  subst hp
  exact k.of fun t q => XS.dup S.X.here S.ex rfl (S.hd hd) rfl hc q
theorem Go.pop (S : St p l e R s m args below meth c Z own bytes nl ret nm h0 ws T h locs cells slots) {x : Value} (hd : decode bytes pc = .ok (.pop, 1)) (hc : x.category = 1) (hp : pc + 1 = pc') (k : Go p e below P T (mkF m pc' Ls st)) : Go p e below P T (mkF m pc Ls (x :: st)) := by
  subst hp
  exact k.of fun t q => XS.pop S.X.here S.ex rfl (S.hd hd) rfl hc q
theorem Go.dup_x1 (S : St p l e R s m args below meth c Z own bytes nl ret nm h0 ws T h locs cells slots) {x y : Value} (hd : decode bytes pc = .ok (.dup_x1, 1)) (hc : x.category = 1) (hc' : y.category = 1) (hp : pc + 1 = pc') (k : Go p e below P T (mkF m pc' Ls (x :: y :: x :: st))) : Go p e below P T (mkF m pc Ls (x :: y :: st)) := by
  subst hp
  exact k.of fun t q => XS.dupX1 S.X.here S.ex rfl (S.hd hd) rfl hc hc' q
theorem Go.goto (S : St p l e R s m args below meth c Z own bytes nl ret nm h0 ws T h locs cells slots) {o : Int} (hd : decode bytes pc = .ok (.goto o, 3)) (hp : (pc : Int) + o = (pc' : Int)) (k : Go p e below P T (mkF m pc' Ls st)) : Go p e below P T (mkF m pc Ls st) :=
  k.of fun t q => XS.goto S.X.here S.ex rfl (pc0 := pc) rfl (S.hd hd) (off0 hp) (off1 hp) q
theorem Go.if_eq (S : St p l e R s m args below meth c Z own bytes nl ret nm h0 ws T h locs cells slots) {x : Int32} {o : Int} {pt : Nat} (hd : decode bytes pc = .ok (.ifCond .eq o, 3)) (ht : (pc : Int) + o = (pt : Int)) (hf : pc + 3 = pc') (ky : x = 0 → Go p e below P T (mkF m pt Ls st)) (kn : ¬ x = 0 → Go p e below P T (mkF m pc' Ls st)) : Go p e below P T (mkF m pc Ls (.int x :: st)) := by
  subst hf
  by_cases q : x = 0
  · exact (ky q).of fun t q' => XS.ifYes S.X.here S.ex rfl (pc0 := pc) rfl (S.hd hd) rfl (Jvm.Free.XT.i0_eq_t q) (off0 ht) (off1 ht) q'
  · exact (kn q).of fun t q' => XS.ifNo S.X.here S.ex rfl (S.hd hd) rfl (Jvm.Free.XT.i0_eq_f q) q'
theorem Go.icmp_eq (S : St p l e R s m args below meth c Z own bytes nl ret nm h0 ws T h locs cells slots) {x y : Int32} {o : Int} {pt : Nat} (hd : decode bytes pc = .ok (.if_icmp .eq o, 3)) (ht : (pc : Int) + o = (pt : Int)) (hf : pc + 3 = pc') (ky : x = y → Go p e below P T (mkF m pt Ls st)) (kn : ¬ x = y → Go p e below P T (mkF m pc' Ls st)) : Go p e below P T (mkF m pc Ls (.int y :: .int x :: st)) := by
  subst hf
  by_cases q : x = y
  · exact (ky q).of fun t q' => XS.icmpYes S.X.here S.ex rfl (pc0 := pc) rfl (S.hd hd) rfl (Jvm.Free.XT.ii_eq_t q) (off0 ht) (off1 ht) q'
  · exact (kn q).of fun t q' => XS.icmpNo S.X.here S.ex rfl (S.hd hd) rfl (Jvm.Free.XT.ii_eq_f q) q'
theorem Go.lcmp_eq (S : St p l e R s m args below meth c Z own bytes nl ret nm h0 ws T h locs cells slots) {x y : Int64} {o : Int} {pt : Nat} {pc1 : Nat} (hd1 : decode bytes pc = .ok (.lcmp, 1)) (h1 : pc + 1 = pc1) (hd : decode bytes pc1 = .ok (.ifCond .eq o, 3)) (ht : (pc1 : Int) + o = (pt : Int)) (hf : pc1 + 3 = pc') (ky : x = y → Go p e below P T (mkF m pt Ls st)) (kn : ¬ x = y → Go p e below P T (mkF m pc' Ls st)) : Go p e below P T (mkF m pc Ls (.long y :: .long x :: st)) := by
  subst hf h1
  by_cases q : x = y
  · exact (ky q).of fun t q' => Jvm.Free.XT.lcmp S.X.here S.ex rfl (S.hd hd1) rfl (XS.ifYes S.X.here S.ex rfl (pc0 := pc + 1) rfl (S.hd hd) rfl (Jvm.Free.XT.ll_eq_t q) (off0 ht) (off1 ht) q')
  · exact (kn q).of fun t q' => Jvm.Free.XT.lcmp S.X.here S.ex rfl (S.hd hd1) rfl (XS.ifNo S.X.here S.ex rfl (S.hd hd) rfl (Jvm.Free.XT.ll_eq_f q) q')
theorem Go.if_ne (S : St p l e R s m args below meth c Z own bytes nl ret nm h0 ws T h locs cells slots) {x : Int32} {o : Int} {pt : Nat} (hd : decode bytes pc = .ok (.ifCond .ne o, 3)) (ht : (pc : Int) + o = (pt : Int)) (hf : pc + 3 = pc') (ky : ¬ x = 0 → Go p e below P T (mkF m pt Ls st)) (kn : x = 0 → Go p e below P T (mkF m pc' Ls st)) : Go p e below P T (mkF m pc Ls (.int x :: st)) := by
  subst hf
  by_cases q : x = 0
  · exact (kn q).of fun t q' => XS.ifNo S.X.here S.ex rfl (S.hd hd) rfl (Jvm.Free.XT.i0_ne_f q) q'
  · exact (ky q).of fun t q' => XS.ifYes S.X.here S.ex rfl (pc0 := pc) rfl (S.hd hd) rfl (Jvm.Free.XT.i0_ne_t q) (off0 ht) (off1 ht) q'
theorem Go.icmp_ne (S : St p l e R s m args below meth c Z own bytes nl ret nm h0 ws T h locs cells slots) {x y : Int32} {o : Int} {pt : Nat} (hd : decode bytes pc = .ok (.if_icmp .ne o, 3)) (ht : (pc : Int) + o = (pt : Int)) (hf : pc + 3 = pc') (ky : ¬ x = y → Go p e below P T (mkF m pt Ls st)) (kn : x = y → Go p e below P T (mkF m pc' Ls st)) : Go p e below P T (mkF m pc Ls (.int y :: .int x :: st)) := by
  subst hf
  by_cases q : x = y
  · exact (kn q).of fun t q' => XS.icmpNo S.X.here S.ex rfl (S.hd hd) rfl (Jvm.Free.XT.ii_ne_f q) q'
  · exact (ky q).of fun t q' => XS.icmpYes S.X.here S.ex rfl (pc0 := pc) rfl (S.hd hd) rfl (Jvm.Free.XT.ii_ne_t q) (off0 ht) (off1 ht) q'
theorem Go.lcmp_ne (S : St p l e R s m args below meth c Z own bytes nl ret nm h0 ws T h locs cells slots) {x y : Int64} {o : Int} {pt : Nat} {pc1 : Nat} (hd1 : decode bytes pc = .ok (.lcmp, 1)) (h1 : pc + 1 = pc1) (hd : decode bytes pc1 = .ok (.ifCond .ne o, 3)) (ht : (pc1 : Int) + o = (pt : Int)) (hf : pc1 + 3 = pc') (ky : ¬ x = y → Go p e below P T (mkF m pt Ls st)) (kn : x = y → Go p e below P T (mkF m pc' Ls st)) : Go p e below P T (mkF m pc Ls (.long y :: .long x :: st)) := by
  subst hf h1
  by_cases q : x = y
  · exact (kn q).of fun t q' => Jvm.Free.XT.lcmp S.X.here S.ex rfl (S.hd hd1) rfl (XS.ifNo S.X.here S.ex rfl (S.hd hd) rfl (Jvm.Free.XT.ll_ne_f q) q')
  · exact (ky q).of fun t q' => Jvm.Free.XT.lcmp S.X.here S.ex rfl (S.hd hd1) rfl (XS.ifYes S.X.here S.ex rfl (pc0 := pc + 1) rfl (S.hd hd) rfl (Jvm.Free.XT.ll_ne_t q) (off0 ht) (off1 ht) q')
theorem Go.if_lt (S : St p l e R s m args below meth c Z own bytes nl ret nm h0 ws T h locs cells slots) {x : Int32} {o : Int} {pt : Nat} (hd : decode bytes pc = .ok (.ifCond .lt o, 3)) (ht : (pc : Int) + o = (pt : Int)) (hf : pc + 3 = pc') (ky : x < 0 → Go p e below P T (mkF m pt Ls st)) (kn : ¬ x < 0 → Go p e below P T (mkF m pc' Ls st)) : Go p e below P T (mkF m pc Ls (.int x :: st)) := by
  subst hf
  by_cases q : x < 0
  · exact (ky q).of fun t q' => XS.ifYes S.X.here S.ex rfl (pc0 := pc) rfl (S.hd hd) rfl (Jvm.Free.XT.i0_lt_t q) (off0 ht) (off1 ht) q'
  · exact (kn q).of fun t q' => XS.ifNo S.X.here S.ex rfl (S.hd hd) rfl (Jvm.Free.XT.i0_lt_f q) q'
theorem Go.icmp_lt (S : St p l e R s m args below meth c Z own bytes nl ret nm h0 ws T h locs cells slots) {x y : Int32} {o : Int} {pt : Nat} (hd : decode bytes pc = .ok (.if_icmp .lt o, 3)) (ht : (pc : Int) + o = (pt : Int)) (hf : pc + 3 = pc') (ky : x < y → Go p e below P T (mkF m pt Ls st)) (kn : ¬ x < y → Go p e below P T (mkF m pc' Ls st)) : Go p e below P T (mkF m pc Ls (.int y :: .int x :: st)) := by
  subst hf
  by_cases q : x < y
  · exact (ky q).of fun t q' => XS.icmpYes S.X.here S.ex rfl (pc0 := pc) rfl (S.hd hd) rfl (Jvm.Free.XT.ii_lt_t q) (off0 ht) (off1 ht) q'
  · exact (kn q).of fun t q' => XS.icmpNo S.X.here S.ex rfl (S.hd hd) rfl (Jvm.Free.XT.ii_lt_f q) q'
theorem Go.lcmp_lt (S : St p l e R s m args below meth c Z own bytes nl ret nm h0 ws T h locs cells slots) {x y : Int64} {o : Int} {pt : Nat} {pc1 : Nat} (hd1 : decode bytes pc = .ok (.lcmp, 1)) (h1 : pc + 1 = pc1) (hd : decode bytes pc1 = .ok (.ifCond .lt o, 3)) (ht : (pc1 : Int) + o = (pt : Int)) (hf : pc1 + 3 = pc') (ky : x < y → Go p e below P T (mkF m pt Ls st)) (kn : ¬ x < y → Go p e below P T (mkF m pc' Ls st)) : Go p e below P T (mkF m pc Ls (.long y :: .long x :: st)) := by
  subst hf h1
  by_cases q : x < y
  · exact (ky q).of fun t q' => Jvm.Free.XT.lcmp S.X.here S.ex rfl (S.hd hd1) rfl (XS.ifYes S.X.here S.ex rfl (pc0 := pc + 1) rfl (S.hd hd) rfl (Jvm.Free.XT.ll_lt_t q) (off0 ht) (off1 ht) q')
  · exact (kn q).of fun t q' => Jvm.Free.XT.lcmp S.X.here S.ex rfl (S.hd hd1) rfl (XS.ifNo S.X.here S.ex rfl (S.hd hd) rfl (Jvm.Free.XT.ll_lt_f q) q')
theorem Go.if_ge (S : St p l e R s m args below meth c Z own bytes nl ret nm h0 ws T h locs cells slots) {x : Int32} {o : Int} {pt : Nat} (hd : decode bytes pc = .ok (.ifCond .ge o, 3)) (ht : (pc : Int) + o = (pt : Int)) (hf : pc + 3 = pc') (ky : ¬ x < 0 → Go p e below P T (mkF m pt Ls st)) (kn : x < 0 → Go p e below P T (mkF m pc' Ls st)) : Go p e below P T (mkF m pc Ls (.int x :: st)) := by
  subst hf
  by_cases q : x < 0
  · exact (kn q).of fun t q' => XS.ifNo S.X.here S.ex rfl (S.hd hd) rfl (Jvm.Free.XT.i0_ge_f q) q'
  · exact (ky q).of fun t q' => XS.ifYes S.X.here S.ex rfl (pc0 := pc) rfl (S.hd hd) rfl (Jvm.Free.XT.i0_ge_t q) (off0 ht) (off1 ht) q'
theorem Go.icmp_ge (S : St p l e R s m args below meth c Z own bytes nl ret nm h0 ws T h locs cells slots) {x y : Int32} {o : Int} {pt : Nat} (hd : decode bytes pc = .ok (.if_icmp .ge o, 3)) (ht : (pc : Int) + o = (pt : Int)) (hf : pc + 3 = pc') (ky : ¬ x < y → Go p e below P T (mkF m pt Ls st)) (kn : x < y → Go p e below P T (mkF m pc' Ls st)) : Go p e below P T (mkF m pc Ls (.int y :: .int x :: st)) := by
  subst hf
  by_cases q : x < y
  · exact (kn q).of fun t q' => XS.icmpNo S.X.here S.ex rfl (S.hd hd) rfl (Jvm.Free.XT.ii_ge_f q) q'
  · exact (ky q).of fun t q' => XS.icmpYes S.X.here S.ex rfl (pc0 := pc) rfl (S.hd hd) rfl (Jvm.Free.XT.ii_ge_t q) (off0 ht) (off1 ht) q'
theorem Go.lcmp_ge (S : St p l e R s m args below meth c Z own bytes nl ret nm h0 ws T h locs cells slots) {x y : Int64} {o : Int} {pt : Nat} {pc1 : Nat} (hd1 : decode bytes pc = .ok (.lcmp, 1)) (h1 : pc + 1 = pc1) (hd : decode bytes pc1 = .ok (.ifCond .ge o, 3)) (ht : (pc1 : Int) + o = (pt : Int)) (hf : pc1 + 3 = pc') (ky : ¬ x < y → Go p e below P T (mkF m pt Ls st)) (kn : x < y → Go p e below P T (mkF m pc' Ls st)) : Go p e below P T (mkF m pc Ls (.long y :: .long x :: st)) := by
  subst hf h1
  by_cases q : x < y
  · exact (kn q).of fun t q' => Jvm.Free.XT.lcmp S.X.here S.ex rfl (S.hd hd1) rfl (XS.ifNo S.X.here S.ex rfl (S.hd hd) rfl (Jvm.Free.XT.ll_ge_f q) q')
  · exact (ky q).of fun t q' => Jvm.Free.XT.lcmp S.X.here S.ex rfl (S.hd hd1) rfl (XS.ifYes S.X.here S.ex rfl (pc0 := pc + 1) rfl (S.hd hd) rfl (Jvm.Free.XT.ll_ge_t q) (off0 ht) (off1 ht) q')
theorem Go.if_gt (S : St p l e R s m args below meth c Z own bytes nl ret nm h0 ws T h locs cells slots) {x : Int32} {o : Int} {pt : Nat} (hd : decode bytes pc = .ok (.ifCond .gt o, 3)) (ht : (pc : Int) + o = (pt : Int)) (hf : pc + 3 = pc') (ky : 0 < x → Go p e below P T (mkF m pt Ls st)) (kn : ¬ 0 < x → Go p e below P T (mkF m pc' Ls st)) : Go p e below P T (mkF m pc Ls (.int x :: st)) := by
  subst hf
  by_cases q : 0 < x
  · exact (ky q).of fun t q' => XS.ifYes S.X.here S.ex rfl (pc0 := pc) rfl (S.hd hd) rfl (Jvm.Free.XT.i0_gt_t q) (off0 ht) (off1 ht) q'
  · exact (kn q).of fun t q' => XS.ifNo S.X.here S.ex rfl (S.hd hd) rfl (Jvm.Free.XT.i0_gt_f q) q'
theorem Go.icmp_gt (S : St p l e R s m args below meth c Z own bytes nl ret nm h0 ws T h locs cells slots) {x y : Int32} {o : Int} {pt : Nat} (hd : decode bytes pc = .ok (.if_icmp .gt o, 3)) (ht : (pc : Int) + o = (pt : Int)) (hf : pc + 3 = pc') (ky : y < x → Go p e below P T (mkF m pt Ls st)) (kn : ¬ y < x → Go p e below P T (mkF m pc' Ls st)) : Go p e below P T (mkF m pc Ls (.int y :: .int x :: st)) := by
  subst hf
  by_cases q : y < x
  · exact (ky q).of fun t q' => XS.icmpYes S.X.here S.ex rfl (pc0 := pc) rfl (S.hd hd) rfl (Jvm.Free.XT.ii_gt_t q) (off0 ht) (off1 ht) q'
  · exact (kn q).of fun t q' => XS.icmpNo S.X.here S.ex rfl (S.hd hd) rfl (Jvm.Free.XT.ii_gt_f q) q'
theorem Go.lcmp_gt (S : St p l e R s m args below meth c Z own bytes nl ret nm h0 ws T h locs cells slots) {x y : Int64} {o : Int} {pt : Nat} {pc1 : Nat} (hd1 : decode bytes pc = .ok (.lcmp, 1)) (h1 : pc + 1 = pc1) (hd : decode bytes pc1 = .ok (.ifCond .gt o, 3)) (ht : (pc1 : Int) + o = (pt : Int)) (hf : pc1 + 3 = pc') (ky : y < x → Go p e below P T (mkF m pt Ls st)) (kn : ¬ y < x → Go p e below P T (mkF m pc' Ls st)) : Go p e below P T (mkF m pc Ls (.long y :: .long x :: st)) := by
  subst hf h1
  by_cases q : y < x
  · exact (ky q).of fun t q' => Jvm.Free.XT.lcmp S.X.here S.ex rfl (S.hd hd1) rfl (XS.ifYes S.X.here S.ex rfl (pc0 := pc + 1) rfl (S.hd hd) rfl (Jvm.Free.XT.ll_gt_t q) (off0 ht) (off1 ht) q')
  · exact (kn q).of fun t q' => Jvm.Free.XT.lcmp S.X.here S.ex rfl (S.hd hd1) rfl (XS.ifNo S.X.here S.ex rfl (S.hd hd) rfl (Jvm.Free.XT.ll_gt_f q) q')
theorem Go.if_le (S : St p l e R s m args below meth c Z own bytes nl ret nm h0 ws T h locs cells slots) {x : Int32} {o : Int} {pt : Nat} (hd : decode bytes pc = .ok (.ifCond .le o, 3)) (ht : (pc : Int) + o = (pt : Int)) (hf : pc + 3 = pc') (ky : ¬ 0 < x → Go p e below P T (mkF m pt Ls st)) (kn : 0 < x → Go p e below P T (mkF m pc' Ls st)) : Go p e below P T (mkF m pc Ls (.int x :: st)) := by
  subst hf
  by_cases q : 0 < x
  · exact (kn q).of fun t q' => XS.ifNo S.X.here S.ex rfl (S.hd hd) rfl (Jvm.Free.XT.i0_le_f q) q'
  · exact (ky q).of fun t q' => XS.ifYes S.X.here S.ex rfl (pc0 := pc) rfl (S.hd hd) rfl (Jvm.Free.XT.i0_le_t q) (off0 ht) (off1 ht) q'
theorem Go.icmp_le (S : St p l e R s m args below meth c Z own bytes nl ret nm h0 ws T h locs cells slots) {x y : Int32} {o : Int} {pt : Nat} (hd : decode bytes pc = .ok (.if_icmp .le o, 3)) (ht : (pc : Int) + o = (pt : Int)) (hf : pc + 3 = pc') (ky : ¬ y < x → Go p e below P T (mkF m pt Ls st)) (kn : y < x → Go p e below P T (mkF m pc' Ls st)) : Go p e below P T (mkF m pc Ls (.int y :: .int x :: st)) := by
  subst hf
  by_cases q : y < x
  · exact (kn q).of fun t q' => XS.icmpNo S.X.here S.ex rfl (S.hd hd) rfl (Jvm.Free.XT.ii_le_f q) q'
  · exact (ky q).of fun t q' => XS.icmpYes S.X.here S.ex rfl (pc0 := pc) rfl (S.hd hd) rfl (Jvm.Free.XT.ii_le_t q) (off0 ht) (off1 ht) q'
theorem Go.lcmp_le (S : St p l e R s m args below meth c Z own bytes nl ret nm h0 ws T h locs cells slots) {x y : Int64} {o : Int} {pt : Nat} {pc1 : Nat} (hd1 : decode bytes pc = .ok (.lcmp, 1)) (h1 : pc + 1 = pc1) (hd : decode bytes pc1 = .ok (.ifCond .le o, 3)) (ht : (pc1 : Int) + o = (pt : Int)) (hf : pc1 + 3 = pc') (ky : ¬ y < x → Go p e below P T (mkF m pt Ls st)) (kn : y < x → Go p e below P T (mkF m pc' Ls st)) : Go p e below P T (mkF m pc Ls (.long y :: .long x :: st)) := by
  subst hf h1
  by_cases q : y < x
  · exact (kn q).of fun t q' => Jvm.Free.XT.lcmp S.X.here S.ex rfl (S.hd hd1) rfl (XS.ifNo S.X.here S.ex rfl (S.hd hd) rfl (Jvm.Free.XT.ll_le_f q) q')
  · exact (ky q).of fun t q' => Jvm.Free.XT.lcmp S.X.here S.ex rfl (S.hd hd1) rfl (XS.ifYes S.X.here S.ex rfl (pc0 := pc + 1) rfl (S.hd hd) rfl (Jvm.Free.XT.ll_le_t q) (off0 ht) (off1 ht) q')
theorem Go.acmp_eq (S : St p l e R s m args below meth c Z own bytes nl ret nm h0 ws T h locs cells slots) {x y : Value} {o : Int} {pt : Nat} (hd : decode bytes pc = .ok (.if_acmp .eq o, 3)) (ht : (pc : Int) + o = (pt : Int)) (hf : pc + 3 = pc') (rx : x.isRef = true) (ry : y.isRef = true) (ky : x = y → Go p e below P T (mkF m pt Ls st)) (kn : ¬ x = y → Go p e below P T (mkF m pc' Ls st)) : Go p e below P T (mkF m pc Ls (y :: x :: st)) := by
  subst hf
  by_cases q : x = y
  · exact (ky q).of fun t q' => Jvm.RoadKit.acmp (g := mkF m pc Ls (y :: x :: st)) S.X S.ex rfl rx ry (pc0 := pc) (same := true) rfl (S.hd hd) rfl (decide_eq_true q) (off0 ht) ((off1 ht).symm.trans (if_pos rfl).symm) q'
  · exact (kn q).of fun t q' => Jvm.RoadKit.acmp (g := mkF m pc Ls (y :: x :: st)) S.X S.ex rfl rx ry (pc0 := pc) (same := false) rfl (S.hd hd) rfl (decide_eq_false q) (off0 ht) ((if_neg (fun z => nomatch z)).symm) q'
theorem Go.acmp_ne (S : St p l e R s m args below meth c Z own bytes nl ret nm h0 ws T h locs cells slots) {x y : Value} {o : Int} {pt : Nat} (hd : decode bytes pc = .ok (.if_acmp .ne o, 3)) (ht : (pc : Int) + o = (pt : Int)) (hf : pc + 3 = pc') (rx : x.isRef = true) (ry : y.isRef = true) (ky : ¬ x = y → Go p e below P T (mkF m pt Ls st)) (kn : x = y → Go p e below P T (mkF m pc' Ls st)) : Go p e below P T (mkF m pc Ls (y :: x :: st)) := by
  subst hf
  by_cases q : x = y
  · exact (kn q).of fun t q' => Jvm.RoadKit.acmp (g := mkF m pc Ls (y :: x :: st)) S.X S.ex rfl rx ry (pc0 := pc) (same := true) rfl (S.hd hd) rfl (decide_eq_true q) (off0 ht) ((if_neg (fun z => nomatch z)).symm) q'
  · exact (ky q).of fun t q' => Jvm.RoadKit.acmp (g := mkF m pc Ls (y :: x :: st)) S.X S.ex rfl rx ry (pc0 := pc) (same := false) rfl (S.hd hd) rfl (decide_eq_false q) (off0 ht) ((off1 ht).symm.trans (if_pos rfl).symm) q'
theorem Go.ifnullY (S : St p l e R s m args below meth c Z own bytes nl ret nm h0 ws T h locs cells slots) {o : Int} {pt : Nat} (hd : decode bytes pc = .ok (.ifnull o, 3)) (ht : (pc : Int) + o = (pt : Int)) (k : Go p e below P T (mkF m pt Ls st)) : Go p e below P T (mkF m pc Ls (.null :: st)) :=
  k.of fun t q => XS.ifnullYes S.X.here S.ex rfl (pc0 := pc) rfl (S.hd hd) rfl (off0 ht) (off1 ht) q
theorem Go.ifnullN (S : St p l e R s m args below meth c Z own bytes nl ret nm h0 ws T h locs cells slots) {o : Int} {b : Addr} (hd : decode bytes pc = .ok (.ifnull o, 3)) (hf : pc + 3 = pc') (k : Go p e below P T (mkF m pc' Ls st)) : Go p e below P T (mkF m pc Ls (.ref b :: st)) := by
  subst hf
  exact k.of fun t q => XS.ifnullNo S.X.here S.ex rfl (S.hd hd) rfl q
theorem Go.ifnonnullY (S : St p l e R s m args below meth c Z own bytes nl ret nm h0 ws T h locs cells slots) {o : Int} {pt : Nat} {b : Addr} (hd : decode bytes pc = .ok (.ifnonnull o, 3)) (ht : (pc : Int) + o = (pt : Int)) (k : Go p e below P T (mkF m pt Ls st)) : Go p e below P T (mkF m pc Ls (.ref b :: st)) :=
  k.of fun t q => XS.ifnonnullYes S.X.here S.ex rfl (pc0 := pc) rfl (S.hd hd) rfl (off0 ht) (off1 ht) q
theorem Go.ifnonnullN (S : St p l e R s m args below meth c Z own bytes nl ret nm h0 ws T h locs cells slots) {o : Int} (hd : decode bytes pc = .ok (.ifnonnull o, 3)) (hf : pc + 3 = pc') (k : Go p e below P T (mkF m pc' Ls st)) : Go p e below P T (mkF m pc Ls (.null :: st)) := by
  subst hf
  exact k.of fun t q => XS.ifnonnullNo S.X.here S.ex rfl (S.hd hd) rfl q
theorem Go.ldc (S : St p l e R s m args below meth c Z own bytes nl ret nm h0 ws T h locs cells slots) {index : Nat} {v : Int32} (w : (Jvm.Cond.constant own index v).before a0 Z = true) (hd : decode bytes pc = .ok (.ldc index, 2)) (hp : pc + 2 = pc') (k : Go p e below P T (mkF m pc' Ls (.int v :: st))) : Go p e below P T (mkF m pc Ls st) := by
  subst hp
  exact k.of fun t q => S.X.ldcInt S.ex S.hown (mvT S.hZ w) (g := mkF m pc Ls st) rfl (S.hd hd) _ q
theorem Go.ldc2 (S : St p l e R s m args below meth c Z own bytes nl ret nm h0 ws T h locs cells slots) {index : Nat} {v : Int64} (w : (Jvm.Cond.constantLong own index v).before a0 Z = true) (hd : decode bytes pc = .ok (.ldc2_w index, 3)) (hp : pc + 3 = pc') (k : Go p e below P T (mkF m pc' Ls (.long v :: st))) : Go p e below P T (mkF m pc Ls st) := by
  subst hp
  exact k.of fun t q => S.X.ldc2Long S.ex S.hown (mvT S.hZ w) (g := mkF m pc Ls st) rfl (S.hd hd) _ q
theorem Go.leaves (S : St p l e R s m args below meth c Z own bytes nl ret nm h0 ws T h locs cells slots) {kc ks : Nat} {Q : Option Value → Heap → Prop} {g : JFrame} {v : Option Value} (hv : ret = none → v = none) (hc : cells ≤ kc) (hs : slots ≤ ks)
    (step : ∀ fs : List Frame, (∀ (f : JFrame) (acts : List Action), f.method = m → f.locked = none → f.entered = [] → (doReturn e (T.setTop f) acts v).1 = T.setFrames fs) → Steps p.tables e below (T.setTop g) (T.setFrames fs)) (q : Q v h) : Go p e below (PostOf Z s h0 ws kc ks Q) T g := by
  obtain ⟨fs, hr, hrun, hended, hW, hsame⟩ := S.X.leave (v := v) (fun q => hv (S.hret ▸ q)) S.locks
  refine ⟨_, _, step fs hr, hrun, hended, v, locs, rfl, ⟨S.fr, ?_, ?_, ?_⟩, ⟨_, rfl⟩, hW, hsame.mono hc hs⟩
  · show Keep h0 T.heap ws
    rw [S.eT]; exact S.keep
  · show Ext Z.heap T.heap
    rw [S.eT]; exact S.ext
  · show Q v T.heap
    rw [S.eT]; exact q
theorem St.leaves0 (S : St p l e R s m args below meth c Z own bytes nl ret nm h0 ws T h locs cells slots) {kc ks : Nat} {Q : Option Value → Heap → Prop} {g : JFrame} {w : Value} {t : FieldType} (hret : ret = some t) (hc : cells ≤ kc) (hs : slots ≤ ks) (q : Q (some w) h)
    (step : ∀ fs : List Frame, (∀ (f : JFrame) (acts : List Action), f.method = m → f.locked = none → f.entered = [] → (doReturn e (T.setTop f) acts (some w)).1 = T.setFrames fs) → Steps p.tables e below (T.setTop g) (T.setFrames fs)) : Go p e below (PostOf Z s h0 ws kc ks Q) T g :=
  Go.leaves S (fun q => by rw [hret] at q; cases q) hc hs step q
theorem narrow_ref {t : FieldType} {w : Value} (ht : t.isReference = true) (hw : w.isRef = true) : narrow t w = w := by
  rcases ref_cases hw with rfl | ⟨a, rfl⟩ <;> cases t <;> rfl
theorem Go.ireturn (S : St p l e R s m args below meth c Z own bytes nl ret nm h0 ws T h locs cells slots) {kc ks : Nat} {Q : Option Value → Heap → Prop} {z : Int32} (hret : ret = some .int) (hd : decode bytes pc = .ok (.ireturn, 1)) (hc : cells ≤ kc) (hs : slots ≤ ks) (q : Q (some (.int z)) h) : Go p e below (PostOf Z s h0 ws kc ks Q) T (mkF m pc Ls (.int z :: st)) :=
  S.leaves0 hret hc hs q fun fs hr => retOut S.X S.ex (t := .int) (i := .ireturn) (S.hret.trans hret) rfl (Or.inl ⟨rfl, Or.inl rfl, z, rfl⟩) (S.hd hd) hr
theorem Go.lreturn (S : St p l e R s m args below meth c Z own bytes nl ret nm h0 ws T h locs cells slots) {kc ks : Nat} {Q : Option Value → Heap → Prop} {z : Int64} (hret : ret = some .long) (hd : decode bytes pc = .ok (.lreturn, 1)) (hc : cells ≤ kc) (hs : slots ≤ ks) (q : Q (some (.long z)) h) : Go p e below (PostOf Z s h0 ws kc ks Q) T (mkF m pc Ls (.long z :: st)) :=
  S.leaves0 hret hc hs q fun fs hr => retOut S.X S.ex (t := .long) (i := .lreturn) (S.hret.trans hret) rfl (Or.inr (Or.inl ⟨rfl, rfl, z, rfl⟩)) (S.hd hd) hr
theorem Go.areturn (S : St p l e R s m args below meth c Z own bytes nl ret nm h0 ws T h locs cells slots) {kc ks : Nat} {Q : Option Value → Heap → Prop} {w : Value} {t : FieldType} (hret : ret = some t) (ht : t.isReference = true) (hw : w.isRef = true) (hd : decode bytes pc = .ok (.areturn, 1)) (hc : cells ≤ kc) (hs : slots ≤ ks) (q : Q (some w) h) : Go p e below (PostOf Z s h0 ws kc ks Q) T (mkF m pc Ls (w :: st)) :=
  S.leaves0 hret hc hs q fun fs hr => retOut S.X S.ex (i := .areturn) (S.hret.trans hret) (narrow_ref ht hw) (Or.inr (Or.inr (Or.inr (Or.inr ⟨rfl, ht, hw⟩)))) (S.hd hd) hr
theorem Go.zreturn (S : St p l e R s m args below meth c Z own bytes nl ret nm h0 ws T h locs cells slots) {kc ks : Nat} {Q : Option Value → Heap → Prop} {z z' : Int32} {t : FieldType} (hret : ret = some t) (ht : t = .boolean ∨ t = .byte ∨ t = .char ∨ t = .short) (hd : decode bytes pc = .ok (.ireturn, 1)) (hz : nar t z = z') (hc : cells ≤ kc) (hs : slots ≤ ks) (q : Q (some (.int z')) h) : Go p e below (PostOf Z s h0 ws kc ks Q) T (mkF m pc Ls (.int z :: st)) := by
  subst hz
  exact S.leaves0 hret hc hs q fun fs hr => retN S.X S.ex (S.hret.trans hret) ht (S.hd hd) hr
theorem Go.vreturn (S : St p l e R s m args below meth c Z own bytes nl ret nm h0 ws T h locs cells slots) {kc ks : Nat} {Q : Option Value → Heap → Prop} (hret : ret = none) (hd : decode bytes pc = .ok (.return_, 1)) (hc : cells ≤ kc) (hs : slots ≤ ks) (q : Q none h) : Go p e below (PostOf Z s h0 ws kc ks Q) T (mkF m pc Ls []) :=
  Go.leaves S (fun _ => rfl) hc hs (fun fs hr => S.X.returnOut S.ex (S.hret.trans hret) (S.hd hd) hr) q
theorem Go.getfield (S : St p l e R s m args below meth c Z own bytes nl ret nm h0 ws T h locs cells slots) {R0 O n d host : String} {index : Nat} {a : Addr} {v : Value} (w : ((Jvm.Cond.fieldLink own index R0 n d).before a0 Z = true ∨ (Jvm.Cond.fieldLinkNest own index R0 n d host).before a0 Z = true)) (via : Via Z R0 O n d) (F : Fld Z h a O n d v) (hd : decode bytes pc = .ok (.getfield index, 3)) (hp : pc + 3 = pc')
    (k : ∀ T', St p l e R s m args below meth c Z own bytes nl ret nm h0 ws T' h locs cells slots → Go p e below P T' (mkF m pc' Ls (v :: st))) : Go p e below P T (mkF m pc Ls (.ref a :: st)) := by
  subst hp
  obtain ⟨T', X', e', f⟩ := getF S.X S.ex S.hZ S.hown w via S.eT F (g := mkF m pc Ls (.ref a :: st)) rfl rfl (S.hd hd)
  exact (k T' (S.next X' e' S.fr S.keep S.ext)).of f
theorem Go.getstatic (S : St p l e R s m args below meth c Z own bytes nl ret nm h0 ws T h locs cells slots) {R0 O n d host : String} {index : Nat} {v : Value} (w : ((Jvm.Cond.fieldLink own index R0 n d).before a0 Z = true ∨ (Jvm.Cond.fieldLinkNest own index R0 n d host).before a0 Z = true)) (via : Via Z R0 O n d) (F : Sta Z Z.heap O n d v) (hd : decode bytes pc = .ok (.getstatic index, 3)) (hp : pc + 3 = pc')
    (k : ∀ T', St p l e R s m args below meth c Z own bytes nl ret nm h0 ws T' h locs cells slots → Go p e below P T' (mkF m pc' Ls (v :: st))) : Go p e below P T (mkF m pc Ls st) := by
  subst hp
  obtain ⟨T', X', e', f⟩ := getS2 S.X S.ex S.hZ S.hown w via S.eT (F.ext S.ext) (g := mkF m pc Ls st) rfl (S.hd hd)
  exact (k T' (S.next X' e' S.fr S.keep S.ext)).of f
theorem St.wrote (S : St p l e R s m args below meth c Z own bytes nl ret nm h0 ws T h locs cells slots) {T' : State} {h' : Heap} {a : Addr} {sl : Nat} {v : Value} (X : Stand p l e R s m args below meth c T' (locs ++ [⟨a, sl⟩]) cells slots) (e1 : T'.heap = h') (W : Wr h h' a sl v) (hz : Z.heap.size ≤ a) (hws : a ∈ ws ∨ h0.size ≤ a) : St p l e R s m args below meth c Z own bytes nl ret nm h0 ws T' h' (locs ++ [⟨a, sl⟩]) cells slots :=
  S.next X e1 (Fr.snoc X S.fr hz) (S.keep.wr W hws) (Old.wr (n0 := Z.heap.size) ⟨rfl, S.ext⟩ W hz).2
theorem Go.putfield (S : St p l e R s m args below meth c Z own bytes nl ret nm h0 ws T h locs cells slots) {R0 O n d host C : String} {index kk : Nat} {ty : FieldType} {a : Addr} {v old : Value} (w : ((Jvm.Cond.fieldLink own index R0 n d).before a0 Z = true ∨ (Jvm.Cond.fieldLinkNest own index R0 n d host).before a0 Z = true)) (via : Via Z R0 O n d) (F : Fld Z h a O n d old) (E : Exa Z h a C)
    (L : (Jvm.Cond.lays C O n d).before a0 Z = true ∨ ((Jvm.Cond.laysFinal C O n d).before a0 Z = true ∧ own = O ∧ nm = "<init>")) (wi : (Jvm.Cond.instantiable C kk).before a0 Z = true) (hty : parseFieldDescriptor d = some ty) (hn : narrow ty v = v) (hf : fits ty v = true)
    (hz : Z.heap.size ≤ a) (hws : a ∈ ws ∨ h0.size ≤ a) (hd : decode bytes pc = .ok (.putfield index, 3)) (hp : pc + 3 = pc')
    (k : ∀ T' h' locs', St p l e R s m args below meth c Z own bytes nl ret nm h0 ws T' h' locs' cells slots → Wr h h' a (Jvm.RoadKit.slotOf Z O n d) v → Go p e below P T' (mkF m pc' Ls st)) : Go p e below P T (mkF m pc Ls (v :: .ref a :: st)) := by
  subst hp
  obtain ⟨T', h', X', e', W, f⟩ := putF S.X S.ex S.hZ S.hown w via S.eT F E (L.imp id fun q => ⟨q.1, q.2.1, S.hnm.trans q.2.2⟩) wi hty hn hf (g := mkF m pc Ls (v :: .ref a :: st)) rfl rfl (S.hd hd)
  exact (k T' h' _ (S.wrote X' e' W hz hws) W).of f
theorem Go.putfieldN (S : St p l e R s m args below meth c Z own bytes nl ret nm h0 ws T h locs cells slots) {R0 O n d C : String} {index kk : Nat} {ty : FieldType} {a : Addr} {v v' old : Value} (w : (Jvm.Cond.fieldLink own index R0 n d).before a0 Z = true) (via : Via Z R0 O n d) (F : Fld Z h a O n d old) (E : Exa Z h a C)
    (L : (Jvm.Cond.lays C O n d).before a0 Z = true ∨ ((Jvm.Cond.laysFinal C O n d).before a0 Z = true ∧ own = O ∧ nm = "<init>")) (wi : (Jvm.Cond.instantiable C kk).before a0 Z = true) (hty : parseFieldDescriptor d = some ty) (hn : narrow ty v = v') (hf : fits ty v' = true)
    (hz : Z.heap.size ≤ a) (hws : a ∈ ws ∨ h0.size ≤ a) (hd : decode bytes pc = .ok (.putfield index, 3)) (hp : pc + 3 = pc')
    (k : ∀ T' h' locs', St p l e R s m args below meth c Z own bytes nl ret nm h0 ws T' h' locs' cells slots → Wr h h' a (Jvm.RoadKit.slotOf Z O n d) v' → Go p e below P T' (mkF m pc' Ls st)) : Go p e below P T (mkF m pc Ls (v :: .ref a :: st)) := by
  subst hp
  obtain ⟨T', h', X', e', W, f⟩ := putFN S.X S.ex S.hZ S.hown w via S.eT F E (L.imp id fun q => ⟨q.1, q.2.1, S.hnm.trans q.2.2⟩) wi hty hn hf (g := mkF m pc Ls (v :: .ref a :: st)) rfl rfl (S.hd hd)
  exact (k T' h' _ (S.wrote X' e' W hz hws) W).of f
theorem St.made (S : St p l e R s m args below meth c Z own bytes nl ret nm h0 ws T h locs cells slots) {T' : State} {h' : Heap} {cells' slots' : Nat} (X : Stand p l e R s m args below meth c T' locs cells' slots') (e1 : T'.heap = h') (E : Ext h h') : St p l e R s m args below meth c Z own bytes nl ret nm h0 ws T' h' locs cells' slots' :=
  S.next X e1 S.fr (S.keep.ext E) (Old.ext (n0 := Z.heap.size) ⟨rfl, S.ext⟩ E).2
theorem Go.new (S : St p l e R s m args below meth c Z own bytes nl ret nm h0 ws T h locs cells slots) {C : String} {index n : Nat} (w : (Jvm.Cond.classLink own index C).before a0 Z = true) (wi : (Jvm.Cond.instantiable C n).before a0 Z = true) (wz : (Jvm.Cond.initialized C).before a0 Z = true) (hd : decode bytes pc = .ok (.new index, 3)) (hc : cells + 1 ≤ R.cells) (hl : slots + n ≤ R.slots) (hp : pc + 3 = pc')
    (k : ∀ T' h' a, St p l e R s m args below meth c Z own bytes nl ret nm h0 ws T' h' locs (cells + 1) (slots + n) → Ext h h' → h.size = a → Z.heap.size ≤ a → h0.size ≤ a → Exa Z h' a C → (∀ {O nm d : String} {ty : FieldType}, Laid Z a0 C O nm d → parseFieldDescriptor d = some ty → Fld Z h' a O nm d (defaultValue ty)) → Go p e below P T' (mkF m pc' Ls (.ref a :: st))) : Go p e below P T (mkF m pc Ls st) := by
  subst hp
  obtain ⟨T', h', X', e', E, A, D, -, f⟩ := newO S.X S.ex S.hZ S.hown w wi wz S.eT (g := mkF m pc Ls st) rfl (S.hd hd) hc hl
  exact (k T' h' h.size (S.made X' e' E) E rfl S.ext.1 S.keep.1 A D).of f
theorem Go.newarray (S : St p l e R s m args below meth c Z own bytes nl ret nm h0 ws T h locs cells slots) {aty : ArrayType} {n : Int32} {cap : Nat} {ty : FieldType} {dv : Value} (hty : newarray.typeOf aty = ty) (hdv : defaultValue ty = dv) (w : (Jvm.Cond.arrayClass ty).before a0 Z = true) (hd : decode bytes pc = .ok (.newarray aty, 2)) (hn : ¬ n < 0) (hcap : n.toNatClampNeg ≤ cap) (hb : cap * 8 ≤ 536870912) (hc : cells + 1 ≤ R.cells) (hl : slots + cap ≤ R.slots) (hp : pc + 2 = pc')
    (k : ∀ T' h' a cA, St p l e R s m args below meth c Z own bytes nl ret nm h0 ws T' h' locs (cells + 1) (slots + cap) → Ext h h' → h.size = a → Z.heap.size ≤ a → h0.size ≤ a → Arv Z h' a cA ty n (List.replicate cap dv) dv → Go p e below P T' (mkF m pc' Ls (.ref a :: st))) : Go p e below P T (mkF m pc Ls (.int n :: st)) := by
  subst hp hty hdv
  obtain ⟨T', h', cA, X', e', E, A, f⟩ := newP S.X S.ex S.hZ w S.eT (g := mkF m pc Ls (.int n :: st)) rfl (S.hd hd) rfl hn hcap hb hc hl
  exact (k T' h' h.size cA (S.made X' e' E) E rfl S.ext.1 S.keep.1 ((Arv.new A hn).pad (pad_rep [] _ cap))).of f
theorem Go.anewarray (S : St p l e R s m args below meth c Z own bytes nl ret nm h0 ws T h locs cells slots) {C : String} {index : Nat} {n : Int32} {cap : Nat} (w1 : (Jvm.Cond.classLink own index C).before a0 Z = true) (w2 : (Jvm.Cond.arrayOver (.object C)).before a0 Z = true) (hd : decode bytes pc = .ok (.anewarray index, 3)) (hn : ¬ n < 0) (hcap : n.toNatClampNeg ≤ cap) (hb : cap * 8 ≤ 536870912) (hc : cells + 1 ≤ R.cells) (hl : slots + cap ≤ R.slots) (hp : pc + 3 = pc')
    (k : ∀ T' h' a cA, St p l e R s m args below meth c Z own bytes nl ret nm h0 ws T' h' locs (cells + 1) (slots + cap) → Ext h h' → h.size = a → Z.heap.size ≤ a → h0.size ≤ a → Arv Z h' a cA (.object C) n (List.replicate cap .null) .null → Ovr Z cA C → Go p e below P T' (mkF m pc' Ls (.ref a :: st))) : Go p e below P T (mkF m pc Ls (.int n :: st)) := by
  subst hp
  obtain ⟨T', h', cA, X', e', E, A, O, f⟩ := newR S.X S.ex S.hZ S.hown w1 w2 S.eT (g := mkF m pc Ls (.int n :: st)) rfl (S.hd hd) rfl hn hcap hb hc hl
  exact (k T' h' h.size cA (S.made X' e' E) E rfl S.ext.1 S.keep.1 ((Arv.new A hn).pad (pad_rep [] _ cap)) O).of f
theorem Go.iastore (S : St p l e R s m args below meth c Z own bytes nl ret nm h0 ws T h locs cells slots) {a : Addr} {kA : ClassId} {n j : Int32} {x : Int32} {vs : List Value} {dv : Value} {i : Nat} (V : Arv Z h a kA .int n vs dv) (hj : ¬ j < 0 ∧ j < n) (hi : j.toNatClampNeg = i) (hl : i < vs.length) (hz : Z.heap.size ≤ a) (hws : a ∈ ws ∨ h0.size ≤ a) (hd : decode bytes pc = .ok (.iastore, 1)) (hp : pc + 1 = pc')
    (k : ∀ T' h' locs', St p l e R s m args below meth c Z own bytes nl ret nm h0 ws T' h' locs' cells slots → Wr h h' a j.toNatClampNeg (.int x) → Arv Z h' a kA .int n (vs.set i (.int x)) dv → Go p e below P T' (mkF m pc' Ls st)) : Go p e below P T (mkF m pc Ls (.int x :: .int j :: .ref a :: st)) := by
  subst hp
  obtain ⟨cl, A, q1, q2, q3, H, F⟩ := V
  obtain ⟨T', h', X', e', W, f⟩ := stI S.X S.ex S.hZ S.eT A (j := j) (x := x) (inb_of q2 hj) (g := mkF m pc Ls (.int x :: .int j :: .ref a :: st)) rfl rfl (S.hd hd)
  exact (k T' h' _ (S.wrote X' e' W hz hws) W (Arv.set A q1 q2 q3 H F rfl W i hi hl)).of f
theorem Go.castore (S : St p l e R s m args below meth c Z own bytes nl ret nm h0 ws T h locs cells slots) {a : Addr} {kA : ClassId} {n j : Int32} {x : Int32} {vs : List Value} {dv : Value} {i : Nat} (V : Arv Z h a kA .char n vs dv) (hj : ¬ j < 0 ∧ j < n) (hi : j.toNatClampNeg = i) (hl : i < vs.length) (hz : Z.heap.size ≤ a) (hws : a ∈ ws ∨ h0.size ≤ a) (hd : decode bytes pc = .ok (.castore, 1)) (hp : pc + 1 = pc')
    (k : ∀ T' h' locs', St p l e R s m args below meth c Z own bytes nl ret nm h0 ws T' h' locs' cells slots → Wr h h' a j.toNatClampNeg (.int (nar .char x)) → Arv Z h' a kA .char n (vs.set i (.int (nar .char x))) dv → Go p e below P T' (mkF m pc' Ls st)) : Go p e below P T (mkF m pc Ls (.int x :: .int j :: .ref a :: st)) := by
  subst hp
  obtain ⟨cl, A, q1, q2, q3, H, F⟩ := V
  obtain ⟨T', h', X', e', W, f⟩ := stC S.X S.ex S.hZ S.eT A (j := j) (x := x) (inb_of q2 hj) (g := mkF m pc Ls (.int x :: .int j :: .ref a :: st)) rfl rfl (S.hd hd)
  exact (k T' h' _ (S.wrote X' e' W hz hws) W (Arv.set A q1 q2 q3 H F (fits_nar_char _) W i hi hl)).of f
theorem Go.bastore (S : St p l e R s m args below meth c Z own bytes nl ret nm h0 ws T h locs cells slots) {a : Addr} {kA : ClassId} {n j : Int32} {x : Int32} {vs : List Value} {dv : Value} {i : Nat} (V : Arv Z h a kA .byte n vs dv) (hj : ¬ j < 0 ∧ j < n) (hi : j.toNatClampNeg = i) (hl : i < vs.length) (hz : Z.heap.size ≤ a) (hws : a ∈ ws ∨ h0.size ≤ a) (hd : decode bytes pc = .ok (.bastore, 1)) (hp : pc + 1 = pc')
    (k : ∀ T' h' locs', St p l e R s m args below meth c Z own bytes nl ret nm h0 ws T' h' locs' cells slots → Wr h h' a j.toNatClampNeg (.int (nar .byte x)) → Arv Z h' a kA .byte n (vs.set i (.int (nar .byte x))) dv → Go p e below P T' (mkF m pc' Ls st)) : Go p e below P T (mkF m pc Ls (.int x :: .int j :: .ref a :: st)) := by
  subst hp
  obtain ⟨cl, A, q1, q2, q3, H, F⟩ := V
  obtain ⟨T', h', X', e', W, f⟩ := stB S.X S.ex S.hZ S.eT A (j := j) (x := x) (inb_of q2 hj) (g := mkF m pc Ls (.int x :: .int j :: .ref a :: st)) rfl rfl (S.hd hd)
  exact (k T' h' _ (S.wrote X' e' W hz hws) W (Arv.set A q1 q2 q3 H F (fits_nar_byte _) W i hi hl)).of f
theorem Go.lastore (S : St p l e R s m args below meth c Z own bytes nl ret nm h0 ws T h locs cells slots) {a : Addr} {kA : ClassId} {n j : Int32} {x : Int64} {vs : List Value} {dv : Value} {i : Nat} (V : Arv Z h a kA .long n vs dv) (hj : ¬ j < 0 ∧ j < n) (hi : j.toNatClampNeg = i) (hl : i < vs.length) (hz : Z.heap.size ≤ a) (hws : a ∈ ws ∨ h0.size ≤ a) (hd : decode bytes pc = .ok (.lastore, 1)) (hp : pc + 1 = pc')
    (k : ∀ T' h' locs', St p l e R s m args below meth c Z own bytes nl ret nm h0 ws T' h' locs' cells slots → Wr h h' a j.toNatClampNeg (.long x) → Arv Z h' a kA .long n (vs.set i (.long x)) dv → Go p e below P T' (mkF m pc' Ls st)) : Go p e below P T (mkF m pc Ls (.long x :: .int j :: .ref a :: st)) := by
  subst hp
  obtain ⟨cl, A, q1, q2, q3, H, F⟩ := V
  obtain ⟨T', h', X', e', W, f⟩ := stJ S.X S.ex S.hZ S.eT A (j := j) (x := x) (inb_of q2 hj) (g := mkF m pc Ls (.long x :: .int j :: .ref a :: st)) rfl rfl (S.hd hd)
  exact (k T' h' _ (S.wrote X' e' W hz hws) W (Arv.set A q1 q2 q3 H F rfl W i hi hl)).of f
theorem Go.aastore (S : St p l e R s m args below meth c Z own bytes nl ret nm h0 ws T h locs cells slots) {a : Addr} {kA : ClassId} {ty : FieldType} {n j : Int32} {v : Value} {vs : List Value} {dv : Value} {i : Nat} (V : Arv Z h a kA ty n vs dv) (hty : ty.isReference = true) (hj : ¬ j < 0 ∧ j < n) (hi : j.toNatClampNeg = i) (hl : i < vs.length) (hfit : fits ty v = true) (F : Sto Z h a v) (hz : Z.heap.size ≤ a) (hws : a ∈ ws ∨ h0.size ≤ a) (hd : decode bytes pc = .ok (.aastore, 1)) (hp : pc + 1 = pc')
    (k : ∀ T' h' locs', St p l e R s m args below meth c Z own bytes nl ret nm h0 ws T' h' locs' cells slots → Wr h h' a j.toNatClampNeg v → Arv Z h' a kA ty n (vs.set i v) dv → Go p e below P T' (mkF m pc' Ls st)) : Go p e below P T (mkF m pc Ls (v :: .int j :: .ref a :: st)) := by
  subst hp
  obtain ⟨cl, A, q1, q2, q3, H, F'⟩ := V
  obtain ⟨T', h', X', e', W, f⟩ := stR S.X S.ex S.hZ S.eT A (j := j) (v := v) (inb_of q2 hj) hty F (g := mkF m pc Ls (v :: .int j :: .ref a :: st)) rfl rfl (S.hd hd)
  exact (k T' h' _ (S.wrote X' e' W hz hws) W (Arv.set A q1 q2 q3 H F' hfit W i hi hl)).of f
theorem Go.iaload (S : St p l e R s m args below meth c Z own bytes nl ret nm h0 ws T h locs cells slots) {a : Addr} {kA : ClassId} {n j : Int32} {v : Value} {vs : List Value} {dv : Value} (V : Arv Z h a kA .int n vs dv) (hj : ¬ j < 0 ∧ j < n) (hv : vs.getD j.toNatClampNeg dv = v) (hd : decode bytes pc = .ok (.iaload, 1)) (hp : pc + 1 = pc') (k : Go p e below P T (mkF m pc' Ls (v :: st))) : Go p e below P T (mkF m pc Ls (.int j :: .ref a :: st)) := by
  subst hp
  obtain ⟨cl, A, q1, q2, q3, H, F⟩ := V
  exact k.of fun t q => S.X.iaload S.ex (j := j) (v := v) (by rw [S.eT]; exact A.1) (State.isArrayOf_alike S.hZ.alike A.2.1) A.2.2 (inb_of q2 hj) (H.at (inb_of q2 hj) hv) (g := mkF m pc Ls (.int j :: .ref a :: st)) rfl rfl (S.hd hd) _ q
theorem Go.laload (S : St p l e R s m args below meth c Z own bytes nl ret nm h0 ws T h locs cells slots) {a : Addr} {kA : ClassId} {n j : Int32} {v : Value} {vs : List Value} {dv : Value} (V : Arv Z h a kA .long n vs dv) (hj : ¬ j < 0 ∧ j < n) (hv : vs.getD j.toNatClampNeg dv = v) (hd : decode bytes pc = .ok (.laload, 1)) (hp : pc + 1 = pc') (k : Go p e below P T (mkF m pc' Ls (v :: st))) : Go p e below P T (mkF m pc Ls (.int j :: .ref a :: st)) := by
  subst hp
  obtain ⟨cl, A, q1, q2, q3, H, F⟩ := V
  exact k.of fun t q => S.X.laload S.ex (j := j) (v := v) (by rw [S.eT]; exact A.1) (State.isArrayOf_alike S.hZ.alike A.2.1) A.2.2 (inb_of q2 hj) (H.at (inb_of q2 hj) hv) (g := mkF m pc Ls (.int j :: .ref a :: st)) rfl rfl (S.hd hd) _ q
theorem Go.caload (S : St p l e R s m args below meth c Z own bytes nl ret nm h0 ws T h locs cells slots) {a : Addr} {kA : ClassId} {n j : Int32} {v : Value} {vs : List Value} {dv : Value} (V : Arv Z h a kA .char n vs dv) (hj : ¬ j < 0 ∧ j < n) (hv : vs.getD j.toNatClampNeg dv = v) (hd : decode bytes pc = .ok (.caload, 1)) (hp : pc + 1 = pc') (k : Go p e below P T (mkF m pc' Ls (v :: st))) : Go p e below P T (mkF m pc Ls (.int j :: .ref a :: st)) := by
  subst hp
  obtain ⟨cl, A, q1, q2, q3, H, F⟩ := V
  exact k.of fun t q => S.X.caload S.ex (j := j) (v := v) (by rw [S.eT]; exact A.1) (State.isArrayOf_alike S.hZ.alike A.2.1) A.2.2 (inb_of q2 hj) (H.at (inb_of q2 hj) hv) (g := mkF m pc Ls (.int j :: .ref a :: st)) rfl rfl (S.hd hd) _ q
theorem Go.baload (S : St p l e R s m args below meth c Z own bytes nl ret nm h0 ws T h locs cells slots) {a : Addr} {kA : ClassId} {n j : Int32} {v : Value} {vs : List Value} {dv : Value} (V : Arv Z h a kA .byte n vs dv) (hj : ¬ j < 0 ∧ j < n) (hv : vs.getD j.toNatClampNeg dv = v) (hd : decode bytes pc = .ok (.baload, 1)) (hp : pc + 1 = pc') (k : Go p e below P T (mkF m pc' Ls (v :: st))) : Go p e below P T (mkF m pc Ls (.int j :: .ref a :: st)) := by
  subst hp
  obtain ⟨cl, A, q1, q2, q3, H, F⟩ := V
  exact k.of fun t q => S.X.baloadBytes S.ex (j := j) (v := v) (by rw [S.eT]; exact A.1) (State.isArrayOf_alike S.hZ.alike A.2.1) A.2.2 (inb_of q2 hj) (H.at (inb_of q2 hj) hv) (g := mkF m pc Ls (.int j :: .ref a :: st)) rfl rfl (S.hd hd) _ q
theorem Go.aaload (S : St p l e R s m args below meth c Z own bytes nl ret nm h0 ws T h locs cells slots) {a : Addr} {kA : ClassId} {ty : FieldType} {n j : Int32} {v : Value} {vs : List Value} {dv : Value} (V : Arv Z h a kA ty n vs dv) (hty : ty.isReference = true) (hj : ¬ j < 0 ∧ j < n) (hv : vs.getD j.toNatClampNeg dv = v) (hd : decode bytes pc = .ok (.aaload, 1)) (hp : pc + 1 = pc') (k : Go p e below P T (mkF m pc' Ls (v :: st))) : Go p e below P T (mkF m pc Ls (.int j :: .ref a :: st)) := by
  subst hp
  obtain ⟨cl, A, q1, q2, q3, H, F⟩ := V
  exact k.of fun t q => S.X.aaload S.ex (j := j) (v := v) (by rw [S.eT]; exact A.1) (State.isArrayOf_alike S.hZ.alike A.2.1) hty A.2.2 (inb_of q2 hj) (H.at (inb_of q2 hj) hv) (g := mkF m pc Ls (.int j :: .ref a :: st)) rfl rfl (S.hd hd) _ q
theorem Go.arraylength (S : St p l e R s m args below meth c Z own bytes nl ret nm h0 ws T h locs cells slots) {a : Addr} {kA : ClassId} {ty : FieldType} {n : Int32} {vs : List Value} {dv : Value} (V : Arv Z h a kA ty n vs dv) (hd : decode bytes pc = .ok (.arraylength, 1)) (hp : pc + 1 = pc') (k : Go p e below P T (mkF m pc' Ls (.int n :: st))) : Go p e below P T (mkF m pc Ls (.ref a :: st)) := by
  subst hp
  obtain ⟨cl, A, q1, q2, q3, H, F⟩ := V
  exact k.of fun t q => S.X.arraylength S.ex (by rw [S.eT]; exact A.1) (State.isArrayOf_alike S.hZ.alike A.2.1) (g := mkF m pc Ls (.ref a :: st)) rfl rfl (S.hd hd) _ (by rw [len_of q2 q3]; exact q)
theorem Go.initObject (S : St p l e R s m args below meth c Z own bytes nl ret nm h0 ws T h locs cells slots) {idx : Nat} {a : Addr} {W : Nat} (w1 : (Jvm.Cond.methodLink own idx Lib.objectInit).before a0 Z = true) (w2 : (Jvm.Cond.instanceMethod Lib.objectInit).before a0 Z = true) (w3 : (Jvm.Cond.code Lib.objectInit ⟨#[0xb1]⟩ 1 none).before a0 Z = true) (hd : decode bytes pc = .ok (.invokespecial idx, 3)) (hsz : Ls.size = nl) (hf : 1 ≤ R.frames) (hW : (st.map fun v => v.category).sum = W) (hl : W + 12 ≤ R.locals) (hp : pc + 3 = pc')
    (k : ∀ T', St p l e R s m args below meth c Z own bytes nl ret nm h0 ws T' h locs cells slots → Go p e below P T' (mkF m pc' Ls st)) : Go p e below P T (mkF m pc Ls (.ref a :: st)) := by
  subst hp
  obtain ⟨T', X', e', f⟩ := initO S.X S.ex S.hZ S.hown w1 w2 w3 S.eT (g := mkF m pc Ls (.ref a :: st)) rfl (hsz.trans S.hnl.symm) rfl (S.hd hd) hf (W := W) (by show 2 * 0 + _ ≤ _; rw [hW]; omega) hl
  exact (k T' (S.next X' e' S.fr S.keep S.ext)).of f
theorem Go.checkcast (S : St p l e R s m args below meth c Z own bytes nl ret nm h0 ws T h locs cells slots) {C : String} {index : Nat} {a : Addr} (w : (Jvm.Cond.classLink own index C).before a0 Z = true) (F : Ins Z h a C true) (hd : decode bytes pc = .ok (.checkcast index, 3)) (hp : pc + 3 = pc')
    (k : ∀ T', St p l e R s m args below meth c Z own bytes nl ret nm h0 ws T' h locs cells slots → Go p e below P T' (mkF m pc' Ls (.ref a :: st))) : Go p e below P T (mkF m pc Ls (.ref a :: st)) := by
  subst hp
  obtain ⟨T', X', e', f⟩ := castY S.X S.ex S.hZ S.hown w S.eT F (g := mkF m pc Ls (.ref a :: st)) rfl rfl (S.hd hd)
  exact (k T' (S.next X' e' S.fr S.keep S.ext)).of f
theorem Go.instanceofY (S : St p l e R s m args below meth c Z own bytes nl ret nm h0 ws T h locs cells slots) {C : String} {index : Nat} {a : Addr} (w : (Jvm.Cond.classLink own index C).before a0 Z = true) (F : Ins Z h a C true) (hd : decode bytes pc = .ok (.instanceof index, 3)) (hp : pc + 3 = pc')
    (k : ∀ T', St p l e R s m args below meth c Z own bytes nl ret nm h0 ws T' h locs cells slots → Go p e below P T' (mkF m pc' Ls (.int 1 :: st))) : Go p e below P T (mkF m pc Ls (.ref a :: st)) := by
  subst hp
  obtain ⟨T', X', e', f⟩ := instY S.X S.ex S.hZ S.hown w S.eT F (g := mkF m pc Ls (.ref a :: st)) rfl rfl (S.hd hd)
  exact (k T' (S.next X' e' S.fr S.keep S.ext)).of f
theorem Go.invokestatic (S : St p l e R s m args below meth c Z own bytes nl ret nm h0 ws T h locs cells slots) {y : MethodName} {bytes' : ByteArray} {nl' : Nat} {ret' : Option FieldType} {rm : Room} {as' : Array Value} {ws' : List Addr} {Q' : Option Value → Heap → Prop} {index W : Nat} {ps : List FieldType} {r : Option FieldType} {argsL : List Value} (M : OMeets l Z y bytes' nl' ret' rm as' h ws' Q') (w1 : (Jvm.Cond.methodLink own index y).before a0 Z = true) (w2 : (Jvm.Cond.static y).before a0 Z = true) (w3 : (Jvm.Cond.initialized y.cls).before a0 Z = true) (w4 : (Jvm.Cond.code y bytes' nl' ret').before a0 Z = true) (hy : y.cls ≠ "java/lang/invoke/MethodHandle" ∧ y.cls ≠ "java/lang/invoke/VarHandle") (hd : decode bytes pc = .ok (.invokestatic index, 3)) (hsz : Ls.size = nl) (hlen : parseMethodDescriptor y.desc = some ⟨ps, r⟩) (hn : argsL.length = ps.length) (has : argsL.toArray = as') {stk : List Value} (hstk : stk = argsL.reverse ++ st) (hf : rm.frames + 1 ≤ R.frames) (hW : (st.map fun v => v.category).sum = W) (hl : W + (nl' + 11) + rm.locals ≤ R.locals) (hc : cells + rm.cells ≤ R.cells) (hs : slots + rm.slots ≤ R.slots) (hws : ∀ x ∈ ws', x ∈ ws ∨ h0.size ≤ x) (hp : pc + 3 = pc')
    (k : ∀ v T' h' locs', St p l e R s m args below meth c Z own bytes nl ret nm h0 ws T' h' locs' (cells + rm.cells) (slots + rm.slots) → Keep h h' ws' → Q' v h' → Go p e below P T' (mkF m pc' Ls (v.toList ++ st))) : Go p e below P T (mkF m pc Ls stk) := by
  subst hp hstk
  obtain ⟨v, _, ⟨T', L', k', n'⟩, -, X', ⟨L, hQ, l1, l2, l3⟩, f⟩ := Jvm.LawKit.callS S.X S.ex S.hown (mvT S.hZ w1) (mvT S.hZ w2) (mvT S.hZ w3) (mvT S.hZ w4) hy (backOf (Q := fun v U L => Fr Z.heap.size L ∧ Keep h U ws' ∧ Ext Z.heap U ∧ Q' v U) (W := W) (M []) S.hZ w4 w3 hf hl) (g := mkF m pc Ls (argsL.reverse ++ st)) rfl (hsz.trans S.hnl.symm) (argsL := argsL) (rest := st) (lenOf hlen hn) rfl (by show 2 * 0 + _ ≤ _; rw [hW]; omega) (S.hd hd) (fun _ _ => ⟨has, S.eT, hc, hs⟩)
  dsimp only [Pt.U, Pt.locs, Pt.cells, Pt.slots] at X' l1 l2 l3 hQ f
  subst l1 l2 l3
  obtain ⟨N, K', E', q⟩ := hQ
  exact (k v T' T'.heap _ (S.next X' rfl (S.fr.app N) (S.keep.trans K' hws) E') K' q).of f
theorem Go.invokespecial (S : St p l e R s m args below meth c Z own bytes nl ret nm h0 ws T h locs cells slots) {y : MethodName} {bytes' : ByteArray} {nl' : Nat} {ret' : Option FieldType} {rm : Room} {as' : Array Value} {ws' : List Addr} {Q' : Option Value → Heap → Prop} {index W : Nat} {ps : List FieldType} {r : Option FieldType} {argsL : List Value} {a : Addr} (M : OMeets l Z y bytes' nl' ret' rm as' h ws' Q') (hi : y.name = "<init>") (hr0 : ret' = none) (w1 : (Jvm.Cond.methodLink own index y).before a0 Z = true) (w2 : (Jvm.Cond.instanceMethod y).before a0 Z = true) (w3 : (Jvm.Cond.initialized y.cls).before a0 Z = true) (w4 : (Jvm.Cond.code y bytes' nl' ret').before a0 Z = true) (hy : y.cls ≠ "java/lang/invoke/MethodHandle" ∧ y.cls ≠ "java/lang/invoke/VarHandle") (hd : decode bytes pc = .ok (.invokespecial index, 3)) (hsz : Ls.size = nl) (hlen : parseMethodDescriptor y.desc = some ⟨ps, r⟩) (hn : argsL.length = ps.length) (has : (.ref a :: argsL).toArray = as') {stk : List Value} (hstk : stk = argsL.reverse ++ .ref a :: st) (hf : rm.frames + 1 ≤ R.frames) (hW : (st.map fun v => v.category).sum = W) (hl : W + (nl' + 11) + rm.locals ≤ R.locals) (hc : cells + rm.cells ≤ R.cells) (hs : slots + rm.slots ≤ R.slots) (hws : ∀ x ∈ ws', x ∈ ws ∨ h0.size ≤ x) (hp : pc + 3 = pc')
    (k : ∀ v T' h' locs', St p l e R s m args below meth c Z own bytes nl ret nm h0 ws T' h' locs' (cells + rm.cells) (slots + rm.slots) → Keep h h' ws' → Q' v h' → Go p e below P T' (mkF m pc' Ls (v.toList ++ st))) : Go p e below P T (mkF m pc Ls stk) := by
  subst hp hstk hr0
  obtain ⟨v, _, ⟨T', L', k', n'⟩, -, X', ⟨L, hQ, l1, l2, l3⟩, f⟩ := S.X.specialBack S.ex hi S.hown (mvT S.hZ w1) (mvT S.hZ w2) (mvT S.hZ w4) hy (backOf (Q := fun v U L => Fr Z.heap.size L ∧ Keep h U ws' ∧ Ext Z.heap U ∧ Q' v U) (W := W) (M []) S.hZ w4 w3 hf hl) (g := mkF m pc Ls (argsL.reverse ++ .ref a :: st)) rfl (hsz.trans S.hnl.symm) (Steps.refl _) (a := a) (argsL := argsL) (rest := st) (lenOf hlen hn) rfl (by show 2 * 0 + _ ≤ _; rw [hW]; omega) (S.hd hd) (fun _ _ => ⟨has, S.eT, hc, hs⟩)
  dsimp only [Pt.U, Pt.locs, Pt.cells, Pt.slots] at X' l1 l2 l3 hQ f
  subst l1 l2 l3
  obtain ⟨N, K', E', q⟩ := hQ
  exact (k v T' T'.heap _ (S.next X' rfl (S.fr.app N) (S.keep.trans K' hws) E') K' q).of fun t q => f.trans q
theorem Go.invokevirtual (S : St p l e R s m args below meth c Z own bytes nl ret nm h0 ws T h locs cells slots) {y : MethodName} {bytes' : ByteArray} {nl' : Nat} {ret' : Option FieldType} {rm : Room} {as' : Array Value} {ws' : List Addr} {Q' : Option Value → Heap → Prop} {index W : Nat} {ps : List FieldType} {r : Option FieldType} {argsL : List Value} {a : Addr} {x : MethodName} {C : String} (M : OMeets l Z y bytes' nl' ret' rm as' h ws' Q') (w1 : (Jvm.Cond.methodLink own index x).before a0 Z = true) (w2 : (Jvm.Cond.declares x).before a0 Z = true) (hnf : NotFace s x) (w5 : (Jvm.Cond.selects C x y).before a0 Z = true) (w6 : (Jvm.Cond.instanceMethod y).before a0 Z = true) (w3 : (Jvm.Cond.initialized y.cls).before a0 Z = true) (w4 : (Jvm.Cond.code y bytes' nl' ret').before a0 Z = true) (hy : x.cls ≠ "java/lang/invoke/MethodHandle" ∧ x.cls ≠ "java/lang/invoke/VarHandle") (E : Exa Z h a C) (hd : decode bytes pc = .ok (.invokevirtual index, 3)) (hsz : Ls.size = nl) (hlen : parseMethodDescriptor x.desc = some ⟨ps, r⟩) (hn : argsL.length = ps.length) (has : (.ref a :: argsL).toArray = as') {stk : List Value} (hstk : stk = argsL.reverse ++ .ref a :: st) (hf : rm.frames + 1 ≤ R.frames) (hW : (st.map fun v => v.category).sum = W) (hl : W + (nl' + 11) + rm.locals ≤ R.locals) (hc : cells + rm.cells ≤ R.cells) (hs : slots + rm.slots ≤ R.slots) (hws : ∀ x ∈ ws', x ∈ ws ∨ h0.size ≤ x) (hp : pc + 3 = pc')
    (k : ∀ v T' h' locs', St p l e R s m args below meth c Z own bytes nl ret nm h0 ws T' h' locs' (cells + rm.cells) (slots + rm.slots) → Keep h h' ws' → Q' v h' → Go p e below P T' (mkF m pc' Ls (v.toList ++ st))) : Go p e below P T (mkF m pc Ls stk) := by
  subst hp hstk
  obtain ⟨cq, kq, q1, q2, q3⟩ := isOf S.hZ S.eT E
  obtain ⟨v, _, ⟨T', L', k', n'⟩, -, X', ⟨L, hQ, l1, l2, l3⟩, f⟩ := S.X.virtualBack S.ex S.hown (mvT S.hZ w1) (mvT S.hZ w2) hnf (mvT S.hZ w5) (mvT S.hZ w6) hy (backOf (Q := fun v U L => Fr Z.heap.size L ∧ Keep h U ws' ∧ Ext Z.heap U ∧ Q' v U) (W := W) (M []) S.hZ w4 w3 hf hl) q1 q3 (g := mkF m pc Ls (argsL.reverse ++ .ref a :: st)) rfl (hsz.trans S.hnl.symm) (Steps.refl _) (argsL := argsL) (rest := st) (lenOf hlen hn) rfl (by show 2 * 0 + _ ≤ _; rw [hW]; omega) (S.hd hd) (fun _ _ => ⟨has, S.eT, hc, hs⟩)
  dsimp only [Pt.U, Pt.locs, Pt.cells, Pt.slots] at X' l1 l2 l3 hQ f
  subst l1 l2 l3
  obtain ⟨N, K', E', q⟩ := hQ
  exact (k v T' T'.heap _ (S.next X' rfl (S.fr.app N) (S.keep.trans K' hws) E') K' q).of fun t q => f.trans q
theorem St.nf (S : St p l e R s m args below meth c Z own bytes nl ret nm h0 ws T h locs cells slots) {C : String} {x : MethodName} (w : (Jvm.Cond.selects C x x).before a0 Z = true) : NotFace s x := notFace_of_selects (args := #[]) (mvT S.hZ w)
theorem Go.invokevirtualUp (S : St p l e R s m args below meth c Z own bytes nl ret nm h0 ws T h locs cells slots) {y : MethodName} {bytes' : ByteArray} {nl' : Nat} {ret' : Option FieldType} {rm : Room} {as' : Array Value} {ws' : List Addr} {Q' : Option Value → Heap → Prop} {index W : Nat} {ps : List FieldType} {r : Option FieldType} {argsL : List Value} {a : Addr} {x : MethodName} {C owner : String} (M : OMeets l Z y bytes' nl' ret' rm as' h ws' Q') (w1 : (Jvm.Cond.methodLink own index x).before a0 Z = true) (w2 : (Jvm.Cond.declares ⟨owner, x.name, x.desc⟩).before a0 Z = true) (w7 : (Jvm.Cond.sameMethod x.cls owner x.name x.desc).before a0 Z = true) (w5 : (Jvm.Cond.selects C x y).before a0 Z = true) (w6 : (Jvm.Cond.instanceMethod y).before a0 Z = true) (w3 : (Jvm.Cond.initialized y.cls).before a0 Z = true) (w4 : (Jvm.Cond.code y bytes' nl' ret').before a0 Z = true) (hy : owner ≠ "java/lang/invoke/MethodHandle" ∧ owner ≠ "java/lang/invoke/VarHandle") (E : Exa Z h a C) (hd : decode bytes pc = .ok (.invokevirtual index, 3)) (hsz : Ls.size = nl) (hlen : parseMethodDescriptor x.desc = some ⟨ps, r⟩) (hn : argsL.length = ps.length) (has : (.ref a :: argsL).toArray = as') {stk : List Value} (hstk : stk = argsL.reverse ++ .ref a :: st) (hf : rm.frames + 1 ≤ R.frames) (hW : (st.map fun v => v.category).sum = W) (hl : W + (nl' + 11) + rm.locals ≤ R.locals) (hc : cells + rm.cells ≤ R.cells) (hs : slots + rm.slots ≤ R.slots) (hws : ∀ x ∈ ws', x ∈ ws ∨ h0.size ≤ x) (hp : pc + 3 = pc')
    (k : ∀ v T' h' locs', St p l e R s m args below meth c Z own bytes nl ret nm h0 ws T' h' locs' (cells + rm.cells) (slots + rm.slots) → Keep h h' ws' → Q' v h' → Go p e below P T' (mkF m pc' Ls (v.toList ++ st))) : Go p e below P T (mkF m pc Ls stk) := by
  subst hp hstk
  obtain ⟨cq, kq, q1, q2, q3⟩ := isOf S.hZ S.eT E
  obtain ⟨v, _, ⟨T', L', k', n'⟩, -, X', ⟨L, hQ, l1, l2, l3⟩, f⟩ := S.X.virtualBackUp S.ex S.hown (mvT S.hZ w1) (mvT S.hZ w7) (mvT S.hZ w2) hy (mvT S.hZ w5) (mvT S.hZ w6) (backOf (Q := fun v U L => Fr Z.heap.size L ∧ Keep h U ws' ∧ Ext Z.heap U ∧ Q' v U) (W := W) (M []) S.hZ w4 w3 hf hl) q1 q3 (g := mkF m pc Ls (argsL.reverse ++ .ref a :: st)) rfl (hsz.trans S.hnl.symm) (Steps.refl _) (argsL := argsL) (rest := st) (lenOf hlen hn) rfl (by show 2 * 0 + _ ≤ _; rw [hW]; omega) (S.hd hd) (fun _ _ => ⟨has, S.eT, hc, hs⟩)
  dsimp only [Pt.U, Pt.locs, Pt.cells, Pt.slots] at X' l1 l2 l3 hQ f
  subst l1 l2 l3
  obtain ⟨N, K', E', q⟩ := hQ
  exact (k v T' T'.heap _ (S.next X' rfl (S.fr.app N) (S.keep.trans K' hws) E') K' q).of fun t q => f.trans q
theorem Go.tableswitch (S : St p l e R s m args below meth c Z own bytes nl ret nm h0 ws T h locs cells slots) {dflt low high : Int} {offs : Array Int} {len : Nat} {o : Int} {i : Int32} (hd : decode bytes pc = .ok (.tableswitch dflt low high offs, len)) (hin : ¬ (i.toInt < low ∨ i.toInt > high)) (hoff : offs[(i.toInt - low).toNat]? = some o) (hp : (pc : Int) + o = (pc' : Int)) (k : Go p e below P T (mkF m pc' Ls st)) : Go p e below P T (mkF m pc Ls (.int i :: st)) :=
  k.of fun t q => XS.tswIn S.X.here S.ex rfl (pc0 := pc) rfl (S.hd hd) rfl hin hoff (off0 hp) (off1 hp) q
theorem Go.instanceofN (S : St p l e R s m args below meth c Z own bytes nl ret nm h0 ws T h locs cells slots) {C K : String} {index : Nat} {a : Addr} (w : (Jvm.Cond.classLink own index K).before a0 Z = true) (E : Exa Z h a C) (F : ∃ c t, Z.vm.findClass C = some c ∧ Z.vm.findClass K = some t ∧ Z.vm.assignable c t = false) (hd : decode bytes pc = .ok (.instanceof index, 3)) (hp : pc + 3 = pc')
    (k : ∀ T', St p l e R s m args below meth c Z own bytes nl ret nm h0 ws T' h locs cells slots → Go p e below P T' (mkF m pc' Ls (.int 0 :: st))) : Go p e below P T (mkF m pc Ls (.ref a :: st)) := by
  subst hp
  obtain ⟨T', X', e', f⟩ := instNo S.X S.ex S.hZ S.hown w S.eT E F (g := mkF m pc Ls (.ref a :: st)) rfl rfl (S.hd hd)
  exact (k T' (S.next X' e' S.fr S.keep S.ext)).of f
theorem Go.instanceofNull (S : St p l e R s m args below meth c Z own bytes nl ret nm h0 ws T h locs cells slots) {index : Nat} (hd : decode bytes pc = .ok (.instanceof index, 3)) (hp : pc + 3 = pc') (k : Go p e below P T (mkF m pc' Ls (.int 0 :: st))) : Go p e below P T (mkF m pc Ls (.null :: st)) := by
  subst hp
  exact k.of fun t q => S.X.instanceofNull S.ex (g := mkF m pc Ls (.null :: st)) rfl rfl (S.hd hd) _ q
theorem Go.checkcastNull (S : St p l e R s m args below meth c Z own bytes nl ret nm h0 ws T h locs cells slots) {index : Nat} (hd : decode bytes pc = .ok (.checkcast index, 3)) (hp : pc + 3 = pc') (k : Go p e below P T (mkF m pc' Ls (.null :: st))) : Go p e below P T (mkF m pc Ls (.null :: st)) := by
  subst hp
  exact k.of fun t q => S.X.checkcastNull S.ex (g := mkF m pc Ls (.null :: st)) rfl rfl (S.hd hd) _ q
theorem Go.aaloadA (S : St p l e R s m args below meth c Z own bytes nl ret nm h0 ws T h locs cells slots) {a : Addr} {cl : Cell} {ty : FieldType} {j : Int32} {v : Value} (A : Arr Z h a cl ty) (hty : ty.isReference = true) (hj : ¬ (j < 0 ∨ cl.slots.size ≤ j.toNatClampNeg)) (hv : cl.slots[j.toNatClampNeg]? = some v) (hd : decode bytes pc = .ok (.aaload, 1)) (hp : pc + 1 = pc') (k : Go p e below P T (mkF m pc' Ls (v :: st))) : Go p e below P T (mkF m pc Ls (.int j :: .ref a :: st)) := by
  subst hp
  exact k.of fun t q => S.X.aaload S.ex (j := j) (v := v) (by rw [S.eT]; exact A.1) (State.isArrayOf_alike S.hZ.alike A.2.1) hty A.2.2 hj hv (g := mkF m pc Ls (.int j :: .ref a :: st)) rfl rfl (S.hd hd) _ q
theorem Go.clone (S : St p l e R s m args below meth c Z own bytes nl ret nm h0 ws T h locs cells slots) {ad : String} {index : Nat} {a : Addr} {kA : ClassId} {ty : FieldType} {n : Int32} {vs : List Value} {dv : Value} {W cap : Nat} (w1 : (Jvm.Cond.methodLink own index ⟨ad, "clone", "()Ljava/lang/Object;"⟩).before a0 Z = true) (w2 : (Jvm.Cond.sameMethod ad "java/lang/Object" "clone" "()Ljava/lang/Object;").before a0 Z = true) (w3 : (Jvm.Cond.native ⟨"java/lang/Object", "clone", "()Ljava/lang/Object;"⟩).before a0 Z = true) (w4 : (Jvm.Cond.instanceMethod ⟨"java/lang/Object", "clone", "()Ljava/lang/Object;"⟩).before a0 Z = true) (w5 : (Jvm.Cond.selects ad ⟨ad, "clone", "()Ljava/lang/Object;"⟩ ⟨"java/lang/Object", "clone", "()Ljava/lang/Object;"⟩).before a0 Z = true) (w6 : (Jvm.Cond.castable ad "java/lang/Cloneable").before a0 Z = true)
    (V : Arv Z Z.heap a kA ty n vs dv) (hfit : Fit Z) (E : Exa Z Z.heap a ad) (hd : decode bytes pc = .ok (.invokevirtual index, 3)) (hsz : Ls.size = nl) (hf : 1 ≤ R.frames) (hW : (st.map fun v => v.category).sum = W) (hl : W + 14 ≤ R.locals) (hcap : n.toNatClampNeg ≤ cap) (hc : cells + 1 ≤ R.cells) (hsl : slots + cap ≤ R.slots) (hp : pc + 3 = pc')
    (k : ∀ T' h' b, St p l e R s m args below meth c Z own bytes nl ret nm h0 ws T' h' locs (cells + 1) (slots + cap) → Ext h h' → h.size = b → Arv Z h' b kA ty n vs dv → Exa Z h' b ad → Go p e below P T' (mkF m pc' Ls (.ref b :: st))) : Go p e below P T (mkF m pc Ls (.ref a :: st)) := by
  subst hp
  obtain ⟨cl, A, q1, q2, q3, H, F⟩ := V
  obtain ⟨T', h', X', e', E', A', EA, f⟩ := cloneA S.X S.ex S.hZ S.hown w1 w2 w3 w4 w5 w6 S.eT (A.ext S.ext) (E.ext S.ext) (FitC.start hfit A) (g := mkF m pc Ls (.ref a :: st)) rfl (hsz.trans S.hnl.symm) rfl (S.hd hd) hf (W := W) (by show 2 * 0 + _ ≤ _; rw [hW]; omega) hl (cap := cap) (by rw [q2]; exact hcap) hc hsl
  exact (k T' h' h.size (S.made X' e' E') E' rfl ⟨_, A', q1, q2, q3, H, F⟩ EA).of f
theorem Go.invokeinterface (S : St p l e R s m args below meth c Z own bytes nl ret nm h0 ws T h locs cells slots) {y : MethodName} {bytes' : ByteArray} {nl' : Nat} {ret' : Option FieldType} {rm : Room} {as' : Array Value} {ws' : List Addr} {Q' : Option Value → Heap → Prop} {index W : Nat} {ps : List FieldType} {r : Option FieldType} {argsL : List Value} {count : Nat} {a : Addr} {x : MethodName} {C : String} (M : OMeets l Z y bytes' nl' ret' rm as' h ws' Q') (w1 : (Jvm.Cond.methodLink own index x).before a0 Z = true) (w2 : (Jvm.Cond.declares x).before a0 Z = true) (w7 : (Jvm.Cond.interfaceMethod x.cls x.cls x.name x.desc).before a0 Z = true) (h7 : ((Jvm.Cond.interfaceMethod x.cls x.cls x.name x.desc).onTables && (Jvm.Cond.interfaceMethod x.cls x.cls x.name x.desc).keepsFace) = true) (w5 : (Jvm.Cond.selects C x y).before a0 Z = true) (w6 : (Jvm.Cond.instanceMethod y).before a0 Z = true) (w8 : (Jvm.Cond.publicMethod y).before a0 Z = true) (w9 : (Jvm.Cond.unhidden C x.name x.desc).before a0 Z = true) (w10 : (Jvm.Cond.castable C x.cls).before a0 Z = true) (w3 : (Jvm.Cond.initialized y.cls).before a0 Z = true) (w4 : (Jvm.Cond.code y bytes' nl' ret').before a0 Z = true) (hy : x.cls ≠ "java/lang/invoke/MethodHandle" ∧ x.cls ≠ "java/lang/invoke/VarHandle") (E : Exa Z h a C) (hd : decode bytes pc = .ok (.invokeinterface index count, 5)) (hsz : Ls.size = nl) (hlen : parseMethodDescriptor x.desc = some ⟨ps, r⟩) (hn : argsL.length = ps.length) (has : (.ref a :: argsL).toArray = as') {stk : List Value} (hstk : stk = argsL.reverse ++ .ref a :: st) (hf : rm.frames + 1 ≤ R.frames) (hW : (st.map fun v => v.category).sum = W) (hl : W + (nl' + 11) + rm.locals ≤ R.locals) (hc : cells + rm.cells ≤ R.cells) (hs : slots + rm.slots ≤ R.slots) (hws : ∀ x ∈ ws', x ∈ ws ∨ h0.size ≤ x) (hp : pc + 5 = pc')
    (k : ∀ v T' h' locs', St p l e R s m args below meth c Z own bytes nl ret nm h0 ws T' h' locs' (cells + rm.cells) (slots + rm.slots) → Keep h h' ws' → Q' v h' → Go p e below P T' (mkF m pc' Ls (v.toList ++ st))) : Go p e below P T (mkF m pc Ls stk) := by
  subst hp hstk
  obtain ⟨cq, kq, q1, q2, q3⟩ := isOf S.hZ S.eT E
  obtain ⟨v, _, ⟨T', L', k', n'⟩, -, X', ⟨L, hQ, l1, l2, l3⟩, f⟩ := S.X.interfaceBack S.ex S.hown (mvT S.hZ w1) (mvT S.hZ w2) (mvT S.hZ w7 h7) (mvT S.hZ w5) (mvT S.hZ w6) (mvT S.hZ w8) (mvT S.hZ w9) (mvT S.hZ w10) hy (backOf (Q := fun v U L => Fr Z.heap.size L ∧ Keep h U ws' ∧ Ext Z.heap U ∧ Q' v U) (W := W) (M []) S.hZ w4 w3 hf hl) q1 q2 q3 (g := mkF m pc Ls (argsL.reverse ++ .ref a :: st)) rfl (hsz.trans S.hnl.symm) (Steps.refl _) (argsL := argsL) (rest := st) (lenOf hlen hn) rfl (by show 2 * 0 + _ ≤ _; rw [hW]; omega) (S.hd hd) (fun _ _ => ⟨has, S.eT, hc, hs⟩)
  dsimp only [Pt.U, Pt.locs, Pt.cells, Pt.slots] at X' l1 l2 l3 hQ f
  subst l1 l2 l3
  obtain ⟨N, K', E', q⟩ := hQ
  exact (k v T' T'.heap _ (S.next X' rfl (S.fr.app N) (S.keep.trans K' hws) E') K' q).of fun t q => f.trans q
theorem Go.newarrayE (S : St p l e R s m args below meth c Z own bytes nl ret nm h0 ws T h locs cells slots) {aty : ArrayType} {n : Int32} {cap : Nat} {ty : FieldType} {dv : Value} {ad : String} (hty : newarray.typeOf aty = ty) (hdv : defaultValue ty = dv) (had : "[" ++ ty.toString = ad) (w : (Jvm.Cond.arrayClass ty).before a0 Z = true) (hd : decode bytes pc = .ok (.newarray aty, 2)) (hn : ¬ n < 0) (hcap : n.toNatClampNeg ≤ cap) (hb : cap * 8 ≤ 536870912) (hc : cells + 1 ≤ R.cells) (hl : slots + cap ≤ R.slots) (hp : pc + 2 = pc')
    (k : ∀ T' h' a cA, St p l e R s m args below meth c Z own bytes nl ret nm h0 ws T' h' locs (cells + 1) (slots + cap) → Ext h h' → h.size = a → Z.heap.size ≤ a → h0.size ≤ a → Arv Z h' a cA ty n (List.replicate cap dv) dv → Exa Z h' a ad → Go p e below P T' (mkF m pc' Ls (.ref a :: st))) : Go p e below P T (mkF m pc Ls (.int n :: st)) := by
  subst hp hty hdv
  obtain ⟨T', h', cA, X', e', E, A, XA, f⟩ := newPE S.X S.ex S.hZ w S.eT (g := mkF m pc Ls (.int n :: st)) rfl (S.hd hd) rfl hn hcap hb hc hl had
  exact (k T' h' h.size cA (S.made X' e' E) E rfl S.ext.1 S.keep.1 ((Arv.new A hn).pad (pad_rep [] _ cap)) XA).of f
theorem Go.anewarrayA (S : St p l e R s m args below meth c Z own bytes nl ret nm h0 ws T h locs cells slots) {C ad : String} {ty : FieldType} {index : Nat} {n : Int32} {cap : Nat} (hC : (FieldType.array ty).toString = C) (w1 : (Jvm.Cond.classLink own index C).before a0 Z = true) (w2 : (Jvm.Cond.arrayOver (.array ty)).before a0 Z = true) (had : "[" ++ C = ad) (hd : decode bytes pc = .ok (.anewarray index, 3)) (hn : ¬ n < 0) (hcap : n.toNatClampNeg ≤ cap) (hb : cap * 8 ≤ 536870912) (hc : cells + 1 ≤ R.cells) (hl : slots + cap ≤ R.slots) (hp : pc + 3 = pc')
    (k : ∀ T' h' a cA, St p l e R s m args below meth c Z own bytes nl ret nm h0 ws T' h' locs (cells + 1) (slots + cap) → Ext h h' → h.size = a → Z.heap.size ≤ a → h0.size ≤ a → Arv Z h' a cA (.array ty) n (List.replicate cap .null) .null → OvrA Z cA ty C → Go p e below P T' (mkF m pc' Ls (.ref a :: st))) : Go p e below P T (mkF m pc Ls (.int n :: st)) := by
  subst hp
  obtain ⟨T', h', cA, X', e', E, A, -, O, f⟩ := newRA S.X S.ex S.hZ S.hown hC w1 w2 S.eT (g := mkF m pc Ls (.int n :: st)) rfl (S.hd hd) rfl hn hcap hb hc hl had
  exact (k T' h' h.size cA (S.made X' e' E) E rfl S.ext.1 S.keep.1 ((Arv.new A hn).pad (pad_rep [] _ cap)) O).of f
theorem Go.invokeprivate (S : St p l e R s m args below meth c Z own bytes nl ret nm h0 ws T h locs cells slots) {y : MethodName} {bytes' : ByteArray} {nl' : Nat} {ret' : Option FieldType} {rm : Room} {as' : Array Value} {ws' : List Addr} {Q' : Option Value → Heap → Prop} {index W : Nat} {ps : List FieldType} {r : Option FieldType} {argsL : List Value} {a : Addr} {C : String} {kk : Nat} (M : OMeets l Z y bytes' nl' ret' rm as' h ws' Q') (w1 : (Jvm.Cond.methodLink own index y).before a0 Z = true) (w6 : (Jvm.Cond.instanceMethod y).before a0 Z = true) (w7 : (Jvm.Cond.privateMethod y).before a0 Z = true) (w8 : (Jvm.Cond.instantiable y.cls kk).before a0 Z = true) (w3 : (Jvm.Cond.initialized y.cls).before a0 Z = true) (w4 : (Jvm.Cond.code y bytes' nl' ret').before a0 Z = true) (hy : y.cls ≠ "java/lang/invoke/MethodHandle" ∧ y.cls ≠ "java/lang/invoke/VarHandle") (E : Exa Z h a C) (hd : decode bytes pc = .ok (.invokevirtual index, 3)) (hsz : Ls.size = nl) (hlen : parseMethodDescriptor y.desc = some ⟨ps, r⟩) (hn : argsL.length = ps.length) (has : (.ref a :: argsL).toArray = as') {stk : List Value} (hstk : stk = argsL.reverse ++ .ref a :: st) (hf : rm.frames + 1 ≤ R.frames) (hW : (st.map fun v => v.category).sum = W) (hl : W + (nl' + 11) + rm.locals ≤ R.locals) (hc : cells + rm.cells ≤ R.cells) (hs : slots + rm.slots ≤ R.slots) (hws : ∀ x ∈ ws', x ∈ ws ∨ h0.size ≤ x) (hp : pc + 3 = pc')
    (k : ∀ v T' h' locs', St p l e R s m args below meth c Z own bytes nl ret nm h0 ws T' h' locs' (cells + rm.cells) (slots + rm.slots) → Keep h h' ws' → Q' v h' → Go p e below P T' (mkF m pc' Ls (v.toList ++ st))) : Go p e below P T (mkF m pc Ls stk) := by
  subst hp hstk
  obtain ⟨cq, q1, q2⟩ := E.cell
  have hpr := Cond.privateMethod_at (mvP S.hZ w7 (args := args))
  have w8' : (Jvm.Cond.instantiable y.cls kk).before args s = true := mv S.hZ w8
  obtain ⟨ci, ki, i1, i2, -, i4, -⟩ := Cond.instantiable_spec w8'
  have hsel := selects_self_of_private i1 i2 (Bool.or_eq_false_iff.mp i4).1 hpr (mvT S.hZ w6 (args := args)) hy
  obtain ⟨v, _, ⟨T', L', k', n'⟩, -, X', ⟨L, hQ, l1, l2, l3⟩, f⟩ := S.X.privateBack S.ex S.hown (mvT S.hZ w1) (mvT S.hZ w6) hsel hpr (mvT S.hZ w4) hy (backOf (Q := fun v U L => Fr Z.heap.size L ∧ Keep h U ws' ∧ Ext Z.heap U ∧ Q' v U) (W := W) (M []) S.hZ w4 w3 hf hl) (g := mkF m pc Ls (argsL.reverse ++ .ref a :: st)) rfl (hsz.trans S.hnl.symm) (Steps.refl _) (a := a) (by rw [S.eT]; exact q1) q2 (argsL := argsL) (rest := st) (lenOf hlen hn) rfl (by show 2 * 0 + _ ≤ _; rw [hW]; omega) (S.hd hd) (fun _ _ => ⟨has, S.eT, hc, hs⟩)
  dsimp only [Pt.U, Pt.locs, Pt.cells, Pt.slots] at X' l1 l2 l3 hQ f
  subst l1 l2 l3
  obtain ⟨N, K', E', q⟩ := hQ
  exact (k v T' T'.heap _ (S.next X' rfl (S.fr.app N) (S.keep.trans K' hws) E') K' q).of fun t q => f.trans q
theorem own_face {Z : State} {a0 : Array Value} {C : String} {x : MethodName} (K : String) (hK : x.cls = K) (w : (Jvm.Cond.selects C x x).before a0 Z = true) (w' : (Jvm.Cond.instanceMethod x).before a0 Z = true) : ∃ c k, Z.vm.findClass K = some c ∧ Z.vm.classes[c]? = some k ∧ k.isInterface = false := by
  subst hK
  obtain ⟨r0, mm, hn, -⟩ := Cond.instanceMethod_spec w'
  obtain ⟨k, h1, h2⟩ := notFace_of_selects w r0 hn
  exact ⟨r0.cls, k, findClass_of_methodNamed hn, h1, h2⟩
theorem own_nfx {s : State} {y : MethodName} (F : ∃ c k, s.vm.findClass y.cls = some c ∧ s.vm.classes[c]? = some k ∧ k.isInterface = false) : NotFace s y := fun r0 hn => by
  obtain ⟨c, k, h1, h2, h3⟩ := F
  cases (findClass_of_methodNamed hn).symm.trans h1
  exact ⟨k, h2, h3⟩
theorem Exa.nex {Z : State} {h : Heap} {a b : Addr} {C D : String} (X : Exa Z h a C) (Y : Exa Z h b D) (hn : C ≠ D) : a ≠ b := fun e => by
  subst e
  obtain ⟨c1, k1, e1, e2, -⟩ := X
  obtain ⟨c2, k2, f1, f2, -⟩ := Y
  cases e1.symm.trans f1
  exact ids_ne e2 f2 hn rfl
theorem Arv.nez {Z : State} {h : Heap} {a b : Addr} {k k' : ClassId} {ty ty' : FieldType} {z z' : Int32} {vs vs' : List Value} {dv dv' : Value} (V : Arv Z h a k ty z vs dv) (U : Arv Z h b k' ty' z' vs' dv') (hn : z.toNatClampNeg ≠ z'.toNatClampNeg) : a ≠ b := fun e => by
  subst e
  obtain ⟨c1, X1, -, s1, -⟩ := V
  obtain ⟨c2, X2, -, s2, -⟩ := U
  cases X1.1.symm.trans X2.1
  exact hn (s1.symm.trans s2)
theorem own_sameM {Z : State} {a0 : Array Value} {y : MethodName} (F : ∃ c k, Z.vm.findClass y.cls = some c ∧ Z.vm.classes[c]? = some k ∧ k.isInterface = false) (w : (Jvm.Cond.instanceMethod y).before a0 Z = true) (hy : y.cls ≠ "java/lang/invoke/MethodHandle" ∧ y.cls ≠ "java/lang/invoke/VarHandle") : (Jvm.Cond.sameMethod y.cls y.cls y.name y.desc).before a0 Z = true := by
  obtain ⟨c, k, h1, h2, h3⟩ := F
  obtain ⟨r0, mm, hn, -⟩ := Cond.instanceMethod_spec w
  have hf : Z.methodFound? y.cls y.name y.desc = some r0 := State.methodFound?_of_named hn hy
  have hn' : Z.methodNamed? ⟨y.cls, y.name, y.desc⟩ = some r0 := hn
  simp [Cond.before, Cond.holds, Cond.value, h1, hf, hn', h2, h3]
theorem Go.invokesuper (S : St p l e R s m args below meth c Z own bytes nl ret nm h0 ws T h locs cells slots) {y : MethodName} {bytes' : ByteArray} {nl' : Nat} {ret' : Option FieldType} {rm : Room} {as' : Array Value} {ws' : List Addr} {Q' : Option Value → Heap → Prop} {index W : Nat} {ps : List FieldType} {r : Option FieldType} {argsL : List Value} {a : Addr} {C : String} (M : OMeets l Z y bytes' nl' ret' rm as' h ws' Q') (w1 : (Jvm.Cond.methodLink own index y).before a0 Z = true) (F : ∃ c k, Z.vm.findClass y.cls = some c ∧ Z.vm.classes[c]? = some k ∧ k.isInterface = false) (w6 : (Jvm.Cond.instanceMethod y).before a0 Z = true) (w7 : (Jvm.Cond.superclass own y.cls).before a0 Z = true) (hni : y.name ≠ "<init>") (w3 : (Jvm.Cond.initialized y.cls).before a0 Z = true) (w4 : (Jvm.Cond.code y bytes' nl' ret').before a0 Z = true) (hy : y.cls ≠ "java/lang/invoke/MethodHandle" ∧ y.cls ≠ "java/lang/invoke/VarHandle") (E : Exa Z h a C) (hd : decode bytes pc = .ok (.invokespecial index, 3)) (hsz : Ls.size = nl) (hlen : parseMethodDescriptor y.desc = some ⟨ps, r⟩) (hn : argsL.length = ps.length) (has : (.ref a :: argsL).toArray = as') {stk : List Value} (hstk : stk = argsL.reverse ++ .ref a :: st) (hf : rm.frames + 1 ≤ R.frames) (hW : (st.map fun v => v.category).sum = W) (hl : W + (nl' + 11) + rm.locals ≤ R.locals) (hc : cells + rm.cells ≤ R.cells) (hs : slots + rm.slots ≤ R.slots) (hws : ∀ x ∈ ws', x ∈ ws ∨ h0.size ≤ x) (hp : pc + 3 = pc')
    (k : ∀ v T' h' locs', St p l e R s m args below meth c Z own bytes nl ret nm h0 ws T' h' locs' (cells + rm.cells) (slots + rm.slots) → Keep h h' ws' → Q' v h' → Go p e below P T' (mkF m pc' Ls (v.toList ++ st))) : Go p e below P T (mkF m pc Ls stk) := by
  subst hp hstk
  obtain ⟨v, _, ⟨T', L', k', n'⟩, -, X', ⟨L, hQ, l1, l2, l3⟩, f⟩ := superBack S.X S.ex S.hZ S.hown w1 (own_sameM F w6 hy) w6 w7 hni (backOf (Q := fun v U L => Fr Z.heap.size L ∧ Keep h U ws' ∧ Ext Z.heap U ∧ Q' v U) (W := W) (M []) S.hZ w4 w3 hf hl) S.eT (Ins.self E) (g := mkF m pc Ls (argsL.reverse ++ .ref a :: st)) rfl (hsz.trans S.hnl.symm) w4 (argsL := argsL) (rest := st) (lenOf hlen hn) rfl (by show 2 * 0 + _ ≤ _; rw [hW]; omega) (S.hd hd) (fun _ _ => ⟨has, S.eT, hc, hs⟩)
  dsimp only [Pt.U, Pt.locs, Pt.cells, Pt.slots] at X' l1 l2 l3 hQ f
  subst l1 l2 l3
  obtain ⟨N, K', E', q⟩ := hQ
  exact (k v T' T'.heap _ (S.next X' rfl (S.fr.app N) (S.keep.trans K' hws) E') K' q).of fun t q => f.trans q
theorem Go.invokeprivateF (S : St p l e R s m args below meth c Z own bytes nl ret nm h0 ws T h locs cells slots) {y : MethodName} {bytes' : ByteArray} {nl' : Nat} {ret' : Option FieldType} {rm : Room} {as' : Array Value} {ws' : List Addr} {Q' : Option Value → Heap → Prop} {index W : Nat} {ps : List FieldType} {r : Option FieldType} {argsL : List Value} {a : Addr} {C : String} (M : OMeets l Z y bytes' nl' ret' rm as' h ws' Q') (w1 : (Jvm.Cond.methodLink own index y).before a0 Z = true) (w6 : (Jvm.Cond.instanceMethod y).before a0 Z = true) (w7 : (Jvm.Cond.privateMethod y).before a0 Z = true) (F : ∃ c k, s.vm.findClass y.cls = some c ∧ s.vm.classes[c]? = some k ∧ k.isInterface = false) (w3 : (Jvm.Cond.initialized y.cls).before a0 Z = true) (w4 : (Jvm.Cond.code y bytes' nl' ret').before a0 Z = true) (hy : y.cls ≠ "java/lang/invoke/MethodHandle" ∧ y.cls ≠ "java/lang/invoke/VarHandle") (E : Exa Z h a C) (hd : decode bytes pc = .ok (.invokevirtual index, 3)) (hsz : Ls.size = nl) (hlen : parseMethodDescriptor y.desc = some ⟨ps, r⟩) (hn : argsL.length = ps.length) (has : (.ref a :: argsL).toArray = as') {stk : List Value} (hstk : stk = argsL.reverse ++ .ref a :: st) (hf : rm.frames + 1 ≤ R.frames) (hW : (st.map fun v => v.category).sum = W) (hl : W + (nl' + 11) + rm.locals ≤ R.locals) (hc : cells + rm.cells ≤ R.cells) (hs : slots + rm.slots ≤ R.slots) (hws : ∀ x ∈ ws', x ∈ ws ∨ h0.size ≤ x) (hp : pc + 3 = pc')
    (k : ∀ v T' h' locs', St p l e R s m args below meth c Z own bytes nl ret nm h0 ws T' h' locs' (cells + rm.cells) (slots + rm.slots) → Keep h h' ws' → Q' v h' → Go p e below P T' (mkF m pc' Ls (v.toList ++ st))) : Go p e below P T (mkF m pc Ls stk) := by
  subst hp hstk
  obtain ⟨cq, q1, q2⟩ := E.cell
  have hpr := Cond.privateMethod_at (mvP S.hZ w7 (args := args))
  obtain ⟨ci, ki, i1, i2, i4⟩ := F
  have hsel := selects_self_of_private i1 i2 i4 hpr (mvT S.hZ w6 (args := args)) hy
  obtain ⟨v, _, ⟨T', L', k', n'⟩, -, X', ⟨L, hQ, l1, l2, l3⟩, f⟩ := S.X.privateBack S.ex S.hown (mvT S.hZ w1) (mvT S.hZ w6) hsel hpr (mvT S.hZ w4) hy (backOf (Q := fun v U L => Fr Z.heap.size L ∧ Keep h U ws' ∧ Ext Z.heap U ∧ Q' v U) (W := W) (M []) S.hZ w4 w3 hf hl) (g := mkF m pc Ls (argsL.reverse ++ .ref a :: st)) rfl (hsz.trans S.hnl.symm) (Steps.refl _) (a := a) (by rw [S.eT]; exact q1) q2 (argsL := argsL) (rest := st) (lenOf hlen hn) rfl (by show 2 * 0 + _ ≤ _; rw [hW]; omega) (S.hd hd) (fun _ _ => ⟨has, S.eT, hc, hs⟩)
  dsimp only [Pt.U, Pt.locs, Pt.cells, Pt.slots] at X' l1 l2 l3 hQ f
  subst l1 l2 l3
  obtain ⟨N, K', E', q⟩ := hQ
  exact (k v T' T'.heap _ (S.next X' rfl (S.fr.app N) (S.keep.trans K' hws) E') K' q).of fun t q => f.trans q
theorem St.face (S : St p l e R s m args below meth c Z own bytes nl ret nm h0 ws T h locs cells slots) {C : String} {x : MethodName} (K : String) (hK : x.cls = K) (w : (Jvm.Cond.selects C x x).before a0 Z = true) (w' : (Jvm.Cond.instanceMethod x).before a0 Z = true) : ∃ c k, s.vm.findClass K = some c ∧ s.vm.classes[c]? = some k ∧ k.isInterface = false :=
  own_face (a0 := args) K hK (mvT S.hZ w) (mvT S.hZ w')
/-- System.arraycopy of bytes -/
theorem Go.arraycopyB (S : St p l e R s m args below meth c Z own bytes nl ret nm h0 ws T h locs cells slots) {index W : Nat} {a b : Addr} {k1 k2 : ClassId} {z z' sp dp nn : Int32} {vs vd us ue : List Value} {dv dd : Value} (w1 : (Jvm.Cond.methodLink own index Jvm.Stand.acN).before a0 Z = true) (w2 : (Jvm.Cond.native Jvm.Stand.acN).before a0 Z = true) (w3 : (Jvm.Cond.static Jvm.Stand.acN).before a0 Z = true) (w4 : (Jvm.Cond.initialized "java/lang/System").before a0 Z = true) (A : Arv Z h a k1 .byte z vs dv) (B : Arv Z h b k2 .byte z' vd dd)
    (h1 : ¬ sp < 0) (h2 : ¬ dp < 0) (h3 : ¬ nn < 0) (h4 : sp.toNatClampNeg + nn.toNatClampNeg ≤ z.toNatClampNeg) (h5 : dp.toNatClampNeg + nn.toNatClampNeg ≤ z'.toNatClampNeg) (hus : us = (List.range nn.toNatClampNeg).map fun i => vs.getD (sp.toNatClampNeg + i) dv) (hl : dp.toNatClampNeg + nn.toNatClampNeg ≤ vd.length) (hue : vd.take dp.toNatClampNeg ++ us ++ vd.drop (dp.toNatClampNeg + nn.toNatClampNeg) = ue) (hz : Z.heap.size ≤ b) (hws : b ∈ ws ∨ h0.size ≤ b)
    (hd : decode bytes pc = .ok (.invokestatic index, 3)) (hsz : Ls.size = nl) (hf : 1 ≤ R.frames) (hW : (st.map fun v => v.category).sum = W) (hlo : W + (nativeFrameWords "java/lang/System" "arraycopy" 5 + 11) ≤ R.locals) (hp : pc + 3 = pc')
    (k : ∀ T' h' locs', St p l e R s m args below meth c Z own bytes nl ret nm h0 ws T' h' locs' cells slots → Keep h h' [b] → Arv Z h' b k2 .byte z' ue dd → Go p e below P T' (mkF m pc' Ls st)) : Go p e below P T (mkF m pc Ls (.int nn :: .int dp :: .ref b :: .int sp :: .ref a :: st)) := by
  subst hp hue
  obtain ⟨T', h', L, X', e', N', K', V', f⟩ := cpA S.X S.ex S.hZ S.hown w1 w2 w3 w4 S.eT A B (Or.inl ⟨rfl, rfl⟩) h1 h2 h3 h4 h5 hus hl S.fr hz (g := mkF m pc Ls (.int nn :: .int dp :: .ref b :: .int sp :: .ref a :: st)) rfl (hsz.trans S.hnl.symm) rfl (S.hd hd) hf (W := W) (by show 2 * 0 + _ ≤ _; rw [hW]; omega) hlo
  have E' : Ext Z.heap h' := ⟨Nat.le_trans S.ext.1 K'.1, fun x c q => K'.2.1 x c (S.ext.2 x c q) (fun z => by
    have e1 := List.mem_singleton.mp z
    have e2 := (Array.getElem?_eq_some_iff.mp q).1
    rw [e1] at e2
    exact Nat.lt_irrefl _ (Nat.lt_of_lt_of_le e2 hz))⟩
  exact (k T' h' L ⟨S.1, X', e', N', S.keep.trans K' (fun x hx => by rw [List.mem_singleton.mp hx]; exact hws), E'⟩ K' V').of f
theorem OMeets.body {y : MethodName} {Q : Option Value → Heap → Prop} {as : Array Value} (hpl : plainFor y = true) (hE : Ext Z.heap h0) (Ls : Array Slot) (hef : ∀ m : MethodId, entryFrame m as nl = mkF m 0 Ls [])
    (H : ∀ p e s m below meth c T, St p l e R s m as below meth c Z y.cls bytes nl ret y.name h0 ws T h0 [] 0 0 → Go p e below (PostOf Z s h0 ws R.cells R.slots Q) T (mkF m 0 Ls [])) : OMeets l Z y bytes nl ret R as h0 ws Q := by
  intro wd
  refine MetFree.of_bodySF hpl hisR ?_
  intro p e s m args below meth c s₁ Bd hml hP _
  obtain ⟨rfl, hZ, hh⟩ := hP
  have X0 : Stand p l e R s m args below meth c s₁ [] 0 0 := Stand.of_body Bd
  have e0 : s₁.heap = h0 := by rw [← hh, Bd.state]; rfl
  have hg := H p e s m below meth c s₁ ⟨⟨Bd.exec, Bd.bytes, hml, hZ, findClass_of_methodNamed Bd.named, Bd.returns, Bd.notSynchronized, (name_of_methodNamed Bd.named Bd.method).1⟩, X0, e0, Fr.nil _, Keep.refl _ _, hE⟩
  rw [hef]
  exact hg
end Steps
end Jvm.Own
namespace Jvm.Own
open Sem ClassFile Op Lib Jvm.Stand Jvm.Free Jvm.LawKit Jvm.RoadKit
/-- PostOf, where the walk may have interned; Q may speak of the tables too -/
def PostW (Z s : State) (h0 : Heap) (ws : List Addr) (kc ks : Nat) (Q : Option Value → Heap → Vm → Prop) (o : Outcome) (U : State) : Prop :=
  ∃ v L, o = .returned v ∧ (Fr Z.heap.size L ∧ Keep h0 U.heap ws ∧ Ext Z.heap U.heap ∧ Q v U.heap U.vm) ∧ ReturnedEndW s o U L kc ks
def OMeetsW (l : Launch) (Z : State) (y : MethodName) (bytes : ByteArray) (nl : Nat) (ret : Option FieldType) (R : Room) (as : Array Value) (h0 : Heap) (ws : List Addr) (VP : Vm → Prop) (Q : Option Value → Heap → Vm → Prop) : Prop :=
  ∀ wd : List Jvm.Cond, MetFree l y (head1 (Jvm.Cond.code y bytes nl ret :: wd) R) (fun a U => a = as ∧ Z.Warmed39 U.vm ∧ U.heap = h0 ∧ VP U.vm) (fun _ _ _ _ _ => True)
    (fun _ U o U' => PostW Z U h0 ws R.cells R.slots Q o U')
/-- sb is the start s with later tables; what they book since lies below n -/
def Sn (s sb : State) (n : Nat) : Prop := sb = s.setVm sb.vm ∧ s.Since sb.vm n
theorem Sn.start (s : State) (n : Nat) : Sn s s n := ⟨rfl, (State.WarmedH.refl s).since n⟩
theorem IB.warm {Z sb : State} {vm : Vm} {Ts : List String} (I : IB Z sb.vm Ts) (h : sb.WarmedH vm) : IB Z vm Ts := by
  obtain ⟨more, e, q⟩ := I
  exact ⟨more, by rw [h.interned_eq]; exact e, q⟩
/-- entry index of own is booked as the String a, by the tables alone -/
def LitV (Z : State) (vm : Vm) (own : String) (index : Nat) (a : Addr) : Prop := Lit (Z.setVm vm) own index a
theorem LitV.of {Z sb : State} {own : String} {index : Nat} {a : Addr} (L : Lit sb own index a) : LitV Z sb.vm own index a := L
theorem LitV.lit {Z sb : State} {own : String} {index : Nat} {a : Addr} (L : LitV Z sb.vm own index a) : Lit sb own index a := L
theorem LitV.warm {Z sb : State} {vm : Vm} {own : String} {index : Nat} {a : Addr} (L : LitV Z sb.vm own index a) (h : sb.WarmedH vm) : LitV Z vm own index a :=
  Lit.stays (s := sb) (vm0 := sb.vm) (vm1 := vm) (show Lit (sb.setVm sb.vm) own index a from L) h.wide
theorem Arv.nex {Z : State} {h : Heap} {a b : Addr} {k : ClassId} {ty : FieldType} {z : Int32} {vs : List Value} {dv : Value} {C : String} {i : Nat} {a0 : Array Value} (V : Arv Z h b k ty z vs dv) (w : (Jvm.Cond.instantiable C i).before a0 Z = true) (X : Exa Z h a C) : b ≠ a := fun e => by
  subst e
  obtain ⟨c1, ⟨g1, ⟨-, kk, g3, comp, g4⟩, -⟩, -⟩ := V
  obtain ⟨c2, k2, e1, e2, e3, -⟩ := X
  cases g1.symm.trans e1
  obtain ⟨c3, k3, f1, f2, f3, -⟩ := Cond.instantiable_spec w
  cases e2.symm.trans f1
  cases g3.symm.trans f2
  rw [f3] at g4
  cases g4
theorem IB.mono {Z : State} {vm : Vm} {Ts Us : List String} (I : IB Z vm Ts) (h : ∀ t ∈ Ts, t ∈ Us) : IB Z vm Us := by
  obtain ⟨more, e, q⟩ := I
  exact ⟨more, e, fun x hx => by obtain ⟨t, ht, r⟩ := q x hx; exact ⟨t, h t ht, r⟩⟩
section Wide
variable {p : Program} {l : Launch} {e : Env} {R : Room} {s sb : State} {m : MethodId} {args : Array Value} {below : List Frame} {meth : Method} {c : Code} {Z : State} {own : String} {bytes : ByteArray} {nl : Nat} {ret : Option FieldType} {nm : String}
  {h0 : Heap} {ws : List Addr} {T : State} {h : Heap} {locs : List Loc} {cells slots : Nat} {P : Outcome → State → Prop} {pc pc' : Nat} {Ls Ls' : Array Slot} {st : List Value} {a0 : Array Value} {n : Nat}
theorem Go.leavesW (S : St p l e R sb m args below meth c Z own bytes nl ret nm h0 ws T h locs cells slots) (N : Sn s sb n) (hn : n ≤ h.size) {kc ks : Nat} {Q : Option Value → Heap → Vm → Prop} {g : JFrame} {v : Option Value} (hv : ret = none → v = none) (hc : cells ≤ kc) (hs : slots ≤ ks)
    (step : ∀ fs : List Frame, (∀ (f : JFrame) (acts : List Action), f.method = m → f.locked = none → f.entered = [] → (doReturn e (T.setTop f) acts v).1 = T.setFrames fs) → Steps p.tables e below (T.setTop g) (T.setFrames fs)) (q : Q v h T.vm) : Go p e below (PostW Z s h0 ws kc ks Q) T g := by
  obtain ⟨fs, hr, hrun, hended, hW, hsame⟩ := S.X.leave (v := v) (fun q => hv (S.hret ▸ q)) S.locks
  have hU : (T.setFrames fs).heap = h := S.eT
  have e1 := N.1
  have hW' : (s.setVm sb.vm).WarmedH (T.setFrames fs).vm := by rw [← e1]; exact hW
  have hs' : (s.setVm sb.vm).sameButNew ({ T.setFrames fs with vm := sb.vm } : State) locs cells slots := by rw [← e1]; exact hsame
  obtain ⟨z1, z2, z3⟩ := N.2.ended hW' (by rw [hU]; exact hn) hs'
  refine ⟨_, _, step fs hr, hrun, hended, v, locs, rfl, ⟨S.fr, ?_, ?_, ?_⟩, ⟨_, rfl⟩, z1, z2, z3.mono hc hs⟩
  · rw [hU]; exact S.keep
  · rw [hU]; exact S.ext
  · rw [hU]; exact q
theorem Go.areturnW (S : St p l e R sb m args below meth c Z own bytes nl ret nm h0 ws T h locs cells slots) (N : Sn s sb n) (hn : n ≤ h.size) {kc ks : Nat} {Q : Option Value → Heap → Vm → Prop} {w : Value} {t : FieldType} (hret : ret = some t) (ht : t.isReference = true) (hw : w.isRef = true) (hd : decode bytes pc = .ok (.areturn, 1)) (hc : cells ≤ kc) (hs : slots ≤ ks) (q : Q (some w) h T.vm) : Go p e below (PostW Z s h0 ws kc ks Q) T (mkF m pc Ls (w :: st)) :=
  Go.leavesW S N hn (fun q => by rw [hret] at q; cases q) hc hs (fun fs hr => retOut S.X S.ex (i := .areturn) (S.hret.trans hret) (narrow_ref ht hw) (Or.inr (Or.inr (Or.inr (Or.inr ⟨rfl, ht, hw⟩)))) (S.hd hd) hr) q
theorem Go.zreturnW (S : St p l e R sb m args below meth c Z own bytes nl ret nm h0 ws T h locs cells slots) (N : Sn s sb n) (hn : n ≤ h.size) {kc ks : Nat} {Q : Option Value → Heap → Vm → Prop} {z z' : Int32} {t : FieldType} (hret : ret = some t) (ht : t = .boolean ∨ t = .byte ∨ t = .char ∨ t = .short) (hd : decode bytes pc = .ok (.ireturn, 1)) (hz : nar t z = z') (hc : cells ≤ kc) (hs : slots ≤ ks) (q : Q (some (.int z')) h T.vm) : Go p e below (PostW Z s h0 ws kc ks Q) T (mkF m pc Ls (.int z :: st)) := by
  subst hz
  exact Go.leavesW S N hn (fun q => by rw [hret] at q; cases q) hc hs (fun fs hr => retN S.X S.ex (S.hret.trans hret) ht (S.hd hd) hr) q
theorem Go.vreturnW (S : St p l e R sb m args below meth c Z own bytes nl ret nm h0 ws T h locs cells slots) (N : Sn s sb n) (hn : n ≤ h.size) {kc ks : Nat} {Q : Option Value → Heap → Vm → Prop} (hret : ret = none) (hd : decode bytes pc = .ok (.return_, 1)) (hc : cells ≤ kc) (hs : slots ≤ ks) (q : Q none h T.vm) : Go p e below (PostW Z s h0 ws kc ks Q) T (mkF m pc Ls []) :=
  Go.leavesW S N hn (fun _ => rfl) hc hs (fun fs hr => S.X.returnOut S.ex (S.hret.trans hret) (S.hd hd) hr) q
theorem St.rebase (S : St p l e R sb m args below meth c Z own bytes nl ret nm h0 ws T h locs cells slots) {T' : State} {h' : Heap} {locs' : List Loc} {cells' slots' : Nat} (X : Stand p l e R (sb.setVm T'.vm) m args below meth c T' locs' cells' slots') (hS : sb.Warmed39 T'.vm) (e1 : T'.heap = h') (N : Fr Z.heap.size locs') (K : Keep h0 h' ws) (E : Ext Z.heap h') : St p l e R (sb.setVm T'.vm) m args below meth c Z own bytes nl ret nm h0 ws T' h' locs' cells' slots' :=
  ⟨⟨S.1.1, S.1.2.1, S.1.2.2.1, State.Warmed39.trans (t := sb) S.hZ hS, by rw [show (sb.setVm T'.vm).vm = T'.vm from rfl, hS.alike.findClass]; exact S.hown, S.1.2.2.2.2.2⟩, X, e1, N, K, E⟩
theorem Sn.next (N : Sn s sb n) {vm : Vm} {k : Nat} (hS : sb.Since vm k) (hk : n ≤ k) : Sn s (sb.setVm vm) k := by
  refine ⟨by rw [N.1]; rfl, ?_⟩
  have e1 := N.1
  have hS' : (s.setVm sb.vm).Since vm k := by rw [← e1]; exact hS
  exact N.2.trans hS' hk
/-- the payer of a call of a body that may intern -/
theorem backOfW {y : MethodName} {bytes' : ByteArray} {nl' : Nat} {ret' : Option FieldType} {rm : Room} {len W : Nat} {as' : Array Value} {ws' : List Addr} {VP : Vm → Prop} {Q' : Option Value → Heap → Vm → Prop} (M : OMeetsW l Z y bytes' nl' ret' rm as' h ws' VP Q')
    (hZ : Z.Warmed39 sb.vm) (wc : (Jvm.Cond.code y bytes' nl' ret').before a0 Z = true) (wz : (Jvm.Cond.initialized y.cls).before a0 Z = true) (hf : rm.frames + 1 ≤ R.frames) (hl : W + (nl' + 11) + rm.locals ≤ R.locals) :
    BackS l R p e below sb args y len W (fun A a => a = as' ∧ A.U.heap = h ∧ VP A.U.vm ∧ A.cells + rm.cells ≤ R.cells ∧ A.slots + rm.slots ≤ R.slots)
      (fun A _ v B => ∃ L, (Fr Z.heap.size L ∧ Keep h B.U.heap ws' ∧ Ext Z.heap B.U.heap ∧ Q' v B.U.heap B.U.vm) ∧ B.locs = A.locs ++ L ∧ B.cells = A.cells + rm.cells ∧ B.slots = A.slots + rm.slots) :=
  BackS.of_freeW (bytes := bytes') (maxL := nl') (ret := ret') (E := fun _ _ o t L k n => k = rm.cells ∧ n = rm.slots ∧ ∃ v, o = .returned v ∧ Fr Z.heap.size L ∧ Keep h t.heap ws' ∧ Ext Z.heap t.heap ∧ Q' v t.heap t.vm) (M []) hf hl
    (fun m meth c A a Y hp => have hU : Z.Warmed39 A.U.vm := wtrans hZ Y.warmed
      ⟨by show (Jvm.Cond.and _ .tt).before a A.U = true; rw [Cond.before_and, mv hU wc]; rfl, mv hU wc, mv hU wz, hp.2.2.2.1, hp.2.2.2.2⟩)
    (fun m meth c A a g mk Y hp => ⟨hp.1, wtrans hZ Y.warmed, hp.2.1, hp.2.2.1⟩) (fun _ _ _ _ _ _ _ _ _ => trivial)
    (fun _ _ _ _ ⟨v, L, h1, h2, h3⟩ => ⟨L, _, _, h3, rfl, rfl, v, h1, h2⟩)
    (fun m meth c A a g mk v t L k n Y hp _ _ ⟨e1, e2, v', e3, e4⟩ => by cases e3; subst e1 e2; exact ⟨L, e4, rfl, rfl, rfl⟩)
theorem Go.invokestaticW (S : St p l e R sb m args below meth c Z own bytes nl ret nm h0 ws T h locs cells slots) {y : MethodName} {bytes' : ByteArray} {nl' : Nat} {ret' : Option FieldType} {rm : Room} {as' : Array Value} {ws' : List Addr} {VP : Vm → Prop} {Q' : Option Value → Heap → Vm → Prop} {index W : Nat} {ps : List FieldType} {r : Option FieldType} {argsL : List Value} (M : OMeetsW l Z y bytes' nl' ret' rm as' h ws' VP Q') (N : Sn s sb n) (hnn : n ≤ h.size) (hvp : ∀ vm, sb.WarmedH vm → VP vm) (w1 : (Jvm.Cond.methodLink own index y).before a0 Z = true) (w2 : (Jvm.Cond.static y).before a0 Z = true) (w3 : (Jvm.Cond.initialized y.cls).before a0 Z = true) (w4 : (Jvm.Cond.code y bytes' nl' ret').before a0 Z = true) (hy : y.cls ≠ "java/lang/invoke/MethodHandle" ∧ y.cls ≠ "java/lang/invoke/VarHandle") (hd : decode bytes pc = .ok (.invokestatic index, 3)) (hsz : Ls.size = nl) (hlen : parseMethodDescriptor y.desc = some ⟨ps, r⟩) (hn : argsL.length = ps.length) (has : argsL.toArray = as') {stk : List Value} (hstk : stk = argsL.reverse ++ st) (hf : rm.frames + 1 ≤ R.frames) (hW : (st.map fun v => v.category).sum = W) (hl : W + (nl' + 11) + rm.locals ≤ R.locals) (hc : cells + rm.cells ≤ R.cells) (hs : slots + rm.slots ≤ R.slots) (hws : ∀ x ∈ ws', x ∈ ws ∨ h0.size ≤ x) (hp : pc + 3 = pc')
    (k : ∀ v sb' T' h' locs', St p l e R sb' m args below meth c Z own bytes nl ret nm h0 ws T' h' locs' (cells + rm.cells) (slots + rm.slots) → Sn s sb' h'.size → Keep h h' ws' → Q' v h' sb'.vm → Go p e below P T' (mkF m pc' Ls (v.toList ++ st))) : Go p e below P T (mkF m pc Ls stk) := by
  subst hp hstk
  obtain ⟨v, vm1, ⟨T', L', k', n'⟩, -, X', hS, hg, ⟨L, hQ, l1, l2, l3⟩, f⟩ := callSS S.X S.ex S.hown (mvT S.hZ w1) (mvT S.hZ w2) (mvT S.hZ w3) (mvT S.hZ w4) hy (backOfW (W := W) M S.hZ w4 w3 hf hl) (g := mkF m pc Ls (argsL.reverse ++ st)) rfl (hsz.trans S.hnl.symm) (argsL := argsL) (rest := st) (lenOf hlen hn) rfl (by show 2 * 0 + _ ≤ _; rw [hW]; omega) (S.hd hd) (fun vm hv => ⟨has, S.eT, hvp vm hv, hc, hs⟩)
  dsimp only [Pt.U, Pt.locs, Pt.cells, Pt.slots] at X' l1 l2 l3 hQ f hS hg
  subst l1 l2 l3
  obtain ⟨N', K', E', q⟩ := hQ
  exact (k v (sb.setVm T'.vm) T' T'.heap _ (S.rebase X' hS.1 rfl (S.fr.app N') (S.keep.trans K' hws) E') (N.next hS (Nat.le_trans hnn K'.1)) K' q).of fun t q => f.trans q
theorem Go.invokespecialW (S : St p l e R sb m args below meth c Z own bytes nl ret nm h0 ws T h locs cells slots) {y : MethodName} {bytes' : ByteArray} {nl' : Nat} {ret' : Option FieldType} {rm : Room} {as' : Array Value} {ws' : List Addr} {VP : Vm → Prop} {Q' : Option Value → Heap → Vm → Prop} {index W : Nat} {ps : List FieldType} {r : Option FieldType} {argsL : List Value} {a : Addr} (M : OMeetsW l Z y bytes' nl' ret' rm as' h ws' VP Q') (N : Sn s sb n) (hnn : n ≤ h.size) (hvp : ∀ vm, sb.WarmedH vm → VP vm) (hi : y.name = "<init>") (hr0 : ret' = none) (w1 : (Jvm.Cond.methodLink own index y).before a0 Z = true) (w2 : (Jvm.Cond.instanceMethod y).before a0 Z = true) (w3 : (Jvm.Cond.initialized y.cls).before a0 Z = true) (w4 : (Jvm.Cond.code y bytes' nl' ret').before a0 Z = true) (hy : y.cls ≠ "java/lang/invoke/MethodHandle" ∧ y.cls ≠ "java/lang/invoke/VarHandle") (hd : decode bytes pc = .ok (.invokespecial index, 3)) (hsz : Ls.size = nl) (hlen : parseMethodDescriptor y.desc = some ⟨ps, r⟩) (hn : argsL.length = ps.length) (has : (.ref a :: argsL).toArray = as') {stk : List Value} (hstk : stk = argsL.reverse ++ .ref a :: st) (hf : rm.frames + 1 ≤ R.frames) (hW : (st.map fun v => v.category).sum = W) (hl : W + (nl' + 11) + rm.locals ≤ R.locals) (hc : cells + rm.cells ≤ R.cells) (hs : slots + rm.slots ≤ R.slots) (hws : ∀ x ∈ ws', x ∈ ws ∨ h0.size ≤ x) (hp : pc + 3 = pc')
    (k : ∀ v sb' T' h' locs', St p l e R sb' m args below meth c Z own bytes nl ret nm h0 ws T' h' locs' (cells + rm.cells) (slots + rm.slots) → Sn s sb' h'.size → Keep h h' ws' → Q' v h' sb'.vm → Go p e below P T' (mkF m pc' Ls (v.toList ++ st))) : Go p e below P T (mkF m pc Ls stk) := by
  subst hp hstk hr0
  obtain ⟨v, vm1, ⟨T', L', k', n'⟩, -, X', hS, hg, ⟨L, hQ, l1, l2, l3⟩, f⟩ := S.X.specialBackS S.ex hi S.hown (mvT S.hZ w1) (mvT S.hZ w2) (mvT S.hZ w4) hy (backOfW (W := W) M S.hZ w4 w3 hf hl) (g := mkF m pc Ls (argsL.reverse ++ .ref a :: st)) rfl (hsz.trans S.hnl.symm) (Steps.refl _) (a := a) (argsL := argsL) (rest := st) (lenOf hlen hn) rfl (by show 2 * 0 + _ ≤ _; rw [hW]; omega) (S.hd hd) (fun vm hv => ⟨has, S.eT, hvp vm hv, hc, hs⟩)
  dsimp only [Pt.U, Pt.locs, Pt.cells, Pt.slots] at X' l1 l2 l3 hQ f hS hg
  subst l1 l2 l3
  obtain ⟨N', K', E', q⟩ := hQ
  exact (k v (sb.setVm T'.vm) T' T'.heap _ (S.rebase X' hS.1 rfl (S.fr.app N') (S.keep.trans K' hws) E') (N.next hS (Nat.le_trans hnn K'.1)) K' q).of fun t q => f.trans q
theorem Go.invokevirtualW (S : St p l e R sb m args below meth c Z own bytes nl ret nm h0 ws T h locs cells slots) {y : MethodName} {bytes' : ByteArray} {nl' : Nat} {ret' : Option FieldType} {rm : Room} {as' : Array Value} {ws' : List Addr} {VP : Vm → Prop} {Q' : Option Value → Heap → Vm → Prop} {index W : Nat} {ps : List FieldType} {r : Option FieldType} {argsL : List Value} {a : Addr} {x : MethodName} {C : String} (M : OMeetsW l Z y bytes' nl' ret' rm as' h ws' VP Q') (N : Sn s sb n) (hnn : n ≤ h.size) (hvp : ∀ vm, sb.WarmedH vm → VP vm) (w1 : (Jvm.Cond.methodLink own index x).before a0 Z = true) (w2 : (Jvm.Cond.declares x).before a0 Z = true) (hnf : NotFace sb x) (w5 : (Jvm.Cond.selects C x y).before a0 Z = true) (w6 : (Jvm.Cond.instanceMethod y).before a0 Z = true) (w3 : (Jvm.Cond.initialized y.cls).before a0 Z = true) (w4 : (Jvm.Cond.code y bytes' nl' ret').before a0 Z = true) (hy : x.cls ≠ "java/lang/invoke/MethodHandle" ∧ x.cls ≠ "java/lang/invoke/VarHandle") (E : Exa Z h a C) (hd : decode bytes pc = .ok (.invokevirtual index, 3)) (hsz : Ls.size = nl) (hlen : parseMethodDescriptor x.desc = some ⟨ps, r⟩) (hn : argsL.length = ps.length) (has : (.ref a :: argsL).toArray = as') {stk : List Value} (hstk : stk = argsL.reverse ++ .ref a :: st) (hf : rm.frames + 1 ≤ R.frames) (hW : (st.map fun v => v.category).sum = W) (hl : W + (nl' + 11) + rm.locals ≤ R.locals) (hc : cells + rm.cells ≤ R.cells) (hs : slots + rm.slots ≤ R.slots) (hws : ∀ x ∈ ws', x ∈ ws ∨ h0.size ≤ x) (hp : pc + 3 = pc')
    (k : ∀ v sb' T' h' locs', St p l e R sb' m args below meth c Z own bytes nl ret nm h0 ws T' h' locs' (cells + rm.cells) (slots + rm.slots) → Sn s sb' h'.size → Keep h h' ws' → Q' v h' sb'.vm → Go p e below P T' (mkF m pc' Ls (v.toList ++ st))) : Go p e below P T (mkF m pc Ls stk) := by
  subst hp hstk
  obtain ⟨cq, kq, q1, q2, q3⟩ := isOf S.hZ S.eT E
  obtain ⟨v, vm1, ⟨T', L', k', n'⟩, -, X', hS, hg, ⟨L, hQ, l1, l2, l3⟩, f⟩ := S.X.virtualBackS S.ex S.hown (mvT S.hZ w1) (mvT S.hZ w2) hnf (mvT S.hZ w5) (mvT S.hZ w6) hy (backOfW (W := W) M S.hZ w4 w3 hf hl) q1 q3 (g := mkF m pc Ls (argsL.reverse ++ .ref a :: st)) rfl (hsz.trans S.hnl.symm) (Steps.refl _) (argsL := argsL) (rest := st) (lenOf hlen hn) rfl (by show 2 * 0 + _ ≤ _; rw [hW]; omega) (S.hd hd) (fun vm hv => ⟨has, S.eT, hvp vm hv, hc, hs⟩)
  dsimp only [Pt.U, Pt.locs, Pt.cells, Pt.slots] at X' l1 l2 l3 hQ f hS hg
  subst l1 l2 l3
  obtain ⟨N', K', E', q⟩ := hQ
  exact (k v (sb.setVm T'.vm) T' T'.heap _ (S.rebase X' hS.1 rfl (S.fr.app N') (S.keep.trans K' hws) E') (N.next hS (Nat.le_trans hnn K'.1)) K' q).of fun t q => f.trans q
theorem Go.invokeinterfaceW (S : St p l e R sb m args below meth c Z own bytes nl ret nm h0 ws T h locs cells slots) {y : MethodName} {bytes' : ByteArray} {nl' : Nat} {ret' : Option FieldType} {rm : Room} {as' : Array Value} {ws' : List Addr} {VP : Vm → Prop} {Q' : Option Value → Heap → Vm → Prop} {index W : Nat} {ps : List FieldType} {r : Option FieldType} {argsL : List Value} {count : Nat} {a : Addr} {x : MethodName} {C : String} (M : OMeetsW l Z y bytes' nl' ret' rm as' h ws' VP Q') (N : Sn s sb n) (hnn : n ≤ h.size) (hvp : ∀ vm, sb.WarmedH vm → VP vm) (w1 : (Jvm.Cond.methodLink own index x).before a0 Z = true) (w2 : (Jvm.Cond.declares x).before a0 Z = true) (w7 : (Jvm.Cond.interfaceMethod x.cls x.cls x.name x.desc).before a0 Z = true) (h7 : ((Jvm.Cond.interfaceMethod x.cls x.cls x.name x.desc).onTables && (Jvm.Cond.interfaceMethod x.cls x.cls x.name x.desc).keepsFace) = true) (w5 : (Jvm.Cond.selects C x y).before a0 Z = true) (w6 : (Jvm.Cond.instanceMethod y).before a0 Z = true) (w8 : (Jvm.Cond.publicMethod y).before a0 Z = true) (w9 : (Jvm.Cond.unhidden C x.name x.desc).before a0 Z = true) (w10 : (Jvm.Cond.castable C x.cls).before a0 Z = true) (w3 : (Jvm.Cond.initialized y.cls).before a0 Z = true) (w4 : (Jvm.Cond.code y bytes' nl' ret').before a0 Z = true) (hy : x.cls ≠ "java/lang/invoke/MethodHandle" ∧ x.cls ≠ "java/lang/invoke/VarHandle") (E : Exa Z h a C) (hd : decode bytes pc = .ok (.invokeinterface index count, 5)) (hsz : Ls.size = nl) (hlen : parseMethodDescriptor x.desc = some ⟨ps, r⟩) (hn : argsL.length = ps.length) (has : (.ref a :: argsL).toArray = as') {stk : List Value} (hstk : stk = argsL.reverse ++ .ref a :: st) (hf : rm.frames + 1 ≤ R.frames) (hW : (st.map fun v => v.category).sum = W) (hl : W + (nl' + 11) + rm.locals ≤ R.locals) (hc : cells + rm.cells ≤ R.cells) (hs : slots + rm.slots ≤ R.slots) (hws : ∀ x ∈ ws', x ∈ ws ∨ h0.size ≤ x) (hp : pc + 5 = pc')
    (k : ∀ v sb' T' h' locs', St p l e R sb' m args below meth c Z own bytes nl ret nm h0 ws T' h' locs' (cells + rm.cells) (slots + rm.slots) → Sn s sb' h'.size → Keep h h' ws' → Q' v h' sb'.vm → Go p e below P T' (mkF m pc' Ls (v.toList ++ st))) : Go p e below P T (mkF m pc Ls stk) := by
  subst hp hstk
  obtain ⟨cq, kq, q1, q2, q3⟩ := isOf S.hZ S.eT E
  obtain ⟨v, vm1, ⟨T', L', k', n'⟩, -, X', hS, hg, ⟨L, hQ, l1, l2, l3⟩, f⟩ := S.X.interfaceBackS S.ex S.hown (mvT S.hZ w1) (mvT S.hZ w2) (mvT S.hZ w7 h7) (mvT S.hZ w5) (mvT S.hZ w6) (mvT S.hZ w8) (mvT S.hZ w9) (mvT S.hZ w10) hy (backOfW (W := W) M S.hZ w4 w3 hf hl) q1 q2 q3 (g := mkF m pc Ls (argsL.reverse ++ .ref a :: st)) rfl (hsz.trans S.hnl.symm) (Steps.refl _) (argsL := argsL) (rest := st) (lenOf hlen hn) rfl (by show 2 * 0 + _ ≤ _; rw [hW]; omega) (S.hd hd) (fun vm hv => ⟨has, S.eT, hvp vm hv, hc, hs⟩)
  dsimp only [Pt.U, Pt.locs, Pt.cells, Pt.slots] at X' l1 l2 l3 hQ f hS hg
  subst l1 l2 l3
  obtain ⟨N', K', E', q⟩ := hQ
  exact (k v (sb.setVm T'.vm) T' T'.heap _ (S.rebase X' hS.1 rfl (S.fr.app N') (S.keep.trans K' hws) E') (N.next hS (Nat.le_trans hnn K'.1)) K' q).of fun t q => f.trans q
/-- a body that keeps every old cell has, in truth, no writes to tell of -/
theorem St.bare (S : St p l e R sb m args below meth c Z own bytes nl ret nm h0 [] T h locs cells slots) (hb : sb.heap = h0) : St p l e R sb m args below meth c Z own bytes nl ret nm h0 [] T h [] cells slots := by
  refine ⟨S.1, { S.X with same := ?_ }, S.eT, Fr.nil _, S.keep, S.ext⟩
  obtain ⟨q1, q2, q3, q4, q5, -⟩ := S.X.same
  refine ⟨q1, q2, q3, q4, q5, fun a c q => ⟨c, ?_, rfl, rfl, fun _ _ => rfl⟩⟩
  show T.heap[a]? = some c
  rw [S.eT]
  exact S.keep.2.1 a c (hb ▸ q) (by simp)
/-- the first load of a text since the case's start -/
theorem Go.ldcFirst (S : St p l e R sb m args below meth c Z own bytes nl ret nm h0 ws T h locs cells slots) (N : Sn s sb n) (hnn : n ≤ h.size) {text : String} {index cap : Nat} {Ts : List String} {vs : List Value} {z : Int32} (w : (Jvm.Cond.stringLink own index text).before a0 Z = true) (wS : ∀ a ∈ Bundle.stringAtoms, a.before a0 Z = true) (Fl : Fr s.heap.size locs) (hEs : Ext Z.heap s.heap) (I : IB Z sb.vm Ts) (hnot : text ∉ Ts) (hh : Jvm.Lit.constHeld Z own index) (hcw : Jvm.Lit.compactW.before a0 Z = true)
    (ht : (∀ c ∈ text.toList, c.toNat < 256) ∧ text.toList.map (fun c => Value.int (Jvm.Lit.byteI c.toNat.toUInt16)) = vs) (hz : ¬ z < 0) (hzl : z.toNatClampNeg = vs.length) (hd : decode bytes pc = .ok (.ldc index, 2)) (hn : 4 * text.toList.length ≤ cap) (hbig : cap ≤ 536870912) (hc : cells + 2 ≤ R.cells) (hs : slots + (cap + 4) ≤ R.slots) (hp : pc + 2 = pc')
    (k : ∀ (a b : Addr) (kb : ClassId) (sb' T' : State) (h' : Heap) (n' : Nat), St p l e R sb' m args below meth c Z own bytes nl ret nm h0 ws T' h' locs (cells + 2) (slots + (cap + 4)) → Sn s sb' n' → n' ≤ h'.size → Ext h h' → Exa Z h' a "java/lang/String" → Fld Z h' a "java/lang/String" "coder" "B" (.int 0) → Fld Z h' a "java/lang/String" "value" "[B" (.ref b) → Arv Z h' b kb .byte z vs (.int 0) → IB Z sb'.vm (text :: Ts) → Lit sb' own index a → Go p e below P T' (mkF m pc' Ls (.ref a :: st))) : Go p e below P T (mkF m pc Ls st) := by
  subst hp
  have e1 := N.1
  have X : Stand p l e R (s.setVm sb.vm) m args below meth c T locs cells slots := by rw [← e1]; exact S.X
  obtain ⟨a, T', h', k1, b, kb, X', e', E, hS, hk, hZ', ho', x1, x2, x3, x4, -, -, I', L', f⟩ := ldcSVL X S.ex S.hZ S.hown w wS S.eT N.2 hnn Fl (fun b cl q => hEs.2 b cl q) I hnot hh hcw ht hz hzl (g := mkF m pc Ls st) rfl (S.hd hd) hn hbig hc hs
  have e2 : sb.setVm T'.vm = s.setVm T'.vm := by rw [e1]; rfl
  have X2 : Stand p l e R (sb.setVm T'.vm) m args below meth c T' locs (cells + 2) (slots + (cap + 4)) := by rw [e2]; exact X'
  have S' : St p l e R (sb.setVm T'.vm) m args below meth c Z own bytes nl ret nm h0 ws T' h' locs (cells + 2) (slots + (cap + 4)) :=
    ⟨⟨S.1.1, S.1.2.1, S.1.2.2.1, hZ', ho', S.1.2.2.2.2.2⟩, X2, e', S.fr, S.keep.ext E, (Old.ext (n0 := Z.heap.size) ⟨rfl, S.ext⟩ E).2⟩
  exact (k a b kb (sb.setVm T'.vm) T' h' k1 S' ⟨by rw [e2]; rfl, hS⟩ hk E x1 x2 x3 x4 I' L').of f
/-- an entry that is loaded already -/
theorem Go.ldcAgain (S : St p l e R sb m args below meth c Z own bytes nl ret nm h0 ws T h locs cells slots) {text : String} {index : Nat} {a : Addr} (w : (Jvm.Cond.stringLink own index text).before a0 Z = true) (L : Lit sb own index a) (hd : decode bytes pc = .ok (.ldc index, 2)) (hp : pc + 2 = pc') (k : Go p e below P T (mkF m pc' Ls (.ref a :: st))) : Go p e below P T (mkF m pc Ls st) := by
  subst hp
  have X : Stand p l e R (sb.setVm sb.vm) m args below meth c T locs cells slots := S.X
  exact k.of fun t q => ldcAgain X S.ex S.hZ S.hown w (show Lit (sb.setVm sb.vm) own index a from L) (g := mkF m pc Ls st) rfl (S.hd hd) _ q
theorem OMeetsW.body {y : MethodName} {VP : Vm → Prop} {Q : Option Value → Heap → Vm → Prop} {as : Array Value} (hpl : plainFor y = true) (hE : Ext Z.heap h0) (Ls : Array Slot) (hef : ∀ m : MethodId, entryFrame m as nl = mkF m 0 Ls [])
    (H : ∀ p e s m below meth c T, St p l e R s m as below meth c Z y.cls bytes nl ret y.name h0 ws T h0 [] 0 0 → VP s.vm → s.heap = h0 → Go p e below (PostW Z s h0 ws R.cells R.slots Q) T (mkF m 0 Ls [])) : OMeetsW l Z y bytes nl ret R as h0 ws VP Q := by
  intro wd
  refine MetFree.of_bodySF hpl hisR ?_
  intro p e s m args below meth c s₁ Bd hml hP _
  obtain ⟨rfl, hZ, hh, hvp⟩ := hP
  have X0 : Stand p l e R s m args below meth c s₁ [] 0 0 := Stand.of_body Bd
  have e0 : s₁.heap = h0 := by rw [← hh, Bd.state]; rfl
  have hg := H p e s m below meth c s₁ ⟨⟨Bd.exec, Bd.bytes, hml, hZ, findClass_of_methodNamed Bd.named, Bd.returns, Bd.notSynchronized, (name_of_methodNamed Bd.named Bd.method).1⟩, X0, e0, Fr.nil _, Keep.refl _ _, hE⟩ hvp hh
  rw [hef]
  exact hg
end Wide
end Jvm.Own
namespace Jvm.Pilot.@@N@@
open Jvm Jvm.ClassFile Sem Op Lib Jvm.Free Jvm.Stand Jvm.LawKit Jvm.RoadKit Jvm.Own Bundle Jvm.Pilot.@@N@@.Jvm.D
abbrev HW (Z : State) (a0 : Array Value) : Prop := ∀ d ∈ tables_1, d.before a0 Z = true
theorem wd0 {Z : State} {a0 : Array Value} (hw : HW Z a0) : Jvm.Cond.before (Jvm.Cond.methodLink "com/example/tukda/tukda/cli/OptionFlagPinLaw" (7 : Nat) ({ cls := "com/example/tukda/tukda/cli/OptionFlagPinLaw", name := "plain", desc := "(ICCC)Ljava/lang/String;" } : Jvm.MethodName)) a0 Z = true := hw _ (List.mem_of_getElem? (i := 0) rfl)
theorem wd1 {Z : State} {a0 : Array Value} (hw : HW Z a0) : Jvm.Cond.before (Jvm.Cond.static ({ cls := "com/example/tukda/tukda/cli/OptionFlagPinLaw", name := "plain", desc := "(ICCC)Ljava/lang/String;" } : Jvm.MethodName)) a0 Z = true := hw _ (List.mem_of_getElem? (i := 1) rfl)
theorem wd2 {Z : State} {a0 : Array Value} (hw : HW Z a0) : Jvm.Cond.before (Jvm.Cond.initialized "com/example/tukda/tukda/cli/OptionFlagPinLaw") a0 Z = true := hw _ (List.mem_of_getElem? (i := 2) rfl)
theorem wd3 {Z : State} {a0 : Array Value} (hw : HW Z a0) : Jvm.Cond.before (Jvm.Cond.code ({ cls := "com/example/tukda/tukda/cli/OptionFlagPinLaw", name := "plain", desc := "(ICCC)Ljava/lang/String;" } : Jvm.MethodName) method_3_code (4 : Nat) (Option.some (Jvm.ClassFile.FieldType.object "java/lang/String"))) a0 Z = true := hw _ (List.mem_of_getElem? (i := 3) rfl)
theorem wd4 {Z : State} {a0 : Array Value} (hw : HW Z a0) : Jvm.Cond.before (Jvm.Cond.classLink "com/example/tukda/tukda/cli/OptionFlagPinLaw" (27 : Nat) "java/lang/String") a0 Z = true := hw _ (List.mem_of_getElem? (i := 4) rfl)
theorem wd5 {Z : State} {a0 : Array Value} (hw : HW Z a0) : Jvm.Cond.before (Jvm.Cond.instantiable "java/lang/String" (4 : Nat)) a0 Z = true := hw _ (List.mem_of_getElem? (i := 5) rfl)
theorem wd6 {Z : State} {a0 : Array Value} (hw : HW Z a0) : Jvm.Cond.before (Jvm.Cond.initialized "java/lang/String") a0 Z = true := hw _ (List.mem_of_getElem? (i := 6) rfl)
theorem wd7 {Z : State} {a0 : Array Value} (hw : HW Z a0) : Jvm.Cond.before (Jvm.Cond.arrayClass Jvm.ClassFile.FieldType.char) a0 Z = true := hw _ (List.mem_of_getElem? (i := 7) rfl)
theorem wd8 {Z : State} {a0 : Array Value} (hw : HW Z a0) : Jvm.Cond.before (Jvm.Cond.methodLink "com/example/tukda/tukda/cli/OptionFlagPinLaw" (45 : Nat) ({ cls := "java/lang/String", name := "<init>", desc := "([C)V" } : Jvm.MethodName)) a0 Z = true := hw _ (List.mem_of_getElem? (i := 8) rfl)
theorem wd9 {Z : State} {a0 : Array Value} (hw : HW Z a0) : Jvm.Cond.before (Jvm.Cond.instanceMethod ({ cls := "java/lang/String", name := "<init>", desc := "([C)V" } : Jvm.MethodName)) a0 Z = true := hw _ (List.mem_of_getElem? (i := 9) rfl)
theorem wd10 {Z : State} {a0 : Array Value} (hw : HW Z a0) : Jvm.Cond.before (Jvm.Cond.code ({ cls := "java/lang/String", name := "<init>", desc := "([C)V" } : Jvm.MethodName) jdk_42_method_3_code (2 : Nat) (Option.none : Option Jvm.ClassFile.FieldType)) a0 Z = true := hw _ (List.mem_of_getElem? (i := 10) rfl)
theorem wd11 {Z : State} {a0 : Array Value} (hw : HW Z a0) : Jvm.Cond.before (Jvm.Cond.methodLink "java/lang/String" (27 : Nat) ({ cls := "java/lang/String", name := "<init>", desc := "([CIILjava/lang/Void;)V" } : Jvm.MethodName)) a0 Z = true := hw _ (List.mem_of_getElem? (i := 11) rfl)
theorem wd12 {Z : State} {a0 : Array Value} (hw : HW Z a0) : Jvm.Cond.before (Jvm.Cond.instanceMethod ({ cls := "java/lang/String", name := "<init>", desc := "([CIILjava/lang/Void;)V" } : Jvm.MethodName)) a0 Z = true := hw _ (List.mem_of_getElem? (i := 12) rfl)
theorem wd14 {Z : State} {a0 : Array Value} (hw : HW Z a0) : Jvm.Cond.before (Jvm.Cond.code ({ cls := "java/lang/String", name := "<init>", desc := "([CIILjava/lang/Void;)V" } : Jvm.MethodName) jdk_42_method_149_code (6 : Nat) (Option.none : Option Jvm.ClassFile.FieldType)) a0 Z = true := hw _ (List.mem_of_getElem? (i := 14) rfl)
theorem wd15 {Z : State} {a0 : Array Value} (hw : HW Z a0) : Jvm.Cond.before (Jvm.Cond.methodLink "java/lang/String" (1 : Nat) ({ cls := "java/lang/Object", name := "<init>", desc := "()V" } : Jvm.MethodName)) a0 Z = true := hw _ (List.mem_of_getElem? (i := 15) rfl)
theorem wd16 {Z : State} {a0 : Array Value} (hw : HW Z a0) : Jvm.Cond.before (Jvm.Cond.instanceMethod ({ cls := "java/lang/Object", name := "<init>", desc := "()V" } : Jvm.MethodName)) a0 Z = true := hw _ (List.mem_of_getElem? (i := 16) rfl)
theorem wd17 {Z : State} {a0 : Array Value} (hw : HW Z a0) : Jvm.Cond.before (Jvm.Cond.code ({ cls := "java/lang/Object", name := "<init>", desc := "()V" } : Jvm.MethodName) object_method_1_code (1 : Nat) (Option.none : Option Jvm.ClassFile.FieldType)) a0 Z = true := hw _ (List.mem_of_getElem? (i := 17) rfl)
theorem wd18 {Z : State} {a0 : Array Value} (hw : HW Z a0) : Jvm.Cond.before (Jvm.Cond.stringLink "java/lang/String" (7 : Nat) "") a0 Z = true := hw _ (List.mem_of_getElem? (i := 18) rfl)
theorem wd19 {Z : State} {a0 : Array Value} (hw : HW Z a0) : Jvm.Cond.before (Jvm.Cond.arrayClass Jvm.ClassFile.FieldType.byte) a0 Z = true := hw _ (List.mem_of_getElem? (i := 19) rfl)
theorem wd20 {Z : State} {a0 : Array Value} (hw : HW Z a0) : Jvm.Cond.before (Jvm.Cond.laysFinal "java/lang/String" "java/lang/String" "value" "[B") a0 Z = true := hw _ (List.mem_of_getElem? (i := 20) rfl)
theorem wd21 {Z : State} {a0 : Array Value} (hw : HW Z a0) : Jvm.Cond.before (Jvm.Cond.laysFinal "java/lang/String" "java/lang/String" "coder" "B") a0 Z = true := hw _ (List.mem_of_getElem? (i := 21) rfl)
theorem wd22 {Z : State} {a0 : Array Value} (hw : HW Z a0) : Jvm.Cond.before (Jvm.Cond.soleField "java/lang/String" "value") a0 Z = true := hw _ (List.mem_of_getElem? (i := 22) rfl)
theorem wd23 {Z : State} {a0 : Array Value} (hw : HW Z a0) : Jvm.Cond.before (Jvm.Cond.soleField "java/lang/String" "coder") a0 Z = true := hw _ (List.mem_of_getElem? (i := 23) rfl)
theorem wd24 {Z : State} {a0 : Array Value} (hw : HW Z a0) : Jvm.Cond.before (Jvm.Cond.fieldLink "java/lang/String" (9 : Nat) "java/lang/String" "value" "[B") a0 Z = true := hw _ (List.mem_of_getElem? (i := 24) rfl)
theorem wd25 {Z : State} {a0 : Array Value} (hw : HW Z a0) : Jvm.Cond.before (Jvm.Cond.fieldLink "java/lang/String" (15 : Nat) "java/lang/String" "coder" "B") a0 Z = true := hw _ (List.mem_of_getElem? (i := 25) rfl)
theorem wd26 {Z : State} {a0 : Array Value} (hw : HW Z a0) : Jvm.Cond.before (Jvm.Cond.methodLink "com/example/tukda/tukda/cli/OptionFlagPinLaw" (13 : Nat) ({ cls := "com/example/tukda/tukda/cli/OptionFlagPinLaw", name := "bracketed", desc := "(ICCC)Ljava/lang/String;" } : Jvm.MethodName)) a0 Z = true := hw _ (List.mem_of_getElem? (i := 26) rfl)
theorem wd27 {Z : State} {a0 : Array Value} (hw : HW Z a0) : Jvm.Cond.before (Jvm.Cond.static ({ cls := "com/example/tukda/tukda/cli/OptionFlagPinLaw", name := "bracketed", desc := "(ICCC)Ljava/lang/String;" } : Jvm.MethodName)) a0 Z = true := hw _ (List.mem_of_getElem? (i := 27) rfl)
theorem wd28 {Z : State} {a0 : Array Value} (hw : HW Z a0) : Jvm.Cond.before (Jvm.Cond.code ({ cls := "com/example/tukda/tukda/cli/OptionFlagPinLaw", name := "bracketed", desc := "(ICCC)Ljava/lang/String;" } : Jvm.MethodName) method_4_code (4 : Nat) (Option.some (Jvm.ClassFile.FieldType.object "java/lang/String"))) a0 Z = true := hw _ (List.mem_of_getElem? (i := 28) rfl)
theorem wd29 {Z : State} {a0 : Array Value} (hw : HW Z a0) : Jvm.Cond.before (Jvm.Cond.fieldLink "java/lang/String" (38 : Nat) "java/lang/String" "COMPACT_STRINGS" "Z") a0 Z = true := hw _ (List.mem_of_getElem? (i := 29) rfl)
theorem wd30 {Z : State} {a0 : Array Value} (hw : HW Z a0) : Jvm.Cond.before (Jvm.Cond.methodLink "java/lang/String" (177 : Nat) ({ cls := "java/lang/StringUTF16", name := "compress", desc := "([CII)[B" } : Jvm.MethodName)) a0 Z = true := hw _ (List.mem_of_getElem? (i := 30) rfl)
theorem wd31 {Z : State} {a0 : Array Value} (hw : HW Z a0) : Jvm.Cond.before (Jvm.Cond.static ({ cls := "java/lang/StringUTF16", name := "compress", desc := "([CII)[B" } : Jvm.MethodName)) a0 Z = true := hw _ (List.mem_of_getElem? (i := 31) rfl)
theorem wd32 {Z : State} {a0 : Array Value} (hw : HW Z a0) : Jvm.Cond.before (Jvm.Cond.initialized "java/lang/StringUTF16") a0 Z = true := hw _ (List.mem_of_getElem? (i := 32) rfl)
theorem wd33 {Z : State} {a0 : Array Value} (hw : HW Z a0) : Jvm.Cond.before (Jvm.Cond.code ({ cls := "java/lang/StringUTF16", name := "compress", desc := "([CII)[B" } : Jvm.MethodName) jdk_52_method_16_code (6 : Nat) (Option.some (Jvm.ClassFile.FieldType.array Jvm.ClassFile.FieldType.byte))) a0 Z = true := hw _ (List.mem_of_getElem? (i := 33) rfl)
theorem wd34 {Z : State} {a0 : Array Value} (hw : HW Z a0) : Jvm.Cond.before (Jvm.Cond.methodLink "java/lang/StringUTF16" (115 : Nat) ({ cls := "java/lang/StringUTF16", name := "compress", desc := "([CI[BII)I" } : Jvm.MethodName)) a0 Z = true := hw _ (List.mem_of_getElem? (i := 34) rfl)
theorem wd35 {Z : State} {a0 : Array Value} (hw : HW Z a0) : Jvm.Cond.before (Jvm.Cond.static ({ cls := "java/lang/StringUTF16", name := "compress", desc := "([CI[BII)I" } : Jvm.MethodName)) a0 Z = true := hw _ (List.mem_of_getElem? (i := 35) rfl)
theorem wd36 {Z : State} {a0 : Array Value} (hw : HW Z a0) : Jvm.Cond.before (Jvm.Cond.code ({ cls := "java/lang/StringUTF16", name := "compress", desc := "([CI[BII)I" } : Jvm.MethodName) jdk_52_method_21_code (7 : Nat) (Option.some Jvm.ClassFile.FieldType.int)) a0 Z = true := hw _ (List.mem_of_getElem? (i := 36) rfl)
theorem wd37 {Z : State} {a0 : Array Value} (hw : HW Z a0) : Jvm.Cond.before (Jvm.Cond.methodLink "java/lang/String" (47 : Nat) ({ cls := "java/lang/StringUTF16", name := "coderFromArrayLen", desc := "([BI)B" } : Jvm.MethodName)) a0 Z = true := hw _ (List.mem_of_getElem? (i := 37) rfl)
theorem wd38 {Z : State} {a0 : Array Value} (hw : HW Z a0) : Jvm.Cond.before (Jvm.Cond.static ({ cls := "java/lang/StringUTF16", name := "coderFromArrayLen", desc := "([BI)B" } : Jvm.MethodName)) a0 Z = true := hw _ (List.mem_of_getElem? (i := 38) rfl)
theorem wd39 {Z : State} {a0 : Array Value} (hw : HW Z a0) : Jvm.Cond.before (Jvm.Cond.code ({ cls := "java/lang/StringUTF16", name := "coderFromArrayLen", desc := "([BI)B" } : Jvm.MethodName) jdk_52_method_15_code (2 : Nat) (Option.some Jvm.ClassFile.FieldType.byte)) a0 Z = true := hw _ (List.mem_of_getElem? (i := 39) rfl)
theorem wd40 {Z : State} {a0 : Array Value} (hw : HW Z a0) : Jvm.Cond.before (Jvm.Cond.methodLink "com/example/tukda/tukda/cli/OptionFlagPinLaw" (16 : Nat) ({ cls := "com/example/tukda/tukda/cli/Command$Option", name := "flag", desc := "(Ljava/lang/String;)Lcom/example/tukda/tukda/cli/Command$Option;" } : Jvm.MethodName)) a0 Z = true := hw _ (List.mem_of_getElem? (i := 40) rfl)
theorem wd41 {Z : State} {a0 : Array Value} (hw : HW Z a0) : Jvm.Cond.before (Jvm.Cond.static ({ cls := "com/example/tukda/tukda/cli/Command$Option", name := "flag", desc := "(Ljava/lang/String;)Lcom/example/tukda/tukda/cli/Command$Option;" } : Jvm.MethodName)) a0 Z = true := hw _ (List.mem_of_getElem? (i := 41) rfl)
theorem wd42 {Z : State} {a0 : Array Value} (hw : HW Z a0) : Jvm.Cond.before (Jvm.Cond.initialized "com/example/tukda/tukda/cli/Command$Option") a0 Z = true := hw _ (List.mem_of_getElem? (i := 42) rfl)
theorem wd43 {Z : State} {a0 : Array Value} (hw : HW Z a0) : Jvm.Cond.before (Jvm.Cond.code ({ cls := "com/example/tukda/tukda/cli/Command$Option", name := "flag", desc := "(Ljava/lang/String;)Lcom/example/tukda/tukda/cli/Command$Option;" } : Jvm.MethodName) prog_4_method_4_code (1 : Nat) (Option.some (Jvm.ClassFile.FieldType.object "com/example/tukda/tukda/cli/Command$Option"))) a0 Z = true := hw _ (List.mem_of_getElem? (i := 43) rfl)
theorem wd44 {Z : State} {a0 : Array Value} (hw : HW Z a0) : Jvm.Cond.before (Jvm.Cond.classLink "com/example/tukda/tukda/cli/Command$Option" (8 : Nat) "com/example/tukda/tukda/cli/Command$Option") a0 Z = true := hw _ (List.mem_of_getElem? (i := 44) rfl)
theorem wd45 {Z : State} {a0 : Array Value} (hw : HW Z a0) : Jvm.Cond.before (Jvm.Cond.instantiable "com/example/tukda/tukda/cli/Command$Option" (4 : Nat)) a0 Z = true := hw _ (List.mem_of_getElem? (i := 45) rfl)
theorem wd46 {Z : State} {a0 : Array Value} (hw : HW Z a0) : Jvm.Cond.before (Jvm.Cond.methodLink "com/example/tukda/tukda/cli/Command$Option" (23 : Nat) ({ cls := "com/example/tukda/tukda/cli/Command$Option", name := "<init>", desc := "(Ljava/lang/String;Ljava/lang/String;ZZ)V" } : Jvm.MethodName)) a0 Z = true := hw _ (List.mem_of_getElem? (i := 46) rfl)
theorem wd47 {Z : State} {a0 : Array Value} (hw : HW Z a0) : Jvm.Cond.before (Jvm.Cond.instanceMethod ({ cls := "com/example/tukda/tukda/cli/Command$Option", name := "<init>", desc := "(Ljava/lang/String;Ljava/lang/String;ZZ)V" } : Jvm.MethodName)) a0 Z = true := hw _ (List.mem_of_getElem? (i := 47) rfl)
theorem wd48 {Z : State} {a0 : Array Value} (hw : HW Z a0) : Jvm.Cond.before (Jvm.Cond.code ({ cls := "com/example/tukda/tukda/cli/Command$Option", name := "<init>", desc := "(Ljava/lang/String;Ljava/lang/String;ZZ)V" } : Jvm.MethodName) prog_4_method_1_code (5 : Nat) (Option.none : Option Jvm.ClassFile.FieldType)) a0 Z = true := hw _ (List.mem_of_getElem? (i := 48) rfl)
theorem wd49 {Z : State} {a0 : Array Value} (hw : HW Z a0) : Jvm.Cond.before (Jvm.Cond.methodLink "com/example/tukda/tukda/cli/Command$Option" (1 : Nat) ({ cls := "java/lang/Object", name := "<init>", desc := "()V" } : Jvm.MethodName)) a0 Z = true := hw _ (List.mem_of_getElem? (i := 49) rfl)
theorem wd50 {Z : State} {a0 : Array Value} (hw : HW Z a0) : Jvm.Cond.before (Jvm.Cond.fieldLink "com/example/tukda/tukda/cli/Command$Option" (7 : Nat) "com/example/tukda/tukda/cli/Command$Option" "name" "Ljava/lang/String;") a0 Z = true := hw _ (List.mem_of_getElem? (i := 50) rfl)
theorem wd51 {Z : State} {a0 : Array Value} (hw : HW Z a0) : Jvm.Cond.before (Jvm.Cond.laysFinal "com/example/tukda/tukda/cli/Command$Option" "com/example/tukda/tukda/cli/Command$Option" "name" "Ljava/lang/String;") a0 Z = true := hw _ (List.mem_of_getElem? (i := 51) rfl)
theorem wd52 {Z : State} {a0 : Array Value} (hw : HW Z a0) : Jvm.Cond.before (Jvm.Cond.fieldLink "com/example/tukda/tukda/cli/Command$Option" (13 : Nat) "com/example/tukda/tukda/cli/Command$Option" "placeholder" "Ljava/lang/String;") a0 Z = true := hw _ (List.mem_of_getElem? (i := 52) rfl)
theorem wd53 {Z : State} {a0 : Array Value} (hw : HW Z a0) : Jvm.Cond.before (Jvm.Cond.laysFinal "com/example/tukda/tukda/cli/Command$Option" "com/example/tukda/tukda/cli/Command$Option" "placeholder" "Ljava/lang/String;") a0 Z = true := hw _ (List.mem_of_getElem? (i := 53) rfl)
theorem wd54 {Z : State} {a0 : Array Value} (hw : HW Z a0) : Jvm.Cond.before (Jvm.Cond.fieldLink "com/example/tukda/tukda/cli/Command$Option" (16 : Nat) "com/example/tukda/tukda/cli/Command$Option" "required" "Z") a0 Z = true := hw _ (List.mem_of_getElem? (i := 54) rfl)
theorem wd55 {Z : State} {a0 : Array Value} (hw : HW Z a0) : Jvm.Cond.before (Jvm.Cond.laysFinal "com/example/tukda/tukda/cli/Command$Option" "com/example/tukda/tukda/cli/Command$Option" "required" "Z") a0 Z = true := hw _ (List.mem_of_getElem? (i := 55) rfl)
theorem wd56 {Z : State} {a0 : Array Value} (hw : HW Z a0) : Jvm.Cond.before (Jvm.Cond.fieldLink "com/example/tukda/tukda/cli/Command$Option" (20 : Nat) "com/example/tukda/tukda/cli/Command$Option" "repeated" "Z") a0 Z = true := hw _ (List.mem_of_getElem? (i := 56) rfl)
theorem wd57 {Z : State} {a0 : Array Value} (hw : HW Z a0) : Jvm.Cond.before (Jvm.Cond.laysFinal "com/example/tukda/tukda/cli/Command$Option" "com/example/tukda/tukda/cli/Command$Option" "repeated" "Z") a0 Z = true := hw _ (List.mem_of_getElem? (i := 57) rfl)
theorem wd58 {Z : State} {a0 : Array Value} (hw : HW Z a0) : Jvm.Cond.before (Jvm.Cond.methodLink "com/example/tukda/tukda/cli/OptionFlagPinLaw" (22 : Nat) ({ cls := "com/example/tukda/tukda/cli/Command$Option", name := "name", desc := "()Ljava/lang/String;" } : Jvm.MethodName)) a0 Z = true := hw _ (List.mem_of_getElem? (i := 58) rfl)
theorem wd59 {Z : State} {a0 : Array Value} (hw : HW Z a0) : Jvm.Cond.before (Jvm.Cond.declares ({ cls := "com/example/tukda/tukda/cli/Command$Option", name := "name", desc := "()Ljava/lang/String;" } : Jvm.MethodName)) a0 Z = true := hw _ (List.mem_of_getElem? (i := 59) rfl)
theorem wd60 {Z : State} {a0 : Array Value} (hw : HW Z a0) : Jvm.Cond.before (Jvm.Cond.instanceMethod ({ cls := "com/example/tukda/tukda/cli/Command$Option", name := "name", desc := "()Ljava/lang/String;" } : Jvm.MethodName)) a0 Z = true := hw _ (List.mem_of_getElem? (i := 60) rfl)
theorem wd61 {Z : State} {a0 : Array Value} (hw : HW Z a0) : Jvm.Cond.before (Jvm.Cond.selects "com/example/tukda/tukda/cli/Command$Option" ({ cls := "com/example/tukda/tukda/cli/Command$Option", name := "name", desc := "()Ljava/lang/String;" } : Jvm.MethodName) ({ cls := "com/example/tukda/tukda/cli/Command$Option", name := "name", desc := "()Ljava/lang/String;" } : Jvm.MethodName)) a0 Z = true := hw _ (List.mem_of_getElem? (i := 61) rfl)
theorem wd62 {Z : State} {a0 : Array Value} (hw : HW Z a0) : Jvm.Cond.before (Jvm.Cond.code ({ cls := "com/example/tukda/tukda/cli/Command$Option", name := "name", desc := "()Ljava/lang/String;" } : Jvm.MethodName) prog_4_method_6_code (1 : Nat) (Option.some (Jvm.ClassFile.FieldType.object "java/lang/String"))) a0 Z = true := hw _ (List.mem_of_getElem? (i := 62) rfl)
theorem wd63 {Z : State} {a0 : Array Value} (hw : HW Z a0) : Jvm.Cond.before (Jvm.Cond.methodLink "com/example/tukda/tukda/cli/OptionFlagPinLaw" (26 : Nat) ({ cls := "java/lang/String", name := "equals", desc := "(Ljava/lang/Object;)Z" } : Jvm.MethodName)) a0 Z = true := hw _ (List.mem_of_getElem? (i := 63) rfl)
theorem wd64 {Z : State} {a0 : Array Value} (hw : HW Z a0) : Jvm.Cond.before (Jvm.Cond.declares ({ cls := "java/lang/String", name := "equals", desc := "(Ljava/lang/Object;)Z" } : Jvm.MethodName)) a0 Z = true := hw _ (List.mem_of_getElem? (i := 64) rfl)
theorem wd65 {Z : State} {a0 : Array Value} (hw : HW Z a0) : Jvm.Cond.before (Jvm.Cond.instanceMethod ({ cls := "java/lang/String", name := "equals", desc := "(Ljava/lang/Object;)Z" } : Jvm.MethodName)) a0 Z = true := hw _ (List.mem_of_getElem? (i := 65) rfl)
theorem wd66 {Z : State} {a0 : Array Value} (hw : HW Z a0) : Jvm.Cond.before (Jvm.Cond.selects "java/lang/String" ({ cls := "java/lang/String", name := "equals", desc := "(Ljava/lang/Object;)Z" } : Jvm.MethodName) ({ cls := "java/lang/String", name := "equals", desc := "(Ljava/lang/Object;)Z" } : Jvm.MethodName)) a0 Z = true := hw _ (List.mem_of_getElem? (i := 66) rfl)
theorem wd67 {Z : State} {a0 : Array Value} (hw : HW Z a0) : Jvm.Cond.before (Jvm.Cond.code ({ cls := "java/lang/String", name := "equals", desc := "(Ljava/lang/Object;)Z" } : Jvm.MethodName) jdk_42_method_66_code (3 : Nat) (Option.some Jvm.ClassFile.FieldType.boolean)) a0 Z = true := hw _ (List.mem_of_getElem? (i := 67) rfl)
theorem wd68 {Z : State} {a0 : Array Value} (hw : HW Z a0) : Jvm.Cond.before (Jvm.Cond.methodLink "com/example/tukda/tukda/cli/OptionFlagPinLaw" (32 : Nat) ({ cls := "com/example/tukda/tukda/cli/Command$Option", name := "takesValue", desc := "()Z" } : Jvm.MethodName)) a0 Z = true := hw _ (List.mem_of_getElem? (i := 68) rfl)
theorem wd69 {Z : State} {a0 : Array Value} (hw : HW Z a0) : Jvm.Cond.before (Jvm.Cond.declares ({ cls := "com/example/tukda/tukda/cli/Command$Option", name := "takesValue", desc := "()Z" } : Jvm.MethodName)) a0 Z = true := hw _ (List.mem_of_getElem? (i := 69) rfl)
theorem wd70 {Z : State} {a0 : Array Value} (hw : HW Z a0) : Jvm.Cond.before (Jvm.Cond.instanceMethod ({ cls := "com/example/tukda/tukda/cli/Command$Option", name := "takesValue", desc := "()Z" } : Jvm.MethodName)) a0 Z = true := hw _ (List.mem_of_getElem? (i := 70) rfl)
theorem wd71 {Z : State} {a0 : Array Value} (hw : HW Z a0) : Jvm.Cond.before (Jvm.Cond.selects "com/example/tukda/tukda/cli/Command$Option" ({ cls := "com/example/tukda/tukda/cli/Command$Option", name := "takesValue", desc := "()Z" } : Jvm.MethodName) ({ cls := "com/example/tukda/tukda/cli/Command$Option", name := "takesValue", desc := "()Z" } : Jvm.MethodName)) a0 Z = true := hw _ (List.mem_of_getElem? (i := 71) rfl)
theorem wd72 {Z : State} {a0 : Array Value} (hw : HW Z a0) : Jvm.Cond.before (Jvm.Cond.code ({ cls := "com/example/tukda/tukda/cli/Command$Option", name := "takesValue", desc := "()Z" } : Jvm.MethodName) prog_4_method_7_code (1 : Nat) (Option.some Jvm.ClassFile.FieldType.boolean)) a0 Z = true := hw _ (List.mem_of_getElem? (i := 72) rfl)
theorem wd73 {Z : State} {a0 : Array Value} (hw : HW Z a0) : Jvm.Cond.before (Jvm.Cond.methodLink "com/example/tukda/tukda/cli/OptionFlagPinLaw" (36 : Nat) ({ cls := "com/example/tukda/tukda/cli/Command$Option", name := "isRequired", desc := "()Z" } : Jvm.MethodName)) a0 Z = true := hw _ (List.mem_of_getElem? (i := 73) rfl)
theorem wd74 {Z : State} {a0 : Array Value} (hw : HW Z a0) : Jvm.Cond.before (Jvm.Cond.declares ({ cls := "com/example/tukda/tukda/cli/Command$Option", name := "isRequired", desc := "()Z" } : Jvm.MethodName)) a0 Z = true := hw _ (List.mem_of_getElem? (i := 74) rfl)
theorem wd75 {Z : State} {a0 : Array Value} (hw : HW Z a0) : Jvm.Cond.before (Jvm.Cond.instanceMethod ({ cls := "com/example/tukda/tukda/cli/Command$Option", name := "isRequired", desc := "()Z" } : Jvm.MethodName)) a0 Z = true := hw _ (List.mem_of_getElem? (i := 75) rfl)
theorem wd76 {Z : State} {a0 : Array Value} (hw : HW Z a0) : Jvm.Cond.before (Jvm.Cond.selects "com/example/tukda/tukda/cli/Command$Option" ({ cls := "com/example/tukda/tukda/cli/Command$Option", name := "isRequired", desc := "()Z" } : Jvm.MethodName) ({ cls := "com/example/tukda/tukda/cli/Command$Option", name := "isRequired", desc := "()Z" } : Jvm.MethodName)) a0 Z = true := hw _ (List.mem_of_getElem? (i := 76) rfl)
theorem wd77 {Z : State} {a0 : Array Value} (hw : HW Z a0) : Jvm.Cond.before (Jvm.Cond.code ({ cls := "com/example/tukda/tukda/cli/Command$Option", name := "isRequired", desc := "()Z" } : Jvm.MethodName) prog_4_method_8_code (1 : Nat) (Option.some Jvm.ClassFile.FieldType.boolean)) a0 Z = true := hw _ (List.mem_of_getElem? (i := 77) rfl)
theorem wd78 {Z : State} {a0 : Array Value} (hw : HW Z a0) : Jvm.Cond.before (Jvm.Cond.methodLink "com/example/tukda/tukda/cli/OptionFlagPinLaw" (39 : Nat) ({ cls := "com/example/tukda/tukda/cli/Command$Option", name := "isRepeated", desc := "()Z" } : Jvm.MethodName)) a0 Z = true := hw _ (List.mem_of_getElem? (i := 78) rfl)
theorem wd79 {Z : State} {a0 : Array Value} (hw : HW Z a0) : Jvm.Cond.before (Jvm.Cond.declares ({ cls := "com/example/tukda/tukda/cli/Command$Option", name := "isRepeated", desc := "()Z" } : Jvm.MethodName)) a0 Z = true := hw _ (List.mem_of_getElem? (i := 79) rfl)
theorem wd80 {Z : State} {a0 : Array Value} (hw : HW Z a0) : Jvm.Cond.before (Jvm.Cond.instanceMethod ({ cls := "com/example/tukda/tukda/cli/Command$Option", name := "isRepeated", desc := "()Z" } : Jvm.MethodName)) a0 Z = true := hw _ (List.mem_of_getElem? (i := 80) rfl)
theorem wd81 {Z : State} {a0 : Array Value} (hw : HW Z a0) : Jvm.Cond.before (Jvm.Cond.selects "com/example/tukda/tukda/cli/Command$Option" ({ cls := "com/example/tukda/tukda/cli/Command$Option", name := "isRepeated", desc := "()Z" } : Jvm.MethodName) ({ cls := "com/example/tukda/tukda/cli/Command$Option", name := "isRepeated", desc := "()Z" } : Jvm.MethodName)) a0 Z = true := hw _ (List.mem_of_getElem? (i := 81) rfl)
theorem wd82 {Z : State} {a0 : Array Value} (hw : HW Z a0) : Jvm.Cond.before (Jvm.Cond.code ({ cls := "com/example/tukda/tukda/cli/Command$Option", name := "isRepeated", desc := "()Z" } : Jvm.MethodName) prog_4_method_9_code (1 : Nat) (Option.some Jvm.ClassFile.FieldType.boolean)) a0 Z = true := hw _ (List.mem_of_getElem? (i := 82) rfl)
theorem wd83 {Z : State} {a0 : Array Value} (hw : HW Z a0) : Jvm.Cond.before (Jvm.Cond.methodLink "com/example/tukda/tukda/cli/OptionFlagPinLaw" (42 : Nat) ({ cls := "com/example/tukda/tukda/cli/Command$Option", name := "usage", desc := "()Ljava/lang/String;" } : Jvm.MethodName)) a0 Z = true := hw _ (List.mem_of_getElem? (i := 83) rfl)
theorem wd84 {Z : State} {a0 : Array Value} (hw : HW Z a0) : Jvm.Cond.before (Jvm.Cond.declares ({ cls := "com/example/tukda/tukda/cli/Command$Option", name := "usage", desc := "()Ljava/lang/String;" } : Jvm.MethodName)) a0 Z = true := hw _ (List.mem_of_getElem? (i := 84) rfl)
theorem wd85 {Z : State} {a0 : Array Value} (hw : HW Z a0) : Jvm.Cond.before (Jvm.Cond.instanceMethod ({ cls := "com/example/tukda/tukda/cli/Command$Option", name := "usage", desc := "()Ljava/lang/String;" } : Jvm.MethodName)) a0 Z = true := hw _ (List.mem_of_getElem? (i := 85) rfl)
theorem wd86 {Z : State} {a0 : Array Value} (hw : HW Z a0) : Jvm.Cond.before (Jvm.Cond.selects "com/example/tukda/tukda/cli/Command$Option" ({ cls := "com/example/tukda/tukda/cli/Command$Option", name := "usage", desc := "()Ljava/lang/String;" } : Jvm.MethodName) ({ cls := "com/example/tukda/tukda/cli/Command$Option", name := "usage", desc := "()Ljava/lang/String;" } : Jvm.MethodName)) a0 Z = true := hw _ (List.mem_of_getElem? (i := 86) rfl)
theorem wd87 {Z : State} {a0 : Array Value} (hw : HW Z a0) : Jvm.Cond.before (Jvm.Cond.code ({ cls := "com/example/tukda/tukda/cli/Command$Option", name := "usage", desc := "()Ljava/lang/String;" } : Jvm.MethodName) prog_4_method_10_code (3 : Nat) (Option.some (Jvm.ClassFile.FieldType.object "java/lang/String"))) a0 Z = true := hw _ (List.mem_of_getElem? (i := 87) rfl)
theorem wd88 {Z : State} {a0 : Array Value} (hw : HW Z a0) : Jvm.Cond.before (Jvm.Cond.methodLink "com/example/tukda/tukda/cli/Command$Option" (26 : Nat) ({ cls := "com/example/tukda/tukda/cli/Command$Option", name := "takesValue", desc := "()Z" } : Jvm.MethodName)) a0 Z = true := hw _ (List.mem_of_getElem? (i := 88) rfl)
theorem wd89 {Z : State} {a0 : Array Value} (hw : HW Z a0) : Jvm.Cond.before (Jvm.Cond.classLink "com/example/tukda/tukda/cli/Command$Option" (30 : Nat) "java/lang/StringBuilder") a0 Z = true := hw _ (List.mem_of_getElem? (i := 89) rfl)
theorem wd90 {Z : State} {a0 : Array Value} (hw : HW Z a0) : Jvm.Cond.before (Jvm.Cond.instantiable "java/lang/StringBuilder" (4 : Nat)) a0 Z = true := hw _ (List.mem_of_getElem? (i := 90) rfl)
theorem wd91 {Z : State} {a0 : Array Value} (hw : HW Z a0) : Jvm.Cond.before (Jvm.Cond.initialized "java/lang/StringBuilder") a0 Z = true := hw _ (List.mem_of_getElem? (i := 91) rfl)
theorem wd92 {Z : State} {a0 : Array Value} (hw : HW Z a0) : Jvm.Cond.before (Jvm.Cond.methodLink "com/example/tukda/tukda/cli/Command$Option" (32 : Nat) ({ cls := "java/lang/StringBuilder", name := "<init>", desc := "()V" } : Jvm.MethodName)) a0 Z = true := hw _ (List.mem_of_getElem? (i := 92) rfl)
theorem wd93 {Z : State} {a0 : Array Value} (hw : HW Z a0) : Jvm.Cond.before (Jvm.Cond.instanceMethod ({ cls := "java/lang/StringBuilder", name := "<init>", desc := "()V" } : Jvm.MethodName)) a0 Z = true := hw _ (List.mem_of_getElem? (i := 93) rfl)
theorem wd94 {Z : State} {a0 : Array Value} (hw : HW Z a0) : Jvm.Cond.before (Jvm.Cond.code ({ cls := "java/lang/StringBuilder", name := "<init>", desc := "()V" } : Jvm.MethodName) jdk_67_method_1_code (1 : Nat) (Option.none : Option Jvm.ClassFile.FieldType)) a0 Z = true := hw _ (List.mem_of_getElem? (i := 94) rfl)
theorem wd95 {Z : State} {a0 : Array Value} (hw : HW Z a0) : Jvm.Cond.before (Jvm.Cond.methodLink "java/lang/StringBuilder" (1 : Nat) ({ cls := "java/lang/AbstractStringBuilder", name := "<init>", desc := "(I)V" } : Jvm.MethodName)) a0 Z = true := hw _ (List.mem_of_getElem? (i := 95) rfl)
theorem wd96 {Z : State} {a0 : Array Value} (hw : HW Z a0) : Jvm.Cond.before (Jvm.Cond.instanceMethod ({ cls := "java/lang/AbstractStringBuilder", name := "<init>", desc := "(I)V" } : Jvm.MethodName)) a0 Z = true := hw _ (List.mem_of_getElem? (i := 96) rfl)
theorem wd99 {Z : State} {a0 : Array Value} (hw : HW Z a0) : Jvm.Cond.before (Jvm.Cond.initialized "java/lang/AbstractStringBuilder") a0 Z = true := hw _ (List.mem_of_getElem? (i := 99) rfl)
theorem wd100 {Z : State} {a0 : Array Value} (hw : HW Z a0) : Jvm.Cond.before (Jvm.Cond.code ({ cls := "java/lang/AbstractStringBuilder", name := "<init>", desc := "(I)V" } : Jvm.MethodName) jdk_68_method_2_code (2 : Nat) (Option.none : Option Jvm.ClassFile.FieldType)) a0 Z = true := hw _ (List.mem_of_getElem? (i := 100) rfl)
theorem wd101 {Z : State} {a0 : Array Value} (hw : HW Z a0) : Jvm.Cond.before (Jvm.Cond.methodLink "java/lang/AbstractStringBuilder" (3 : Nat) ({ cls := "java/lang/Object", name := "<init>", desc := "()V" } : Jvm.MethodName)) a0 Z = true := hw _ (List.mem_of_getElem? (i := 101) rfl)
theorem wd102 {Z : State} {a0 : Array Value} (hw : HW Z a0) : Jvm.Cond.before (Jvm.Cond.fieldLink "java/lang/AbstractStringBuilder" (18 : Nat) "java/lang/String" "COMPACT_STRINGS" "Z") a0 Z = true := hw _ (List.mem_of_getElem? (i := 102) rfl)
theorem wd103 {Z : State} {a0 : Array Value} (hw : HW Z a0) : Jvm.Cond.before (Jvm.Cond.fieldLink "java/lang/AbstractStringBuilder" (15 : Nat) "java/lang/AbstractStringBuilder" "value" "[B") a0 Z = true := hw _ (List.mem_of_getElem? (i := 103) rfl)
theorem wd104 {Z : State} {a0 : Array Value} (hw : HW Z a0) : Jvm.Cond.before (Jvm.Cond.lays "java/lang/StringBuilder" "java/lang/AbstractStringBuilder" "value" "[B") a0 Z = true := hw _ (List.mem_of_getElem? (i := 104) rfl)
theorem wd105 {Z : State} {a0 : Array Value} (hw : HW Z a0) : Jvm.Cond.before (Jvm.Cond.fieldLink "java/lang/AbstractStringBuilder" (22 : Nat) "java/lang/AbstractStringBuilder" "coder" "B") a0 Z = true := hw _ (List.mem_of_getElem? (i := 105) rfl)
theorem wd106 {Z : State} {a0 : Array Value} (hw : HW Z a0) : Jvm.Cond.before (Jvm.Cond.lays "java/lang/StringBuilder" "java/lang/AbstractStringBuilder" "coder" "B") a0 Z = true := hw _ (List.mem_of_getElem? (i := 106) rfl)
theorem wd107 {Z : State} {a0 : Array Value} (hw : HW Z a0) : Jvm.Cond.before (Jvm.Cond.stringLink "com/example/tukda/tukda/cli/Command$Option" (47 : Nat) "[") a0 Z = true := hw _ (List.mem_of_getElem? (i := 107) rfl)
theorem wd108 {Z : State} {a0 : Array Value} (hw : HW Z a0) : Jvm.Cond.before (Jvm.Cond.methodLink "com/example/tukda/tukda/cli/Command$Option" (33 : Nat) ({ cls := "java/lang/StringBuilder", name := "append", desc := "(Ljava/lang/String;)Ljava/lang/StringBuilder;" } : Jvm.MethodName)) a0 Z = true := hw _ (List.mem_of_getElem? (i := 108) rfl)
theorem wd109 {Z : State} {a0 : Array Value} (hw : HW Z a0) : Jvm.Cond.before (Jvm.Cond.declares ({ cls := "java/lang/StringBuilder", name := "append", desc := "(Ljava/lang/String;)Ljava/lang/StringBuilder;" } : Jvm.MethodName)) a0 Z = true := hw _ (List.mem_of_getElem? (i := 109) rfl)
theorem wd110 {Z : State} {a0 : Array Value} (hw : HW Z a0) : Jvm.Cond.before (Jvm.Cond.instanceMethod ({ cls := "java/lang/StringBuilder", name := "append", desc := "(Ljava/lang/String;)Ljava/lang/StringBuilder;" } : Jvm.MethodName)) a0 Z = true := hw _ (List.mem_of_getElem? (i := 110) rfl)
theorem wd111 {Z : State} {a0 : Array Value} (hw : HW Z a0) : Jvm.Cond.before (Jvm.Cond.selects "java/lang/StringBuilder" ({ cls := "java/lang/StringBuilder", name := "append", desc := "(Ljava/lang/String;)Ljava/lang/StringBuilder;" } : Jvm.MethodName) ({ cls := "java/lang/StringBuilder", name := "append", desc := "(Ljava/lang/String;)Ljava/lang/StringBuilder;" } : Jvm.MethodName)) a0 Z = true := hw _ (List.mem_of_getElem? (i := 111) rfl)
theorem wd112 {Z : State} {a0 : Array Value} (hw : HW Z a0) : Jvm.Cond.before (Jvm.Cond.code ({ cls := "java/lang/StringBuilder", name := "append", desc := "(Ljava/lang/String;)Ljava/lang/StringBuilder;" } : Jvm.MethodName) jdk_67_method_7_code (2 : Nat) (Option.some (Jvm.ClassFile.FieldType.object "java/lang/StringBuilder"))) a0 Z = true := hw _ (List.mem_of_getElem? (i := 112) rfl)
theorem wd113 {Z : State} {a0 : Array Value} (hw : HW Z a0) : Jvm.Cond.before (Jvm.Cond.methodLink "java/lang/StringBuilder" (29 : Nat) ({ cls := "java/lang/AbstractStringBuilder", name := "append", desc := "(Ljava/lang/String;)Ljava/lang/AbstractStringBuilder;" } : Jvm.MethodName)) a0 Z = true := hw _ (List.mem_of_getElem? (i := 113) rfl)
theorem wd114 {Z : State} {a0 : Array Value} (hw : HW Z a0) : Jvm.Cond.before (Jvm.Cond.instanceMethod ({ cls := "java/lang/AbstractStringBuilder", name := "append", desc := "(Ljava/lang/String;)Ljava/lang/AbstractStringBuilder;" } : Jvm.MethodName)) a0 Z = true := hw _ (List.mem_of_getElem? (i := 114) rfl)
theorem wd115 {Z : State} {a0 : Array Value} (hw : HW Z a0) : Jvm.Cond.before (Jvm.Cond.superclass "java/lang/StringBuilder" "java/lang/AbstractStringBuilder") a0 Z = true := hw _ (List.mem_of_getElem? (i := 115) rfl)
theorem wd117 {Z : State} {a0 : Array Value} (hw : HW Z a0) : Jvm.Cond.before (Jvm.Cond.code ({ cls := "java/lang/AbstractStringBuilder", name := "append", desc := "(Ljava/lang/String;)Ljava/lang/AbstractStringBuilder;" } : Jvm.MethodName) jdk_68_method_22_code (3 : Nat) (Option.some (Jvm.ClassFile.FieldType.object "java/lang/AbstractStringBuilder"))) a0 Z = true := hw _ (List.mem_of_getElem? (i := 117) rfl)
theorem wd118 {Z : State} {a0 : Array Value} (hw : HW Z a0) : Jvm.Cond.before (Jvm.Cond.methodLink "java/lang/AbstractStringBuilder" (32 : Nat) ({ cls := "java/lang/String", name := "length", desc := "()I" } : Jvm.MethodName)) a0 Z = true := hw _ (List.mem_of_getElem? (i := 118) rfl)
theorem wd119 {Z : State} {a0 : Array Value} (hw : HW Z a0) : Jvm.Cond.before (Jvm.Cond.declares ({ cls := "java/lang/String", name := "length", desc := "()I" } : Jvm.MethodName)) a0 Z = true := hw _ (List.mem_of_getElem? (i := 119) rfl)
theorem wd120 {Z : State} {a0 : Array Value} (hw : HW Z a0) : Jvm.Cond.before (Jvm.Cond.instanceMethod ({ cls := "java/lang/String", name := "length", desc := "()I" } : Jvm.MethodName)) a0 Z = true := hw _ (List.mem_of_getElem? (i := 120) rfl)
theorem wd121 {Z : State} {a0 : Array Value} (hw : HW Z a0) : Jvm.Cond.before (Jvm.Cond.selects "java/lang/String" ({ cls := "java/lang/String", name := "length", desc := "()I" } : Jvm.MethodName) ({ cls := "java/lang/String", name := "length", desc := "()I" } : Jvm.MethodName)) a0 Z = true := hw _ (List.mem_of_getElem? (i := 121) rfl)
theorem wd122 {Z : State} {a0 : Array Value} (hw : HW Z a0) : Jvm.Cond.before (Jvm.Cond.code ({ cls := "java/lang/String", name := "length", desc := "()I" } : Jvm.MethodName) jdk_42_method_54_code (1 : Nat) (Option.some Jvm.ClassFile.FieldType.int)) a0 Z = true := hw _ (List.mem_of_getElem? (i := 122) rfl)
theorem wd123 {Z : State} {a0 : Array Value} (hw : HW Z a0) : Jvm.Cond.before (Jvm.Cond.methodLink "java/lang/String" (335 : Nat) ({ cls := "java/lang/String", name := "coder", desc := "()B" } : Jvm.MethodName)) a0 Z = true := hw _ (List.mem_of_getElem? (i := 123) rfl)
theorem wd124 {Z : State} {a0 : Array Value} (hw : HW Z a0) : Jvm.Cond.before (Jvm.Cond.declares ({ cls := "java/lang/String", name := "coder", desc := "()B" } : Jvm.MethodName)) a0 Z = true := hw _ (List.mem_of_getElem? (i := 124) rfl)
theorem wd125 {Z : State} {a0 : Array Value} (hw : HW Z a0) : Jvm.Cond.before (Jvm.Cond.instanceMethod ({ cls := "java/lang/String", name := "coder", desc := "()B" } : Jvm.MethodName)) a0 Z = true := hw _ (List.mem_of_getElem? (i := 125) rfl)
theorem wd126 {Z : State} {a0 : Array Value} (hw : HW Z a0) : Jvm.Cond.before (Jvm.Cond.selects "java/lang/String" ({ cls := "java/lang/String", name := "coder", desc := "()B" } : Jvm.MethodName) ({ cls := "java/lang/String", name := "coder", desc := "()B" } : Jvm.MethodName)) a0 Z = true := hw _ (List.mem_of_getElem? (i := 126) rfl)
theorem wd127 {Z : State} {a0 : Array Value} (hw : HW Z a0) : Jvm.Cond.before (Jvm.Cond.code ({ cls := "java/lang/String", name := "coder", desc := "()B" } : Jvm.MethodName) jdk_42_method_152_code (1 : Nat) (Option.some Jvm.ClassFile.FieldType.byte)) a0 Z = true := hw _ (List.mem_of_getElem? (i := 127) rfl)
theorem wd128 {Z : State} {a0 : Array Value} (hw : HW Z a0) : Jvm.Cond.before (Jvm.Cond.fieldLink "java/lang/AbstractStringBuilder" (79 : Nat) "java/lang/AbstractStringBuilder" "count" "I") a0 Z = true := hw _ (List.mem_of_getElem? (i := 128) rfl)
theorem wd129 {Z : State} {a0 : Array Value} (hw : HW Z a0) : Jvm.Cond.before (Jvm.Cond.lays "java/lang/StringBuilder" "java/lang/AbstractStringBuilder" "count" "I") a0 Z = true := hw _ (List.mem_of_getElem? (i := 129) rfl)
theorem wd130 {Z : State} {a0 : Array Value} (hw : HW Z a0) : Jvm.Cond.before (Jvm.Cond.methodLink "java/lang/AbstractStringBuilder" (100 : Nat) ({ cls := "java/lang/AbstractStringBuilder", name := "ensureCapacityInternal", desc := "(I)V" } : Jvm.MethodName)) a0 Z = true := hw _ (List.mem_of_getElem? (i := 130) rfl)
theorem wd131 {Z : State} {a0 : Array Value} (hw : HW Z a0) : Jvm.Cond.before (Jvm.Cond.instanceMethod ({ cls := "java/lang/AbstractStringBuilder", name := "ensureCapacityInternal", desc := "(I)V" } : Jvm.MethodName)) a0 Z = true := hw _ (List.mem_of_getElem? (i := 131) rfl)
theorem wd132 {Z : State} {a0 : Array Value} (hw : HW Z a0) : Jvm.Cond.before (Jvm.Cond.privateMethod ({ cls := "java/lang/AbstractStringBuilder", name := "ensureCapacityInternal", desc := "(I)V" } : Jvm.MethodName)) a0 Z = true := hw _ (List.mem_of_getElem? (i := 132) rfl)
theorem wd134 {Z : State} {a0 : Array Value} (hw : HW Z a0) : Jvm.Cond.before (Jvm.Cond.code ({ cls := "java/lang/AbstractStringBuilder", name := "ensureCapacityInternal", desc := "(I)V" } : Jvm.MethodName) jdk_68_method_9_code (3 : Nat) (Option.none : Option Jvm.ClassFile.FieldType)) a0 Z = true := hw _ (List.mem_of_getElem? (i := 134) rfl)
theorem wd135 {Z : State} {a0 : Array Value} (hw : HW Z a0) : Jvm.Cond.before (Jvm.Cond.methodLink "java/lang/AbstractStringBuilder" (208 : Nat) ({ cls := "java/lang/AbstractStringBuilder", name := "putStringAt", desc := "(ILjava/lang/String;)V" } : Jvm.MethodName)) a0 Z = true := hw _ (List.mem_of_getElem? (i := 135) rfl)
theorem wd136 {Z : State} {a0 : Array Value} (hw : HW Z a0) : Jvm.Cond.before (Jvm.Cond.instanceMethod ({ cls := "java/lang/AbstractStringBuilder", name := "putStringAt", desc := "(ILjava/lang/String;)V" } : Jvm.MethodName)) a0 Z = true := hw _ (List.mem_of_getElem? (i := 136) rfl)
theorem wd137 {Z : State} {a0 : Array Value} (hw : HW Z a0) : Jvm.Cond.before (Jvm.Cond.privateMethod ({ cls := "java/lang/AbstractStringBuilder", name := "putStringAt", desc := "(ILjava/lang/String;)V" } : Jvm.MethodName)) a0 Z = true := hw _ (List.mem_of_getElem? (i := 137) rfl)
theorem wd139 {Z : State} {a0 : Array Value} (hw : HW Z a0) : Jvm.Cond.before (Jvm.Cond.code ({ cls := "java/lang/AbstractStringBuilder", name := "putStringAt", desc := "(ILjava/lang/String;)V" } : Jvm.MethodName) jdk_68_method_73_code (3 : Nat) (Option.none : Option Jvm.ClassFile.FieldType)) a0 Z = true := hw _ (List.mem_of_getElem? (i := 139) rfl)
theorem wd140 {Z : State} {a0 : Array Value} (hw : HW Z a0) : Jvm.Cond.before (Jvm.Cond.methodLink "java/lang/AbstractStringBuilder" (397 : Nat) ({ cls := "java/lang/AbstractStringBuilder", name := "inflateIfNeededFor", desc := "(Ljava/lang/String;)V" } : Jvm.MethodName)) a0 Z = true := hw _ (List.mem_of_getElem? (i := 140) rfl)
theorem wd141 {Z : State} {a0 : Array Value} (hw : HW Z a0) : Jvm.Cond.before (Jvm.Cond.instanceMethod ({ cls := "java/lang/AbstractStringBuilder", name := "inflateIfNeededFor", desc := "(Ljava/lang/String;)V" } : Jvm.MethodName)) a0 Z = true := hw _ (List.mem_of_getElem? (i := 141) rfl)
theorem wd142 {Z : State} {a0 : Array Value} (hw : HW Z a0) : Jvm.Cond.before (Jvm.Cond.privateMethod ({ cls := "java/lang/AbstractStringBuilder", name := "inflateIfNeededFor", desc := "(Ljava/lang/String;)V" } : Jvm.MethodName)) a0 Z = true := hw _ (List.mem_of_getElem? (i := 142) rfl)
theorem wd144 {Z : State} {a0 : Array Value} (hw : HW Z a0) : Jvm.Cond.before (Jvm.Cond.code ({ cls := "java/lang/AbstractStringBuilder", name := "inflateIfNeededFor", desc := "(Ljava/lang/String;)V" } : Jvm.MethodName) jdk_68_method_71_code (2 : Nat) (Option.none : Option Jvm.ClassFile.FieldType)) a0 Z = true := hw _ (List.mem_of_getElem? (i := 144) rfl)
theorem wd145 {Z : State} {a0 : Array Value} (hw : HW Z a0) : Jvm.Cond.before (Jvm.Cond.methodLink "java/lang/AbstractStringBuilder" (40 : Nat) ({ cls := "java/lang/String", name := "coder", desc := "()B" } : Jvm.MethodName)) a0 Z = true := hw _ (List.mem_of_getElem? (i := 145) rfl)
theorem wd146 {Z : State} {a0 : Array Value} (hw : HW Z a0) : Jvm.Cond.before (Jvm.Cond.methodLink "java/lang/AbstractStringBuilder" (399 : Nat) ({ cls := "java/lang/String", name := "getBytes", desc := "([BIB)V" } : Jvm.MethodName)) a0 Z = true := hw _ (List.mem_of_getElem? (i := 146) rfl)
theorem wd147 {Z : State} {a0 : Array Value} (hw : HW Z a0) : Jvm.Cond.before (Jvm.Cond.declares ({ cls := "java/lang/String", name := "getBytes", desc := "([BIB)V" } : Jvm.MethodName)) a0 Z = true := hw _ (List.mem_of_getElem? (i := 147) rfl)
theorem wd148 {Z : State} {a0 : Array Value} (hw : HW Z a0) : Jvm.Cond.before (Jvm.Cond.instanceMethod ({ cls := "java/lang/String", name := "getBytes", desc := "([BIB)V" } : Jvm.MethodName)) a0 Z = true := hw _ (List.mem_of_getElem? (i := 148) rfl)
theorem wd149 {Z : State} {a0 : Array Value} (hw : HW Z a0) : Jvm.Cond.before (Jvm.Cond.selects "java/lang/String" ({ cls := "java/lang/String", name := "getBytes", desc := "([BIB)V" } : Jvm.MethodName) ({ cls := "java/lang/String", name := "getBytes", desc := "([BIB)V" } : Jvm.MethodName)) a0 Z = true := hw _ (List.mem_of_getElem? (i := 149) rfl)
theorem wd150 {Z : State} {a0 : Array Value} (hw : HW Z a0) : Jvm.Cond.before (Jvm.Cond.code ({ cls := "java/lang/String", name := "getBytes", desc := "([BIB)V" } : Jvm.MethodName) jdk_42_method_147_code (4 : Nat) (Option.none : Option Jvm.ClassFile.FieldType)) a0 Z = true := hw _ (List.mem_of_getElem? (i := 150) rfl)
theorem wd151 {Z : State} {a0 : Array Value} (hw : HW Z a0) : Jvm.Cond.before (Jvm.Cond.methodLink "java/lang/String" (212 : Nat) ({ cls := "java/lang/System", name := "arraycopy", desc := "(Ljava/lang/Object;ILjava/lang/Object;II)V" } : Jvm.MethodName)) a0 Z = true := hw _ (List.mem_of_getElem? (i := 151) rfl)
theorem wd152 {Z : State} {a0 : Array Value} (hw : HW Z a0) : Jvm.Cond.before (Jvm.Cond.static ({ cls := "java/lang/System", name := "arraycopy", desc := "(Ljava/lang/Object;ILjava/lang/Object;II)V" } : Jvm.MethodName)) a0 Z = true := hw _ (List.mem_of_getElem? (i := 152) rfl)
theorem wd153 {Z : State} {a0 : Array Value} (hw : HW Z a0) : Jvm.Cond.before (Jvm.Cond.initialized "java/lang/System") a0 Z = true := hw _ (List.mem_of_getElem? (i := 153) rfl)
theorem wd154 {Z : State} {a0 : Array Value} (hw : HW Z a0) : Jvm.Cond.before (Jvm.Cond.native ({ cls := "java/lang/System", name := "arraycopy", desc := "(Ljava/lang/Object;ILjava/lang/Object;II)V" } : Jvm.MethodName)) a0 Z = true := hw _ (List.mem_of_getElem? (i := 154) rfl)
theorem wd155 {Z : State} {a0 : Array Value} (hw : HW Z a0) : Jvm.Cond.before (Jvm.Cond.stringLink "com/example/tukda/tukda/cli/Command$Option" (49 : Nat) "]") a0 Z = true := hw _ (List.mem_of_getElem? (i := 155) rfl)
theorem wd156 {Z : State} {a0 : Array Value} (hw : HW Z a0) : Jvm.Cond.before (Jvm.Cond.methodLink "com/example/tukda/tukda/cli/Command$Option" (39 : Nat) ({ cls := "java/lang/StringBuilder", name := "toString", desc := "()Ljava/lang/String;" } : Jvm.MethodName)) a0 Z = true := hw _ (List.mem_of_getElem? (i := 156) rfl)
theorem wd157 {Z : State} {a0 : Array Value} (hw : HW Z a0) : Jvm.Cond.before (Jvm.Cond.declares ({ cls := "java/lang/StringBuilder", name := "toString", desc := "()Ljava/lang/String;" } : Jvm.MethodName)) a0 Z = true := hw _ (List.mem_of_getElem? (i := 157) rfl)
theorem wd158 {Z : State} {a0 : Array Value} (hw : HW Z a0) : Jvm.Cond.before (Jvm.Cond.instanceMethod ({ cls := "java/lang/StringBuilder", name := "toString", desc := "()Ljava/lang/String;" } : Jvm.MethodName)) a0 Z = true := hw _ (List.mem_of_getElem? (i := 158) rfl)
theorem wd159 {Z : State} {a0 : Array Value} (hw : HW Z a0) : Jvm.Cond.before (Jvm.Cond.selects "java/lang/StringBuilder" ({ cls := "java/lang/StringBuilder", name := "toString", desc := "()Ljava/lang/String;" } : Jvm.MethodName) ({ cls := "java/lang/StringBuilder", name := "toString", desc := "()Ljava/lang/String;" } : Jvm.MethodName)) a0 Z = true := hw _ (List.mem_of_getElem? (i := 159) rfl)
theorem wd160 {Z : State} {a0 : Array Value} (hw : HW Z a0) : Jvm.Cond.before (Jvm.Cond.code ({ cls := "java/lang/StringBuilder", name := "toString", desc := "()Ljava/lang/String;" } : Jvm.MethodName) jdk_67_method_42_code (1 : Nat) (Option.some (Jvm.ClassFile.FieldType.object "java/lang/String"))) a0 Z = true := hw _ (List.mem_of_getElem? (i := 160) rfl)
theorem wd161 {Z : State} {a0 : Array Value} (hw : HW Z a0) : Jvm.Cond.before (Jvm.Cond.classLink "java/lang/StringBuilder" (18 : Nat) "java/lang/String") a0 Z = true := hw _ (List.mem_of_getElem? (i := 161) rfl)
theorem wd162 {Z : State} {a0 : Array Value} (hw : HW Z a0) : Jvm.Cond.before (Jvm.Cond.methodLink "java/lang/StringBuilder" (137 : Nat) ({ cls := "java/lang/String", name := "<init>", desc := "(Ljava/lang/StringBuilder;)V" } : Jvm.MethodName)) a0 Z = true := hw _ (List.mem_of_getElem? (i := 162) rfl)
theorem wd163 {Z : State} {a0 : Array Value} (hw : HW Z a0) : Jvm.Cond.before (Jvm.Cond.instanceMethod ({ cls := "java/lang/String", name := "<init>", desc := "(Ljava/lang/StringBuilder;)V" } : Jvm.MethodName)) a0 Z = true := hw _ (List.mem_of_getElem? (i := 163) rfl)
theorem wd164 {Z : State} {a0 : Array Value} (hw : HW Z a0) : Jvm.Cond.before (Jvm.Cond.code ({ cls := "java/lang/String", name := "<init>", desc := "(Ljava/lang/StringBuilder;)V" } : Jvm.MethodName) jdk_42_method_53_code (2 : Nat) (Option.none : Option Jvm.ClassFile.FieldType)) a0 Z = true := hw _ (List.mem_of_getElem? (i := 164) rfl)
theorem wd165 {Z : State} {a0 : Array Value} (hw : HW Z a0) : Jvm.Cond.before (Jvm.Cond.methodLink "java/lang/String" (489 : Nat) ({ cls := "java/lang/String", name := "<init>", desc := "(Ljava/lang/AbstractStringBuilder;Ljava/lang/Void;)V" } : Jvm.MethodName)) a0 Z = true := hw _ (List.mem_of_getElem? (i := 165) rfl)
theorem wd166 {Z : State} {a0 : Array Value} (hw : HW Z a0) : Jvm.Cond.before (Jvm.Cond.instanceMethod ({ cls := "java/lang/String", name := "<init>", desc := "(Ljava/lang/AbstractStringBuilder;Ljava/lang/Void;)V" } : Jvm.MethodName)) a0 Z = true := hw _ (List.mem_of_getElem? (i := 166) rfl)
theorem wd167 {Z : State} {a0 : Array Value} (hw : HW Z a0) : Jvm.Cond.before (Jvm.Cond.code ({ cls := "java/lang/String", name := "<init>", desc := "(Ljava/lang/AbstractStringBuilder;Ljava/lang/Void;)V" } : Jvm.MethodName) jdk_42_method_150_code (5 : Nat) (Option.none : Option Jvm.ClassFile.FieldType)) a0 Z = true := hw _ (List.mem_of_getElem? (i := 167) rfl)
theorem wd168 {Z : State} {a0 : Array Value} (hw : HW Z a0) : Jvm.Cond.before (Jvm.Cond.methodLink "java/lang/String" (552 : Nat) ({ cls := "java/lang/AbstractStringBuilder", name := "getValue", desc := "()[B" } : Jvm.MethodName)) a0 Z = true := hw _ (List.mem_of_getElem? (i := 168) rfl)
theorem wd169 {Z : State} {a0 : Array Value} (hw : HW Z a0) : Jvm.Cond.before (Jvm.Cond.declares ({ cls := "java/lang/AbstractStringBuilder", name := "getValue", desc := "()[B" } : Jvm.MethodName)) a0 Z = true := hw _ (List.mem_of_getElem? (i := 169) rfl)
theorem wd170 {Z : State} {a0 : Array Value} (hw : HW Z a0) : Jvm.Cond.before (Jvm.Cond.instanceMethod ({ cls := "java/lang/AbstractStringBuilder", name := "getValue", desc := "()[B" } : Jvm.MethodName)) a0 Z = true := hw _ (List.mem_of_getElem? (i := 170) rfl)
theorem wd171 {Z : State} {a0 : Array Value} (hw : HW Z a0) : Jvm.Cond.before (Jvm.Cond.selects "java/lang/StringBuilder" ({ cls := "java/lang/AbstractStringBuilder", name := "getValue", desc := "()[B" } : Jvm.MethodName) ({ cls := "java/lang/AbstractStringBuilder", name := "getValue", desc := "()[B" } : Jvm.MethodName)) a0 Z = true := hw _ (List.mem_of_getElem? (i := 171) rfl)
theorem wd172 {Z : State} {a0 : Array Value} (hw : HW Z a0) : Jvm.Cond.before (Jvm.Cond.code ({ cls := "java/lang/AbstractStringBuilder", name := "getValue", desc := "()[B" } : Jvm.MethodName) jdk_68_method_64_code (1 : Nat) (Option.some (Jvm.ClassFile.FieldType.array Jvm.ClassFile.FieldType.byte))) a0 Z = true := hw _ (List.mem_of_getElem? (i := 172) rfl)
theorem wd173 {Z : State} {a0 : Array Value} (hw : HW Z a0) : Jvm.Cond.before (Jvm.Cond.methodLink "java/lang/String" (549 : Nat) ({ cls := "java/lang/AbstractStringBuilder", name := "length", desc := "()I" } : Jvm.MethodName)) a0 Z = true := hw _ (List.mem_of_getElem? (i := 173) rfl)
theorem wd174 {Z : State} {a0 : Array Value} (hw : HW Z a0) : Jvm.Cond.before (Jvm.Cond.declares ({ cls := "java/lang/AbstractStringBuilder", name := "length", desc := "()I" } : Jvm.MethodName)) a0 Z = true := hw _ (List.mem_of_getElem? (i := 174) rfl)
theorem wd175 {Z : State} {a0 : Array Value} (hw : HW Z a0) : Jvm.Cond.before (Jvm.Cond.instanceMethod ({ cls := "java/lang/AbstractStringBuilder", name := "length", desc := "()I" } : Jvm.MethodName)) a0 Z = true := hw _ (List.mem_of_getElem? (i := 175) rfl)
theorem wd176 {Z : State} {a0 : Array Value} (hw : HW Z a0) : Jvm.Cond.before (Jvm.Cond.selects "java/lang/StringBuilder" ({ cls := "java/lang/AbstractStringBuilder", name := "length", desc := "()I" } : Jvm.MethodName) ({ cls := "java/lang/StringBuilder", name := "length", desc := "()I" } : Jvm.MethodName)) a0 Z = true := hw _ (List.mem_of_getElem? (i := 176) rfl)
theorem wd177 {Z : State} {a0 : Array Value} (hw : HW Z a0) : Jvm.Cond.before (Jvm.Cond.instanceMethod ({ cls := "java/lang/StringBuilder", name := "length", desc := "()I" } : Jvm.MethodName)) a0 Z = true := hw _ (List.mem_of_getElem? (i := 177) rfl)
theorem wd178 {Z : State} {a0 : Array Value} (hw : HW Z a0) : Jvm.Cond.before (Jvm.Cond.code ({ cls := "java/lang/StringBuilder", name := "length", desc := "()I" } : Jvm.MethodName) jdk_67_method_93_code (1 : Nat) (Option.some Jvm.ClassFile.FieldType.int)) a0 Z = true := hw _ (List.mem_of_getElem? (i := 178) rfl)
theorem wd179 {Z : State} {a0 : Array Value} (hw : HW Z a0) : Jvm.Cond.before (Jvm.Cond.methodLink "java/lang/StringBuilder" (343 : Nat) ({ cls := "java/lang/AbstractStringBuilder", name := "length", desc := "()I" } : Jvm.MethodName)) a0 Z = true := hw _ (List.mem_of_getElem? (i := 179) rfl)
theorem wd180 {Z : State} {a0 : Array Value} (hw : HW Z a0) : Jvm.Cond.before (Jvm.Cond.code ({ cls := "java/lang/AbstractStringBuilder", name := "length", desc := "()I" } : Jvm.MethodName) jdk_68_method_6_code (1 : Nat) (Option.some Jvm.ClassFile.FieldType.int)) a0 Z = true := hw _ (List.mem_of_getElem? (i := 180) rfl)
theorem wd181 {Z : State} {a0 : Array Value} (hw : HW Z a0) : Jvm.Cond.before (Jvm.Cond.methodLink "java/lang/String" (1047 : Nat) ({ cls := "java/lang/AbstractStringBuilder", name := "isLatin1", desc := "()Z" } : Jvm.MethodName)) a0 Z = true := hw _ (List.mem_of_getElem? (i := 181) rfl)
theorem wd182 {Z : State} {a0 : Array Value} (hw : HW Z a0) : Jvm.Cond.before (Jvm.Cond.declares ({ cls := "java/lang/AbstractStringBuilder", name := "isLatin1", desc := "()Z" } : Jvm.MethodName)) a0 Z = true := hw _ (List.mem_of_getElem? (i := 182) rfl)
theorem wd183 {Z : State} {a0 : Array Value} (hw : HW Z a0) : Jvm.Cond.before (Jvm.Cond.instanceMethod ({ cls := "java/lang/AbstractStringBuilder", name := "isLatin1", desc := "()Z" } : Jvm.MethodName)) a0 Z = true := hw _ (List.mem_of_getElem? (i := 183) rfl)
theorem wd184 {Z : State} {a0 : Array Value} (hw : HW Z a0) : Jvm.Cond.before (Jvm.Cond.selects "java/lang/StringBuilder" ({ cls := "java/lang/AbstractStringBuilder", name := "isLatin1", desc := "()Z" } : Jvm.MethodName) ({ cls := "java/lang/AbstractStringBuilder", name := "isLatin1", desc := "()Z" } : Jvm.MethodName)) a0 Z = true := hw _ (List.mem_of_getElem? (i := 184) rfl)
theorem wd185 {Z : State} {a0 : Array Value} (hw : HW Z a0) : Jvm.Cond.before (Jvm.Cond.code ({ cls := "java/lang/AbstractStringBuilder", name := "isLatin1", desc := "()Z" } : Jvm.MethodName) jdk_68_method_68_code (1 : Nat) (Option.some Jvm.ClassFile.FieldType.boolean)) a0 Z = true := hw _ (List.mem_of_getElem? (i := 185) rfl)
theorem wd186 {Z : State} {a0 : Array Value} (hw : HW Z a0) : Jvm.Cond.before (Jvm.Cond.methodLink "java/lang/String" (54 : Nat) ({ cls := "java/util/Arrays", name := "copyOfRange", desc := "([BII)[B" } : Jvm.MethodName)) a0 Z = true := hw _ (List.mem_of_getElem? (i := 186) rfl)
theorem wd187 {Z : State} {a0 : Array Value} (hw : HW Z a0) : Jvm.Cond.before (Jvm.Cond.static ({ cls := "java/util/Arrays", name := "copyOfRange", desc := "([BII)[B" } : Jvm.MethodName)) a0 Z = true := hw _ (List.mem_of_getElem? (i := 187) rfl)
theorem wd188 {Z : State} {a0 : Array Value} (hw : HW Z a0) : Jvm.Cond.before (Jvm.Cond.initialized "java/util/Arrays") a0 Z = true := hw _ (List.mem_of_getElem? (i := 188) rfl)
theorem wd189 {Z : State} {a0 : Array Value} (hw : HW Z a0) : Jvm.Cond.before (Jvm.Cond.code ({ cls := "java/util/Arrays", name := "copyOfRange", desc := "([BII)[B" } : Jvm.MethodName) jdk_65_method_132_code (3 : Nat) (Option.some (Jvm.ClassFile.FieldType.array Jvm.ClassFile.FieldType.byte))) a0 Z = true := hw _ (List.mem_of_getElem? (i := 189) rfl)
theorem wd190 {Z : State} {a0 : Array Value} (hw : HW Z a0) : Jvm.Cond.before (Jvm.Cond.methodLink "java/util/Arrays" (339 : Nat) ({ cls := "java/util/Arrays", name := "copyOfRangeByte", desc := "([BII)[B" } : Jvm.MethodName)) a0 Z = true := hw _ (List.mem_of_getElem? (i := 190) rfl)
theorem wd191 {Z : State} {a0 : Array Value} (hw : HW Z a0) : Jvm.Cond.before (Jvm.Cond.static ({ cls := "java/util/Arrays", name := "copyOfRangeByte", desc := "([BII)[B" } : Jvm.MethodName)) a0 Z = true := hw _ (List.mem_of_getElem? (i := 191) rfl)
theorem wd192 {Z : State} {a0 : Array Value} (hw : HW Z a0) : Jvm.Cond.before (Jvm.Cond.code ({ cls := "java/util/Arrays", name := "copyOfRangeByte", desc := "([BII)[B" } : Jvm.MethodName) jdk_65_method_133_code (5 : Nat) (Option.some (Jvm.ClassFile.FieldType.array Jvm.ClassFile.FieldType.byte))) a0 Z = true := hw _ (List.mem_of_getElem? (i := 192) rfl)
theorem wd193 {Z : State} {a0 : Array Value} (hw : HW Z a0) : Jvm.Cond.before (Jvm.Cond.methodLink "java/util/Arrays" (343 : Nat) ({ cls := "java/util/Arrays", name := "checkLength", desc := "(II)V" } : Jvm.MethodName)) a0 Z = true := hw _ (List.mem_of_getElem? (i := 193) rfl)
theorem wd194 {Z : State} {a0 : Array Value} (hw : HW Z a0) : Jvm.Cond.before (Jvm.Cond.static ({ cls := "java/util/Arrays", name := "checkLength", desc := "(II)V" } : Jvm.MethodName)) a0 Z = true := hw _ (List.mem_of_getElem? (i := 194) rfl)
theorem wd195 {Z : State} {a0 : Array Value} (hw : HW Z a0) : Jvm.Cond.before (Jvm.Cond.code ({ cls := "java/util/Arrays", name := "checkLength", desc := "(II)V" } : Jvm.MethodName) jdk_65_method_131_code (2 : Nat) (Option.none : Option Jvm.ClassFile.FieldType)) a0 Z = true := hw _ (List.mem_of_getElem? (i := 195) rfl)
theorem wd196 {Z : State} {a0 : Array Value} (hw : HW Z a0) : Jvm.Cond.before (Jvm.Cond.methodLink "java/util/Arrays" (304 : Nat) ({ cls := "java/lang/Math", name := "min", desc := "(II)I" } : Jvm.MethodName)) a0 Z = true := hw _ (List.mem_of_getElem? (i := 196) rfl)
theorem wd197 {Z : State} {a0 : Array Value} (hw : HW Z a0) : Jvm.Cond.before (Jvm.Cond.static ({ cls := "java/lang/Math", name := "min", desc := "(II)I" } : Jvm.MethodName)) a0 Z = true := hw _ (List.mem_of_getElem? (i := 197) rfl)
theorem wd198 {Z : State} {a0 : Array Value} (hw : HW Z a0) : Jvm.Cond.before (Jvm.Cond.initialized "java/lang/Math") a0 Z = true := hw _ (List.mem_of_getElem? (i := 198) rfl)
theorem wd199 {Z : State} {a0 : Array Value} (hw : HW Z a0) : Jvm.Cond.before (Jvm.Cond.code ({ cls := "java/lang/Math", name := "min", desc := "(II)I" } : Jvm.MethodName) jdk_29_method_69_code (2 : Nat) (Option.some Jvm.ClassFile.FieldType.int)) a0 Z = true := hw _ (List.mem_of_getElem? (i := 199) rfl)
theorem wd200 {Z : State} {a0 : Array Value} (hw : HW Z a0) : Jvm.Cond.before (Jvm.Cond.methodLink "java/util/Arrays" (150 : Nat) ({ cls := "java/lang/System", name := "arraycopy", desc := "(Ljava/lang/Object;ILjava/lang/Object;II)V" } : Jvm.MethodName)) a0 Z = true := hw _ (List.mem_of_getElem? (i := 200) rfl)
theorem wd201 {Z : State} {a0 : Array Value} (hw : HW Z a0) : Jvm.Cond.before (Jvm.Cond.classLink "java/lang/String" (10 : Nat) "java/lang/String") a0 Z = true := hw _ (List.mem_of_getElem? (i := 201) rfl)
theorem wd202 {Z : State} {a0 : Array Value} (hw : HW Z a0) : Jvm.Cond.before (Jvm.Cond.methodLink "java/lang/String" (541 : Nat) ({ cls := "java/lang/StringLatin1", name := "equals", desc := "([B[B)Z" } : Jvm.MethodName)) a0 Z = true := hw _ (List.mem_of_getElem? (i := 202) rfl)
theorem wd203 {Z : State} {a0 : Array Value} (hw : HW Z a0) : Jvm.Cond.before (Jvm.Cond.static ({ cls := "java/lang/StringLatin1", name := "equals", desc := "([B[B)Z" } : Jvm.MethodName)) a0 Z = true := hw _ (List.mem_of_getElem? (i := 203) rfl)
theorem wd204 {Z : State} {a0 : Array Value} (hw : HW Z a0) : Jvm.Cond.before (Jvm.Cond.initialized "java/lang/StringLatin1") a0 Z = true := hw _ (List.mem_of_getElem? (i := 204) rfl)
theorem wd205 {Z : State} {a0 : Array Value} (hw : HW Z a0) : Jvm.Cond.before (Jvm.Cond.code ({ cls := "java/lang/StringLatin1", name := "equals", desc := "([B[B)Z" } : Jvm.MethodName) jdk_43_method_13_code (3 : Nat) (Option.some Jvm.ClassFile.FieldType.boolean)) a0 Z = true := hw _ (List.mem_of_getElem? (i := 205) rfl)
theorem pn0 : plainName "java/lang/StringLatin1" = true := by first | (simp [plainName, overriddenIn]; done) | decide +kernel
theorem pn1 : plainName "java/lang/String" = true := by first | (simp [plainName, overriddenIn]; done) | decide +kernel
theorem pn2 : plainName "java/lang/StringUTF16" = true := by first | (simp [plainName, overriddenIn]; done) | decide +kernel
theorem pn3 : plainName "java/lang/AbstractStringBuilder" = true := by first | (simp [plainName, overriddenIn]; done) | decide +kernel
theorem pn4 : plainName "java/lang/StringBuilder" = true := by first | (simp [plainName, overriddenIn]; done) | decide +kernel
theorem pn5 : plainName "java/util/Arrays" = true := by first | (simp [plainName, overriddenIn]; done) | decide +kernel
theorem pn6 : plainName "com/example/tukda/tukda/cli/Command$Option" = true := by first | (simp [plainName, overriddenIn]; done) | decide +kernel
theorem pn7 : plainName "com/example/tukda/tukda/cli/OptionFlagPinLaw" = true := by first | (simp [plainName, overriddenIn]; done) | decide +kernel
theorem pd0 : parseMethodDescriptor "([B[B)Z" = some ⟨[(.array .byte), (.array .byte)], some .boolean⟩ := by decide +kernel
theorem pd1 : parseMethodDescriptor "([CI[BII)I" = some ⟨[(.array .char), .int, (.array .byte), .int, .int], some .int⟩ := by decide +kernel
theorem pd2 : parseMethodDescriptor "([CII)[B" = some ⟨[(.array .char), .int, .int], some (.array .byte)⟩ := by decide +kernel
theorem pd3 : parseMethodDescriptor "([BI)B" = some ⟨[(.array .byte), .int], some .byte⟩ := by decide +kernel
theorem pd4 : parseMethodDescriptor "([CIILjava/lang/Void;)V" = some ⟨[(.array .char), .int, .int, (.object "java/lang/Void")], none⟩ := by decide +kernel
theorem pd5 : parseMethodDescriptor "(I)V" = some ⟨[.int], none⟩ := by decide +kernel
theorem pd6 : parseMethodDescriptor "()B" = some ⟨[], some .byte⟩ := by decide +kernel
theorem pd7 : parseMethodDescriptor "(Ljava/lang/String;)V" = some ⟨[(.object "java/lang/String")], none⟩ := by decide +kernel
theorem pd8 : parseMethodDescriptor "([BIB)V" = some ⟨[(.array .byte), .int, .byte], none⟩ := by decide +kernel
theorem pd9 : parseMethodDescriptor "()I" = some ⟨[], some .int⟩ := by decide +kernel
theorem pd10 : parseMethodDescriptor "(ILjava/lang/String;)V" = some ⟨[.int, (.object "java/lang/String")], none⟩ := by decide +kernel
theorem pd11 : parseMethodDescriptor "(Ljava/lang/String;)Ljava/lang/AbstractStringBuilder;" = some ⟨[(.object "java/lang/String")], some (.object "java/lang/AbstractStringBuilder")⟩ := by decide +kernel
theorem pd12 : parseMethodDescriptor "(II)V" = some ⟨[.int, .int], none⟩ := by decide +kernel
theorem pd13 : parseMethodDescriptor "(II)I" = some ⟨[.int, .int], some .int⟩ := by decide +kernel
theorem pd14 : parseMethodDescriptor "([BII)[B" = some ⟨[(.array .byte), .int, .int], some (.array .byte)⟩ := by decide +kernel
theorem pd15 : parseMethodDescriptor "()[B" = some ⟨[], some (.array .byte)⟩ := by decide +kernel
theorem pd16 : parseMethodDescriptor "()Z" = some ⟨[], some .boolean⟩ := by decide +kernel
theorem pd17 : parseMethodDescriptor "(Ljava/lang/AbstractStringBuilder;Ljava/lang/Void;)V" = some ⟨[(.object "java/lang/AbstractStringBuilder"), (.object "java/lang/Void")], none⟩ := by decide +kernel
theorem pd18 : parseMethodDescriptor "(Ljava/lang/StringBuilder;)V" = some ⟨[(.object "java/lang/StringBuilder")], none⟩ := by decide +kernel
theorem pd19 : parseMethodDescriptor "(Ljava/lang/String;Ljava/lang/String;ZZ)V" = some ⟨[(.object "java/lang/String"), (.object "java/lang/String"), .boolean, .boolean], none⟩ := by decide +kernel
theorem pd20 : parseMethodDescriptor "()V" = some ⟨[], none⟩ := by decide +kernel
theorem pd21 : parseMethodDescriptor "(Ljava/lang/String;)Ljava/lang/StringBuilder;" = some ⟨[(.object "java/lang/String")], some (.object "java/lang/StringBuilder")⟩ := by decide +kernel
theorem pd22 : parseMethodDescriptor "()Ljava/lang/String;" = some ⟨[], some (.object "java/lang/String")⟩ := by decide +kernel
theorem pd23 : parseMethodDescriptor "([C)V" = some ⟨[(.array .char)], none⟩ := by decide +kernel
theorem pd24 : parseMethodDescriptor "(ICCC)Ljava/lang/String;" = some ⟨[.int, .char, .char, .char], some (.object "java/lang/String")⟩ := by decide +kernel
theorem pd25 : parseMethodDescriptor "(Ljava/lang/String;)Lcom/example/tukda/tukda/cli/Command$Option;" = some ⟨[(.object "java/lang/String")], some (.object "com/example/tukda/tukda/cli/Command$Option")⟩ := by decide +kernel
theorem pd26 : parseMethodDescriptor "(Ljava/lang/Object;)Z" = some ⟨[(.object "java/lang/Object")], some .boolean⟩ := by decide +kernel
theorem d_jdk_29_method_69_code_0 : decode jdk_29_method_69_code 0 = .ok (.iload_n 0, 1) := by decide +kernel
theorem d_jdk_29_method_69_code_1 : decode jdk_29_method_69_code 1 = .ok (.iload_n 1, 1) := by decide +kernel
theorem d_jdk_29_method_69_code_2 : decode jdk_29_method_69_code 2 = .ok (.if_icmp .gt 7, 3) := by decide +kernel
theorem d_jdk_29_method_69_code_9 : decode jdk_29_method_69_code 9 = .ok (.iload_n 1, 1) := by decide +kernel
theorem d_jdk_29_method_69_code_10 : decode jdk_29_method_69_code 10 = .ok (.ireturn, 1) := by decide +kernel
theorem d_jdk_42_method_147_code_0 : decode jdk_42_method_147_code 0 = .ok (.aload_n 0, 1) := by decide +kernel
theorem d_jdk_42_method_147_code_1 : decode jdk_42_method_147_code 1 = .ok (.invokevirtual 335, 3) := by decide +kernel
theorem d_jdk_42_method_147_code_4 : decode jdk_42_method_147_code 4 = .ok (.iload_n 3, 1) := by decide +kernel
theorem d_jdk_42_method_147_code_5 : decode jdk_42_method_147_code 5 = .ok (.if_icmp .ne 23, 3) := by decide +kernel
theorem d_jdk_42_method_147_code_8 : decode jdk_42_method_147_code 8 = .ok (.aload_n 0, 1) := by decide +kernel
theorem d_jdk_42_method_147_code_9 : decode jdk_42_method_147_code 9 = .ok (.getfield 9, 3) := by decide +kernel
theorem d_jdk_42_method_147_code_12 : decode jdk_42_method_147_code 12 = .ok (.iconst 0, 1) := by decide +kernel
theorem d_jdk_42_method_147_code_13 : decode jdk_42_method_147_code 13 = .ok (.aload_n 1, 1) := by decide +kernel
theorem d_jdk_42_method_147_code_14 : decode jdk_42_method_147_code 14 = .ok (.iload_n 2, 1) := by decide +kernel
theorem d_jdk_42_method_147_code_15 : decode jdk_42_method_147_code 15 = .ok (.iload_n 3, 1) := by decide +kernel
theorem d_jdk_42_method_147_code_16 : decode jdk_42_method_147_code 16 = .ok (.ishl, 1) := by decide +kernel
theorem d_jdk_42_method_147_code_17 : decode jdk_42_method_147_code 17 = .ok (.aload_n 0, 1) := by decide +kernel
theorem d_jdk_42_method_147_code_18 : decode jdk_42_method_147_code 18 = .ok (.getfield 9, 3) := by decide +kernel
theorem d_jdk_42_method_147_code_21 : decode jdk_42_method_147_code 21 = .ok (.arraylength, 1) := by decide +kernel
theorem d_jdk_42_method_147_code_22 : decode jdk_42_method_147_code 22 = .ok (.invokestatic 212, 3) := by decide +kernel
theorem d_jdk_42_method_147_code_25 : decode jdk_42_method_147_code 25 = .ok (.goto 18, 3) := by decide +kernel
theorem d_jdk_42_method_147_code_43 : decode jdk_42_method_147_code 43 = .ok (.return_, 1) := by decide +kernel
theorem d_jdk_42_method_149_code_0 : decode jdk_42_method_149_code 0 = .ok (.aload_n 0, 1) := by decide +kernel
theorem d_jdk_42_method_149_code_1 : decode jdk_42_method_149_code 1 = .ok (.invokespecial 1, 3) := by decide +kernel
theorem d_jdk_42_method_149_code_4 : decode jdk_42_method_149_code 4 = .ok (.iload_n 3, 1) := by decide +kernel
theorem d_jdk_42_method_149_code_5 : decode jdk_42_method_149_code 5 = .ok (.ifCond .ne 22, 3) := by decide +kernel
theorem d_jdk_42_method_149_code_8 : decode jdk_42_method_149_code 8 = .ok (.aload_n 0, 1) := by decide +kernel
theorem d_jdk_42_method_149_code_9 : decode jdk_42_method_149_code 9 = .ok (.ldc 7, 2) := by decide +kernel
theorem d_jdk_42_method_149_code_11 : decode jdk_42_method_149_code 11 = .ok (.getfield 9, 3) := by decide +kernel
theorem d_jdk_42_method_149_code_14 : decode jdk_42_method_149_code 14 = .ok (.putfield 9, 3) := by decide +kernel
theorem d_jdk_42_method_149_code_17 : decode jdk_42_method_149_code 17 = .ok (.aload_n 0, 1) := by decide +kernel
theorem d_jdk_42_method_149_code_18 : decode jdk_42_method_149_code 18 = .ok (.ldc 7, 2) := by decide +kernel
theorem d_jdk_42_method_149_code_20 : decode jdk_42_method_149_code 20 = .ok (.getfield 15, 3) := by decide +kernel
theorem d_jdk_42_method_149_code_23 : decode jdk_42_method_149_code 23 = .ok (.putfield 15, 3) := by decide +kernel
theorem d_jdk_42_method_149_code_26 : decode jdk_42_method_149_code 26 = .ok (.return_, 1) := by decide +kernel
theorem d_jdk_42_method_149_code_27 : decode jdk_42_method_149_code 27 = .ok (.getstatic 38, 3) := by decide +kernel
theorem d_jdk_42_method_149_code_30 : decode jdk_42_method_149_code 30 = .ok (.ifCond .eq 28, 3) := by decide +kernel
theorem d_jdk_42_method_149_code_33 : decode jdk_42_method_149_code 33 = .ok (.aload_n 1, 1) := by decide +kernel
theorem d_jdk_42_method_149_code_34 : decode jdk_42_method_149_code 34 = .ok (.iload_n 2, 1) := by decide +kernel
theorem d_jdk_42_method_149_code_35 : decode jdk_42_method_149_code 35 = .ok (.iload_n 3, 1) := by decide +kernel
theorem d_jdk_42_method_149_code_36 : decode jdk_42_method_149_code 36 = .ok (.invokestatic 177, 3) := by decide +kernel
theorem d_jdk_42_method_149_code_39 : decode jdk_42_method_149_code 39 = .ok (.astore 5, 2) := by decide +kernel
theorem d_jdk_42_method_149_code_41 : decode jdk_42_method_149_code 41 = .ok (.aload_n 0, 1) := by decide +kernel
theorem d_jdk_42_method_149_code_42 : decode jdk_42_method_149_code 42 = .ok (.aload 5, 2) := by decide +kernel
theorem d_jdk_42_method_149_code_44 : decode jdk_42_method_149_code 44 = .ok (.iload_n 3, 1) := by decide +kernel
theorem d_jdk_42_method_149_code_45 : decode jdk_42_method_149_code 45 = .ok (.invokestatic 47, 3) := by decide +kernel
theorem d_jdk_42_method_149_code_48 : decode jdk_42_method_149_code 48 = .ok (.putfield 15, 3) := by decide +kernel
theorem d_jdk_42_method_149_code_51 : decode jdk_42_method_149_code 51 = .ok (.aload_n 0, 1) := by decide +kernel
theorem d_jdk_42_method_149_code_52 : decode jdk_42_method_149_code 52 = .ok (.aload 5, 2) := by decide +kernel
theorem d_jdk_42_method_149_code_54 : decode jdk_42_method_149_code 54 = .ok (.putfield 9, 3) := by decide +kernel
theorem d_jdk_42_method_149_code_57 : decode jdk_42_method_149_code 57 = .ok (.return_, 1) := by decide +kernel
theorem d_jdk_42_method_150_code_0 : decode jdk_42_method_150_code 0 = .ok (.aload_n 0, 1) := by decide +kernel
theorem d_jdk_42_method_150_code_1 : decode jdk_42_method_150_code 1 = .ok (.invokespecial 1, 3) := by decide +kernel
theorem d_jdk_42_method_150_code_4 : decode jdk_42_method_150_code 4 = .ok (.aload_n 1, 1) := by decide +kernel
theorem d_jdk_42_method_150_code_5 : decode jdk_42_method_150_code 5 = .ok (.invokevirtual 552, 3) := by decide +kernel
theorem d_jdk_42_method_150_code_8 : decode jdk_42_method_150_code 8 = .ok (.astore_n 3, 1) := by decide +kernel
theorem d_jdk_42_method_150_code_9 : decode jdk_42_method_150_code 9 = .ok (.aload_n 1, 1) := by decide +kernel
theorem d_jdk_42_method_150_code_10 : decode jdk_42_method_150_code 10 = .ok (.invokevirtual 549, 3) := by decide +kernel
theorem d_jdk_42_method_150_code_13 : decode jdk_42_method_150_code 13 = .ok (.istore 4, 2) := by decide +kernel
theorem d_jdk_42_method_150_code_15 : decode jdk_42_method_150_code 15 = .ok (.aload_n 1, 1) := by decide +kernel
theorem d_jdk_42_method_150_code_16 : decode jdk_42_method_150_code 16 = .ok (.invokevirtual 1047, 3) := by decide +kernel
theorem d_jdk_42_method_150_code_19 : decode jdk_42_method_150_code 19 = .ok (.ifCond .eq 22, 3) := by decide +kernel
theorem d_jdk_42_method_150_code_22 : decode jdk_42_method_150_code 22 = .ok (.aload_n 0, 1) := by decide +kernel
theorem d_jdk_42_method_150_code_23 : decode jdk_42_method_150_code 23 = .ok (.iconst 0, 1) := by decide +kernel
theorem d_jdk_42_method_150_code_24 : decode jdk_42_method_150_code 24 = .ok (.putfield 15, 3) := by decide +kernel
theorem d_jdk_42_method_150_code_27 : decode jdk_42_method_150_code 27 = .ok (.aload_n 0, 1) := by decide +kernel
theorem d_jdk_42_method_150_code_28 : decode jdk_42_method_150_code 28 = .ok (.aload_n 3, 1) := by decide +kernel
theorem d_jdk_42_method_150_code_29 : decode jdk_42_method_150_code 29 = .ok (.iconst 0, 1) := by decide +kernel
theorem d_jdk_42_method_150_code_30 : decode jdk_42_method_150_code 30 = .ok (.iload 4, 2) := by decide +kernel
theorem d_jdk_42_method_150_code_32 : decode jdk_42_method_150_code 32 = .ok (.invokestatic 54, 3) := by decide +kernel
theorem d_jdk_42_method_150_code_35 : decode jdk_42_method_150_code 35 = .ok (.putfield 9, 3) := by decide +kernel
theorem d_jdk_42_method_150_code_38 : decode jdk_42_method_150_code 38 = .ok (.goto 59, 3) := by decide +kernel
theorem d_jdk_42_method_150_code_97 : decode jdk_42_method_150_code 97 = .ok (.return_, 1) := by decide +kernel
theorem d_jdk_42_method_152_code_0 : decode jdk_42_method_152_code 0 = .ok (.getstatic 38, 3) := by decide +kernel
theorem d_jdk_42_method_152_code_3 : decode jdk_42_method_152_code 3 = .ok (.ifCond .eq 10, 3) := by decide +kernel
theorem d_jdk_42_method_152_code_6 : decode jdk_42_method_152_code 6 = .ok (.aload_n 0, 1) := by decide +kernel
theorem d_jdk_42_method_152_code_7 : decode jdk_42_method_152_code 7 = .ok (.getfield 15, 3) := by decide +kernel
theorem d_jdk_42_method_152_code_10 : decode jdk_42_method_152_code 10 = .ok (.goto 4, 3) := by decide +kernel
theorem d_jdk_42_method_152_code_14 : decode jdk_42_method_152_code 14 = .ok (.ireturn, 1) := by decide +kernel
theorem d_jdk_42_method_3_code_0 : decode jdk_42_method_3_code 0 = .ok (.aload_n 0, 1) := by decide +kernel
theorem d_jdk_42_method_3_code_1 : decode jdk_42_method_3_code 1 = .ok (.aload_n 1, 1) := by decide +kernel
theorem d_jdk_42_method_3_code_2 : decode jdk_42_method_3_code 2 = .ok (.iconst 0, 1) := by decide +kernel
theorem d_jdk_42_method_3_code_3 : decode jdk_42_method_3_code 3 = .ok (.aload_n 1, 1) := by decide +kernel
theorem d_jdk_42_method_3_code_4 : decode jdk_42_method_3_code 4 = .ok (.arraylength, 1) := by decide +kernel
theorem d_jdk_42_method_3_code_5 : decode jdk_42_method_3_code 5 = .ok (.aconst_null, 1) := by decide +kernel
theorem d_jdk_42_method_3_code_6 : decode jdk_42_method_3_code 6 = .ok (.invokespecial 27, 3) := by decide +kernel
theorem d_jdk_42_method_3_code_9 : decode jdk_42_method_3_code 9 = .ok (.return_, 1) := by decide +kernel
theorem d_jdk_42_method_53_code_0 : decode jdk_42_method_53_code 0 = .ok (.aload_n 0, 1) := by decide +kernel
theorem d_jdk_42_method_53_code_1 : decode jdk_42_method_53_code 1 = .ok (.aload_n 1, 1) := by decide +kernel
theorem d_jdk_42_method_53_code_2 : decode jdk_42_method_53_code 2 = .ok (.aconst_null, 1) := by decide +kernel
theorem d_jdk_42_method_53_code_3 : decode jdk_42_method_53_code 3 = .ok (.invokespecial 489, 3) := by decide +kernel
theorem d_jdk_42_method_53_code_6 : decode jdk_42_method_53_code 6 = .ok (.return_, 1) := by decide +kernel
theorem d_jdk_42_method_54_code_0 : decode jdk_42_method_54_code 0 = .ok (.aload_n 0, 1) := by decide +kernel
theorem d_jdk_42_method_54_code_1 : decode jdk_42_method_54_code 1 = .ok (.getfield 9, 3) := by decide +kernel
theorem d_jdk_42_method_54_code_4 : decode jdk_42_method_54_code 4 = .ok (.arraylength, 1) := by decide +kernel
theorem d_jdk_42_method_54_code_5 : decode jdk_42_method_54_code 5 = .ok (.aload_n 0, 1) := by decide +kernel
theorem d_jdk_42_method_54_code_6 : decode jdk_42_method_54_code 6 = .ok (.invokevirtual 335, 3) := by decide +kernel
theorem d_jdk_42_method_54_code_9 : decode jdk_42_method_54_code 9 = .ok (.ishr, 1) := by decide +kernel
theorem d_jdk_42_method_54_code_10 : decode jdk_42_method_54_code 10 = .ok (.ireturn, 1) := by decide +kernel
theorem d_jdk_42_method_66_code_0 : decode jdk_42_method_66_code 0 = .ok (.aload_n 0, 1) := by decide +kernel
theorem d_jdk_42_method_66_code_1 : decode jdk_42_method_66_code 1 = .ok (.aload_n 1, 1) := by decide +kernel
theorem d_jdk_42_method_66_code_2 : decode jdk_42_method_66_code 2 = .ok (.if_acmp .ne 5, 3) := by decide +kernel
theorem d_jdk_42_method_66_code_5 : decode jdk_42_method_66_code 5 = .ok (.iconst 1, 1) := by decide +kernel
theorem d_jdk_42_method_66_code_6 : decode jdk_42_method_66_code 6 = .ok (.ireturn, 1) := by decide +kernel
theorem d_jdk_42_method_66_code_7 : decode jdk_42_method_66_code 7 = .ok (.aload_n 1, 1) := by decide +kernel
theorem d_jdk_42_method_66_code_8 : decode jdk_42_method_66_code 8 = .ok (.instanceof 10, 3) := by decide +kernel
theorem d_jdk_42_method_66_code_11 : decode jdk_42_method_66_code 11 = .ok (.ifCond .eq 43, 3) := by decide +kernel
theorem d_jdk_42_method_66_code_14 : decode jdk_42_method_66_code 14 = .ok (.aload_n 1, 1) := by decide +kernel
theorem d_jdk_42_method_66_code_15 : decode jdk_42_method_66_code 15 = .ok (.checkcast 10, 3) := by decide +kernel
theorem d_jdk_42_method_66_code_18 : decode jdk_42_method_66_code 18 = .ok (.astore_n 2, 1) := by decide +kernel
theorem d_jdk_42_method_66_code_19 : decode jdk_42_method_66_code 19 = .ok (.getstatic 38, 3) := by decide +kernel
theorem d_jdk_42_method_66_code_22 : decode jdk_42_method_66_code 22 = .ok (.ifCond .eq 14, 3) := by decide +kernel
theorem d_jdk_42_method_66_code_25 : decode jdk_42_method_66_code 25 = .ok (.aload_n 0, 1) := by decide +kernel
theorem d_jdk_42_method_66_code_26 : decode jdk_42_method_66_code 26 = .ok (.getfield 15, 3) := by decide +kernel
theorem d_jdk_42_method_66_code_29 : decode jdk_42_method_66_code 29 = .ok (.aload_n 2, 1) := by decide +kernel
theorem d_jdk_42_method_66_code_30 : decode jdk_42_method_66_code 30 = .ok (.getfield 15, 3) := by decide +kernel
theorem d_jdk_42_method_66_code_33 : decode jdk_42_method_66_code 33 = .ok (.if_icmp .ne 21, 3) := by decide +kernel
theorem d_jdk_42_method_66_code_36 : decode jdk_42_method_66_code 36 = .ok (.aload_n 0, 1) := by decide +kernel
theorem d_jdk_42_method_66_code_37 : decode jdk_42_method_66_code 37 = .ok (.getfield 9, 3) := by decide +kernel
theorem d_jdk_42_method_66_code_40 : decode jdk_42_method_66_code 40 = .ok (.aload_n 2, 1) := by decide +kernel
theorem d_jdk_42_method_66_code_41 : decode jdk_42_method_66_code 41 = .ok (.getfield 9, 3) := by decide +kernel
theorem d_jdk_42_method_66_code_44 : decode jdk_42_method_66_code 44 = .ok (.invokestatic 541, 3) := by decide +kernel
theorem d_jdk_42_method_66_code_47 : decode jdk_42_method_66_code 47 = .ok (.ifCond .eq 7, 3) := by decide +kernel
theorem d_jdk_42_method_66_code_50 : decode jdk_42_method_66_code 50 = .ok (.iconst 1, 1) := by decide +kernel
theorem d_jdk_42_method_66_code_51 : decode jdk_42_method_66_code 51 = .ok (.goto 4, 3) := by decide +kernel
theorem d_jdk_42_method_66_code_54 : decode jdk_42_method_66_code 54 = .ok (.iconst 0, 1) := by decide +kernel
theorem d_jdk_42_method_66_code_55 : decode jdk_42_method_66_code 55 = .ok (.ireturn, 1) := by decide +kernel
theorem d_jdk_43_method_13_code_0 : decode jdk_43_method_13_code 0 = .ok (.aload_n 0, 1) := by decide +kernel
theorem d_jdk_43_method_13_code_1 : decode jdk_43_method_13_code 1 = .ok (.arraylength, 1) := by decide +kernel
theorem d_jdk_43_method_13_code_2 : decode jdk_43_method_13_code 2 = .ok (.aload_n 1, 1) := by decide +kernel
theorem d_jdk_43_method_13_code_3 : decode jdk_43_method_13_code 3 = .ok (.arraylength, 1) := by decide +kernel
theorem d_jdk_43_method_13_code_4 : decode jdk_43_method_13_code 4 = .ok (.if_icmp .ne 30, 3) := by decide +kernel
theorem d_jdk_43_method_13_code_7 : decode jdk_43_method_13_code 7 = .ok (.iconst 0, 1) := by decide +kernel
theorem d_jdk_43_method_13_code_8 : decode jdk_43_method_13_code 8 = .ok (.istore_n 2, 1) := by decide +kernel
theorem d_jdk_43_method_13_code_9 : decode jdk_43_method_13_code 9 = .ok (.iload_n 2, 1) := by decide +kernel
theorem d_jdk_43_method_13_code_10 : decode jdk_43_method_13_code 10 = .ok (.aload_n 0, 1) := by decide +kernel
theorem d_jdk_43_method_13_code_11 : decode jdk_43_method_13_code 11 = .ok (.arraylength, 1) := by decide +kernel
theorem d_jdk_43_method_13_code_12 : decode jdk_43_method_13_code 12 = .ok (.if_icmp .ge 20, 3) := by decide +kernel
theorem d_jdk_43_method_13_code_15 : decode jdk_43_method_13_code 15 = .ok (.aload_n 0, 1) := by decide +kernel
theorem d_jdk_43_method_13_code_16 : decode jdk_43_method_13_code 16 = .ok (.iload_n 2, 1) := by decide +kernel
theorem d_jdk_43_method_13_code_17 : decode jdk_43_method_13_code 17 = .ok (.baload, 1) := by decide +kernel
theorem d_jdk_43_method_13_code_18 : decode jdk_43_method_13_code 18 = .ok (.aload_n 1, 1) := by decide +kernel
theorem d_jdk_43_method_13_code_19 : decode jdk_43_method_13_code 19 = .ok (.iload_n 2, 1) := by decide +kernel
theorem d_jdk_43_method_13_code_20 : decode jdk_43_method_13_code 20 = .ok (.baload, 1) := by decide +kernel
theorem d_jdk_43_method_13_code_21 : decode jdk_43_method_13_code 21 = .ok (.if_icmp .eq 5, 3) := by decide +kernel
theorem d_jdk_43_method_13_code_24 : decode jdk_43_method_13_code 24 = .ok (.iconst 0, 1) := by decide +kernel
theorem d_jdk_43_method_13_code_25 : decode jdk_43_method_13_code 25 = .ok (.ireturn, 1) := by decide +kernel
theorem d_jdk_43_method_13_code_26 : decode jdk_43_method_13_code 26 = .ok (.iinc 2 1, 3) := by decide +kernel
theorem d_jdk_43_method_13_code_29 : decode jdk_43_method_13_code 29 = .ok (.goto (-20), 3) := by decide +kernel
theorem d_jdk_43_method_13_code_32 : decode jdk_43_method_13_code 32 = .ok (.iconst 1, 1) := by decide +kernel
theorem d_jdk_43_method_13_code_33 : decode jdk_43_method_13_code 33 = .ok (.ireturn, 1) := by decide +kernel
theorem d_jdk_43_method_13_code_34 : decode jdk_43_method_13_code 34 = .ok (.iconst 0, 1) := by decide +kernel
theorem d_jdk_43_method_13_code_35 : decode jdk_43_method_13_code 35 = .ok (.ireturn, 1) := by decide +kernel
theorem d_jdk_52_method_15_code_0 : decode jdk_52_method_15_code 0 = .ok (.iload_n 1, 1) := by decide +kernel
theorem d_jdk_52_method_15_code_1 : decode jdk_52_method_15_code 1 = .ok (.aload_n 0, 1) := by decide +kernel
theorem d_jdk_52_method_15_code_2 : decode jdk_52_method_15_code 2 = .ok (.arraylength, 1) := by decide +kernel
theorem d_jdk_52_method_15_code_3 : decode jdk_52_method_15_code 3 = .ok (.isub, 1) := by decide +kernel
theorem d_jdk_52_method_15_code_4 : decode jdk_52_method_15_code 4 = .ok (.bipush 31, 2) := by decide +kernel
theorem d_jdk_52_method_15_code_6 : decode jdk_52_method_15_code 6 = .ok (.iushr, 1) := by decide +kernel
theorem d_jdk_52_method_15_code_7 : decode jdk_52_method_15_code 7 = .ok (.i2b, 1) := by decide +kernel
theorem d_jdk_52_method_15_code_8 : decode jdk_52_method_15_code 8 = .ok (.ireturn, 1) := by decide +kernel
theorem d_jdk_52_method_16_code_0 : decode jdk_52_method_16_code 0 = .ok (.iload_n 2, 1) := by decide +kernel
theorem d_jdk_52_method_16_code_1 : decode jdk_52_method_16_code 1 = .ok (.newarray .byte, 2) := by decide +kernel
theorem d_jdk_52_method_16_code_3 : decode jdk_52_method_16_code 3 = .ok (.astore_n 3, 1) := by decide +kernel
theorem d_jdk_52_method_16_code_4 : decode jdk_52_method_16_code 4 = .ok (.aload_n 0, 1) := by decide +kernel
theorem d_jdk_52_method_16_code_5 : decode jdk_52_method_16_code 5 = .ok (.iload_n 1, 1) := by decide +kernel
theorem d_jdk_52_method_16_code_6 : decode jdk_52_method_16_code 6 = .ok (.aload_n 3, 1) := by decide +kernel
theorem d_jdk_52_method_16_code_7 : decode jdk_52_method_16_code 7 = .ok (.iconst 0, 1) := by decide +kernel
theorem d_jdk_52_method_16_code_8 : decode jdk_52_method_16_code 8 = .ok (.iload_n 2, 1) := by decide +kernel
theorem d_jdk_52_method_16_code_9 : decode jdk_52_method_16_code 9 = .ok (.invokestatic 115, 3) := by decide +kernel
theorem d_jdk_52_method_16_code_12 : decode jdk_52_method_16_code 12 = .ok (.istore 4, 2) := by decide +kernel
theorem d_jdk_52_method_16_code_14 : decode jdk_52_method_16_code 14 = .ok (.iload 4, 2) := by decide +kernel
theorem d_jdk_52_method_16_code_16 : decode jdk_52_method_16_code 16 = .ok (.iload_n 2, 1) := by decide +kernel
theorem d_jdk_52_method_16_code_17 : decode jdk_52_method_16_code 17 = .ok (.if_icmp .eq 40, 3) := by decide +kernel
theorem d_jdk_52_method_16_code_57 : decode jdk_52_method_16_code 57 = .ok (.aload_n 3, 1) := by decide +kernel
theorem d_jdk_52_method_16_code_58 : decode jdk_52_method_16_code 58 = .ok (.areturn, 1) := by decide +kernel
theorem d_jdk_52_method_21_code_0 : decode jdk_52_method_21_code 0 = .ok (.iconst 0, 1) := by decide +kernel
theorem d_jdk_52_method_21_code_1 : decode jdk_52_method_21_code 1 = .ok (.istore 5, 2) := by decide +kernel
theorem d_jdk_52_method_21_code_3 : decode jdk_52_method_21_code 3 = .ok (.iload 5, 2) := by decide +kernel
theorem d_jdk_52_method_21_code_5 : decode jdk_52_method_21_code 5 = .ok (.iload 4, 2) := by decide +kernel
theorem d_jdk_52_method_21_code_7 : decode jdk_52_method_21_code 7 = .ok (.if_icmp .ge 37, 3) := by decide +kernel
theorem d_jdk_52_method_21_code_10 : decode jdk_52_method_21_code 10 = .ok (.aload_n 0, 1) := by decide +kernel
theorem d_jdk_52_method_21_code_11 : decode jdk_52_method_21_code 11 = .ok (.iload_n 1, 1) := by decide +kernel
theorem d_jdk_52_method_21_code_12 : decode jdk_52_method_21_code 12 = .ok (.caload, 1) := by decide +kernel
theorem d_jdk_52_method_21_code_13 : decode jdk_52_method_21_code 13 = .ok (.istore 6, 2) := by decide +kernel
theorem d_jdk_52_method_21_code_15 : decode jdk_52_method_21_code 15 = .ok (.iload 6, 2) := by decide +kernel
theorem d_jdk_52_method_21_code_17 : decode jdk_52_method_21_code 17 = .ok (.sipush 255, 3) := by decide +kernel
theorem d_jdk_52_method_21_code_20 : decode jdk_52_method_21_code 20 = .ok (.if_icmp .le 6, 3) := by decide +kernel
theorem d_jdk_52_method_21_code_26 : decode jdk_52_method_21_code 26 = .ok (.aload_n 2, 1) := by decide +kernel
theorem d_jdk_52_method_21_code_27 : decode jdk_52_method_21_code 27 = .ok (.iload_n 3, 1) := by decide +kernel
theorem d_jdk_52_method_21_code_28 : decode jdk_52_method_21_code 28 = .ok (.iload 6, 2) := by decide +kernel
theorem d_jdk_52_method_21_code_30 : decode jdk_52_method_21_code 30 = .ok (.i2b, 1) := by decide +kernel
theorem d_jdk_52_method_21_code_31 : decode jdk_52_method_21_code 31 = .ok (.bastore, 1) := by decide +kernel
theorem d_jdk_52_method_21_code_32 : decode jdk_52_method_21_code 32 = .ok (.iinc 1 1, 3) := by decide +kernel
theorem d_jdk_52_method_21_code_35 : decode jdk_52_method_21_code 35 = .ok (.iinc 3 1, 3) := by decide +kernel
theorem d_jdk_52_method_21_code_38 : decode jdk_52_method_21_code 38 = .ok (.iinc 5 1, 3) := by decide +kernel
theorem d_jdk_52_method_21_code_41 : decode jdk_52_method_21_code 41 = .ok (.goto (-38), 3) := by decide +kernel
theorem d_jdk_52_method_21_code_44 : decode jdk_52_method_21_code 44 = .ok (.iload 4, 2) := by decide +kernel
theorem d_jdk_52_method_21_code_46 : decode jdk_52_method_21_code 46 = .ok (.ireturn, 1) := by decide +kernel
theorem d_jdk_65_method_131_code_0 : decode jdk_65_method_131_code 0 = .ok (.iload_n 1, 1) := by decide +kernel
theorem d_jdk_65_method_131_code_1 : decode jdk_65_method_131_code 1 = .ok (.iload_n 0, 1) := by decide +kernel
theorem d_jdk_65_method_131_code_2 : decode jdk_65_method_131_code 2 = .ok (.if_icmp .ge 35, 3) := by decide +kernel
theorem d_jdk_65_method_131_code_37 : decode jdk_65_method_131_code 37 = .ok (.return_, 1) := by decide +kernel
theorem d_jdk_65_method_132_code_0 : decode jdk_65_method_132_code 0 = .ok (.iload_n 1, 1) := by decide +kernel
theorem d_jdk_65_method_132_code_1 : decode jdk_65_method_132_code 1 = .ok (.ifCond .ne 9, 3) := by decide +kernel
theorem d_jdk_65_method_132_code_4 : decode jdk_65_method_132_code 4 = .ok (.iload_n 2, 1) := by decide +kernel
theorem d_jdk_65_method_132_code_5 : decode jdk_65_method_132_code 5 = .ok (.aload_n 0, 1) := by decide +kernel
theorem d_jdk_65_method_132_code_6 : decode jdk_65_method_132_code 6 = .ok (.arraylength, 1) := by decide +kernel
theorem d_jdk_65_method_132_code_7 : decode jdk_65_method_132_code 7 = .ok (.if_icmp .eq 10, 3) := by decide +kernel
theorem d_jdk_65_method_132_code_10 : decode jdk_65_method_132_code 10 = .ok (.aload_n 0, 1) := by decide +kernel
theorem d_jdk_65_method_132_code_11 : decode jdk_65_method_132_code 11 = .ok (.iload_n 1, 1) := by decide +kernel
theorem d_jdk_65_method_132_code_12 : decode jdk_65_method_132_code 12 = .ok (.iload_n 2, 1) := by decide +kernel
theorem d_jdk_65_method_132_code_13 : decode jdk_65_method_132_code 13 = .ok (.invokestatic 339, 3) := by decide +kernel
theorem d_jdk_65_method_132_code_16 : decode jdk_65_method_132_code 16 = .ok (.areturn, 1) := by decide +kernel
theorem d_jdk_65_method_133_code_0 : decode jdk_65_method_133_code 0 = .ok (.iload_n 1, 1) := by decide +kernel
theorem d_jdk_65_method_133_code_1 : decode jdk_65_method_133_code 1 = .ok (.iload_n 2, 1) := by decide +kernel
theorem d_jdk_65_method_133_code_2 : decode jdk_65_method_133_code 2 = .ok (.invokestatic 343, 3) := by decide +kernel
theorem d_jdk_65_method_133_code_5 : decode jdk_65_method_133_code 5 = .ok (.iload_n 2, 1) := by decide +kernel
theorem d_jdk_65_method_133_code_6 : decode jdk_65_method_133_code 6 = .ok (.iload_n 1, 1) := by decide +kernel
theorem d_jdk_65_method_133_code_7 : decode jdk_65_method_133_code 7 = .ok (.isub, 1) := by decide +kernel
theorem d_jdk_65_method_133_code_8 : decode jdk_65_method_133_code 8 = .ok (.istore_n 3, 1) := by decide +kernel
theorem d_jdk_65_method_133_code_9 : decode jdk_65_method_133_code 9 = .ok (.iload_n 3, 1) := by decide +kernel
theorem d_jdk_65_method_133_code_10 : decode jdk_65_method_133_code 10 = .ok (.newarray .byte, 2) := by decide +kernel
theorem d_jdk_65_method_133_code_12 : decode jdk_65_method_133_code 12 = .ok (.astore 4, 2) := by decide +kernel
theorem d_jdk_65_method_133_code_14 : decode jdk_65_method_133_code 14 = .ok (.aload_n 0, 1) := by decide +kernel
theorem d_jdk_65_method_133_code_15 : decode jdk_65_method_133_code 15 = .ok (.iload_n 1, 1) := by decide +kernel
theorem d_jdk_65_method_133_code_16 : decode jdk_65_method_133_code 16 = .ok (.aload 4, 2) := by decide +kernel
theorem d_jdk_65_method_133_code_18 : decode jdk_65_method_133_code 18 = .ok (.iconst 0, 1) := by decide +kernel
theorem d_jdk_65_method_133_code_19 : decode jdk_65_method_133_code 19 = .ok (.aload_n 0, 1) := by decide +kernel
theorem d_jdk_65_method_133_code_20 : decode jdk_65_method_133_code 20 = .ok (.arraylength, 1) := by decide +kernel
theorem d_jdk_65_method_133_code_21 : decode jdk_65_method_133_code 21 = .ok (.iload_n 1, 1) := by decide +kernel
theorem d_jdk_65_method_133_code_22 : decode jdk_65_method_133_code 22 = .ok (.isub, 1) := by decide +kernel
theorem d_jdk_65_method_133_code_23 : decode jdk_65_method_133_code 23 = .ok (.iload_n 3, 1) := by decide +kernel
theorem d_jdk_65_method_133_code_24 : decode jdk_65_method_133_code 24 = .ok (.invokestatic 304, 3) := by decide +kernel
theorem d_jdk_65_method_133_code_27 : decode jdk_65_method_133_code 27 = .ok (.invokestatic 150, 3) := by decide +kernel
theorem d_jdk_65_method_133_code_30 : decode jdk_65_method_133_code 30 = .ok (.aload 4, 2) := by decide +kernel
theorem d_jdk_65_method_133_code_32 : decode jdk_65_method_133_code 32 = .ok (.areturn, 1) := by decide +kernel
theorem d_jdk_67_method_1_code_0 : decode jdk_67_method_1_code 0 = .ok (.aload_n 0, 1) := by decide +kernel
theorem d_jdk_67_method_1_code_1 : decode jdk_67_method_1_code 1 = .ok (.bipush 16, 2) := by decide +kernel
theorem d_jdk_67_method_1_code_3 : decode jdk_67_method_1_code 3 = .ok (.invokespecial 1, 3) := by decide +kernel
theorem d_jdk_67_method_1_code_6 : decode jdk_67_method_1_code 6 = .ok (.return_, 1) := by decide +kernel
theorem d_jdk_67_method_42_code_0 : decode jdk_67_method_42_code 0 = .ok (.new 18, 3) := by decide +kernel
theorem d_jdk_67_method_42_code_3 : decode jdk_67_method_42_code 3 = .ok (.dup, 1) := by decide +kernel
theorem d_jdk_67_method_42_code_4 : decode jdk_67_method_42_code 4 = .ok (.aload_n 0, 1) := by decide +kernel
theorem d_jdk_67_method_42_code_5 : decode jdk_67_method_42_code 5 = .ok (.invokespecial 137, 3) := by decide +kernel
theorem d_jdk_67_method_42_code_8 : decode jdk_67_method_42_code 8 = .ok (.areturn, 1) := by decide +kernel
theorem d_jdk_67_method_7_code_0 : decode jdk_67_method_7_code 0 = .ok (.aload_n 0, 1) := by decide +kernel
theorem d_jdk_67_method_7_code_1 : decode jdk_67_method_7_code 1 = .ok (.aload_n 1, 1) := by decide +kernel
theorem d_jdk_67_method_7_code_2 : decode jdk_67_method_7_code 2 = .ok (.invokespecial 29, 3) := by decide +kernel
theorem d_jdk_67_method_7_code_5 : decode jdk_67_method_7_code 5 = .ok (.pop, 1) := by decide +kernel
theorem d_jdk_67_method_7_code_6 : decode jdk_67_method_7_code 6 = .ok (.aload_n 0, 1) := by decide +kernel
theorem d_jdk_67_method_7_code_7 : decode jdk_67_method_7_code 7 = .ok (.areturn, 1) := by decide +kernel
theorem d_jdk_67_method_93_code_0 : decode jdk_67_method_93_code 0 = .ok (.aload_n 0, 1) := by decide +kernel
theorem d_jdk_67_method_93_code_1 : decode jdk_67_method_93_code 1 = .ok (.invokespecial 343, 3) := by decide +kernel
theorem d_jdk_67_method_93_code_4 : decode jdk_67_method_93_code 4 = .ok (.ireturn, 1) := by decide +kernel
theorem d_jdk_68_method_22_code_0 : decode jdk_68_method_22_code 0 = .ok (.aload_n 1, 1) := by decide +kernel
theorem d_jdk_68_method_22_code_1 : decode jdk_68_method_22_code 1 = .ok (.ifnonnull 8, 3) := by decide +kernel
theorem d_jdk_68_method_22_code_9 : decode jdk_68_method_22_code 9 = .ok (.aload_n 1, 1) := by decide +kernel
theorem d_jdk_68_method_22_code_10 : decode jdk_68_method_22_code 10 = .ok (.invokevirtual 32, 3) := by decide +kernel
theorem d_jdk_68_method_22_code_13 : decode jdk_68_method_22_code 13 = .ok (.istore_n 2, 1) := by decide +kernel
theorem d_jdk_68_method_22_code_14 : decode jdk_68_method_22_code 14 = .ok (.aload_n 0, 1) := by decide +kernel
theorem d_jdk_68_method_22_code_15 : decode jdk_68_method_22_code 15 = .ok (.aload_n 0, 1) := by decide +kernel
theorem d_jdk_68_method_22_code_16 : decode jdk_68_method_22_code 16 = .ok (.getfield 79, 3) := by decide +kernel
theorem d_jdk_68_method_22_code_19 : decode jdk_68_method_22_code 19 = .ok (.iload_n 2, 1) := by decide +kernel
theorem d_jdk_68_method_22_code_20 : decode jdk_68_method_22_code 20 = .ok (.iadd, 1) := by decide +kernel
theorem d_jdk_68_method_22_code_21 : decode jdk_68_method_22_code 21 = .ok (.invokevirtual 100, 3) := by decide +kernel
theorem d_jdk_68_method_22_code_24 : decode jdk_68_method_22_code 24 = .ok (.aload_n 0, 1) := by decide +kernel
theorem d_jdk_68_method_22_code_25 : decode jdk_68_method_22_code 25 = .ok (.aload_n 0, 1) := by decide +kernel
theorem d_jdk_68_method_22_code_26 : decode jdk_68_method_22_code 26 = .ok (.getfield 79, 3) := by decide +kernel
theorem d_jdk_68_method_22_code_29 : decode jdk_68_method_22_code 29 = .ok (.aload_n 1, 1) := by decide +kernel
theorem d_jdk_68_method_22_code_30 : decode jdk_68_method_22_code 30 = .ok (.invokevirtual 208, 3) := by decide +kernel
theorem d_jdk_68_method_22_code_33 : decode jdk_68_method_22_code 33 = .ok (.aload_n 0, 1) := by decide +kernel
theorem d_jdk_68_method_22_code_34 : decode jdk_68_method_22_code 34 = .ok (.dup, 1) := by decide +kernel
theorem d_jdk_68_method_22_code_35 : decode jdk_68_method_22_code 35 = .ok (.getfield 79, 3) := by decide +kernel
theorem d_jdk_68_method_22_code_38 : decode jdk_68_method_22_code 38 = .ok (.iload_n 2, 1) := by decide +kernel
theorem d_jdk_68_method_22_code_39 : decode jdk_68_method_22_code 39 = .ok (.iadd, 1) := by decide +kernel
theorem d_jdk_68_method_22_code_40 : decode jdk_68_method_22_code 40 = .ok (.putfield 79, 3) := by decide +kernel
theorem d_jdk_68_method_22_code_43 : decode jdk_68_method_22_code 43 = .ok (.aload_n 0, 1) := by decide +kernel
theorem d_jdk_68_method_22_code_44 : decode jdk_68_method_22_code 44 = .ok (.areturn, 1) := by decide +kernel
theorem d_jdk_68_method_2_code_0 : decode jdk_68_method_2_code 0 = .ok (.aload_n 0, 1) := by decide +kernel
theorem d_jdk_68_method_2_code_1 : decode jdk_68_method_2_code 1 = .ok (.invokespecial 3, 3) := by decide +kernel
theorem d_jdk_68_method_2_code_4 : decode jdk_68_method_2_code 4 = .ok (.getstatic 18, 3) := by decide +kernel
theorem d_jdk_68_method_2_code_7 : decode jdk_68_method_2_code 7 = .ok (.ifCond .eq 18, 3) := by decide +kernel
theorem d_jdk_68_method_2_code_10 : decode jdk_68_method_2_code 10 = .ok (.aload_n 0, 1) := by decide +kernel
theorem d_jdk_68_method_2_code_11 : decode jdk_68_method_2_code 11 = .ok (.iload_n 1, 1) := by decide +kernel
theorem d_jdk_68_method_2_code_12 : decode jdk_68_method_2_code 12 = .ok (.newarray .byte, 2) := by decide +kernel
theorem d_jdk_68_method_2_code_14 : decode jdk_68_method_2_code 14 = .ok (.putfield 15, 3) := by decide +kernel
theorem d_jdk_68_method_2_code_17 : decode jdk_68_method_2_code 17 = .ok (.aload_n 0, 1) := by decide +kernel
theorem d_jdk_68_method_2_code_18 : decode jdk_68_method_2_code 18 = .ok (.iconst 0, 1) := by decide +kernel
theorem d_jdk_68_method_2_code_19 : decode jdk_68_method_2_code 19 = .ok (.putfield 22, 3) := by decide +kernel
theorem d_jdk_68_method_2_code_22 : decode jdk_68_method_2_code 22 = .ok (.goto 16, 3) := by decide +kernel
theorem d_jdk_68_method_2_code_38 : decode jdk_68_method_2_code 38 = .ok (.return_, 1) := by decide +kernel
theorem d_jdk_68_method_64_code_0 : decode jdk_68_method_64_code 0 = .ok (.aload_n 0, 1) := by decide +kernel
theorem d_jdk_68_method_64_code_1 : decode jdk_68_method_64_code 1 = .ok (.getfield 15, 3) := by decide +kernel
theorem d_jdk_68_method_64_code_4 : decode jdk_68_method_64_code 4 = .ok (.areturn, 1) := by decide +kernel
theorem d_jdk_68_method_68_code_0 : decode jdk_68_method_68_code 0 = .ok (.getstatic 18, 3) := by decide +kernel
theorem d_jdk_68_method_68_code_3 : decode jdk_68_method_68_code 3 = .ok (.ifCond .eq 14, 3) := by decide +kernel
theorem d_jdk_68_method_68_code_6 : decode jdk_68_method_68_code 6 = .ok (.aload_n 0, 1) := by decide +kernel
theorem d_jdk_68_method_68_code_7 : decode jdk_68_method_68_code 7 = .ok (.getfield 22, 3) := by decide +kernel
theorem d_jdk_68_method_68_code_10 : decode jdk_68_method_68_code 10 = .ok (.ifCond .ne 7, 3) := by decide +kernel
theorem d_jdk_68_method_68_code_13 : decode jdk_68_method_68_code 13 = .ok (.iconst 1, 1) := by decide +kernel
theorem d_jdk_68_method_68_code_14 : decode jdk_68_method_68_code 14 = .ok (.goto 4, 3) := by decide +kernel
theorem d_jdk_68_method_68_code_18 : decode jdk_68_method_68_code 18 = .ok (.ireturn, 1) := by decide +kernel
theorem d_jdk_68_method_6_code_0 : decode jdk_68_method_6_code 0 = .ok (.aload_n 0, 1) := by decide +kernel
theorem d_jdk_68_method_6_code_1 : decode jdk_68_method_6_code 1 = .ok (.getfield 79, 3) := by decide +kernel
theorem d_jdk_68_method_6_code_4 : decode jdk_68_method_6_code 4 = .ok (.ireturn, 1) := by decide +kernel
theorem d_jdk_68_method_71_code_0 : decode jdk_68_method_71_code 0 = .ok (.getstatic 18, 3) := by decide +kernel
theorem d_jdk_68_method_71_code_3 : decode jdk_68_method_71_code 3 = .ok (.ifCond .eq 18, 3) := by decide +kernel
theorem d_jdk_68_method_71_code_6 : decode jdk_68_method_71_code 6 = .ok (.aload_n 0, 1) := by decide +kernel
theorem d_jdk_68_method_71_code_7 : decode jdk_68_method_71_code 7 = .ok (.getfield 22, 3) := by decide +kernel
theorem d_jdk_68_method_71_code_10 : decode jdk_68_method_71_code 10 = .ok (.aload_n 1, 1) := by decide +kernel
theorem d_jdk_68_method_71_code_11 : decode jdk_68_method_71_code 11 = .ok (.invokevirtual 40, 3) := by decide +kernel
theorem d_jdk_68_method_71_code_14 : decode jdk_68_method_71_code 14 = .ok (.if_icmp .eq 7, 3) := by decide +kernel
theorem d_jdk_68_method_71_code_21 : decode jdk_68_method_71_code 21 = .ok (.return_, 1) := by decide +kernel
theorem d_jdk_68_method_73_code_0 : decode jdk_68_method_73_code 0 = .ok (.aload_n 0, 1) := by decide +kernel
theorem d_jdk_68_method_73_code_1 : decode jdk_68_method_73_code 1 = .ok (.aload_n 2, 1) := by decide +kernel
theorem d_jdk_68_method_73_code_2 : decode jdk_68_method_73_code 2 = .ok (.invokevirtual 397, 3) := by decide +kernel
theorem d_jdk_68_method_73_code_5 : decode jdk_68_method_73_code 5 = .ok (.aload_n 2, 1) := by decide +kernel
theorem d_jdk_68_method_73_code_6 : decode jdk_68_method_73_code 6 = .ok (.aload_n 0, 1) := by decide +kernel
theorem d_jdk_68_method_73_code_7 : decode jdk_68_method_73_code 7 = .ok (.getfield 15, 3) := by decide +kernel
theorem d_jdk_68_method_73_code_10 : decode jdk_68_method_73_code 10 = .ok (.iload_n 1, 1) := by decide +kernel
theorem d_jdk_68_method_73_code_11 : decode jdk_68_method_73_code 11 = .ok (.aload_n 0, 1) := by decide +kernel
theorem d_jdk_68_method_73_code_12 : decode jdk_68_method_73_code 12 = .ok (.getfield 22, 3) := by decide +kernel
theorem d_jdk_68_method_73_code_15 : decode jdk_68_method_73_code 15 = .ok (.invokevirtual 399, 3) := by decide +kernel
theorem d_jdk_68_method_73_code_18 : decode jdk_68_method_73_code 18 = .ok (.return_, 1) := by decide +kernel
theorem d_jdk_68_method_9_code_0 : decode jdk_68_method_9_code 0 = .ok (.aload_n 0, 1) := by decide +kernel
theorem d_jdk_68_method_9_code_1 : decode jdk_68_method_9_code 1 = .ok (.getfield 15, 3) := by decide +kernel
theorem d_jdk_68_method_9_code_4 : decode jdk_68_method_9_code 4 = .ok (.arraylength, 1) := by decide +kernel
theorem d_jdk_68_method_9_code_5 : decode jdk_68_method_9_code 5 = .ok (.aload_n 0, 1) := by decide +kernel
theorem d_jdk_68_method_9_code_6 : decode jdk_68_method_9_code 6 = .ok (.getfield 22, 3) := by decide +kernel
theorem d_jdk_68_method_9_code_9 : decode jdk_68_method_9_code 9 = .ok (.ishr, 1) := by decide +kernel
theorem d_jdk_68_method_9_code_10 : decode jdk_68_method_9_code 10 = .ok (.istore_n 2, 1) := by decide +kernel
theorem d_jdk_68_method_9_code_11 : decode jdk_68_method_9_code 11 = .ok (.iload_n 1, 1) := by decide +kernel
theorem d_jdk_68_method_9_code_12 : decode jdk_68_method_9_code 12 = .ok (.iload_n 2, 1) := by decide +kernel
theorem d_jdk_68_method_9_code_13 : decode jdk_68_method_9_code 13 = .ok (.isub, 1) := by decide +kernel
theorem d_jdk_68_method_9_code_14 : decode jdk_68_method_9_code 14 = .ok (.ifCond .le 24, 3) := by decide +kernel
theorem d_jdk_68_method_9_code_38 : decode jdk_68_method_9_code 38 = .ok (.return_, 1) := by decide +kernel
theorem d_method_3_code_0 : decode method_3_code 0 = .ok (.iload_n 0, 1) := by decide +kernel
theorem d_method_3_code_1 : decode method_3_code 1 = .ok (.ifCond .ne 14, 3) := by decide +kernel
theorem d_method_3_code_4 : decode method_3_code 4 = .ok (.new 27, 3) := by decide +kernel
theorem d_method_3_code_7 : decode method_3_code 7 = .ok (.dup, 1) := by decide +kernel
theorem d_method_3_code_8 : decode method_3_code 8 = .ok (.iconst 0, 1) := by decide +kernel
theorem d_method_3_code_9 : decode method_3_code 9 = .ok (.newarray .char, 2) := by decide +kernel
theorem d_method_3_code_11 : decode method_3_code 11 = .ok (.invokespecial 45, 3) := by decide +kernel
theorem d_method_3_code_14 : decode method_3_code 14 = .ok (.areturn, 1) := by decide +kernel
theorem d_method_3_code_15 : decode method_3_code 15 = .ok (.iload_n 0, 1) := by decide +kernel
theorem d_method_3_code_16 : decode method_3_code 16 = .ok (.iconst 1, 1) := by decide +kernel
theorem d_method_3_code_17 : decode method_3_code 17 = .ok (.if_icmp .ne 18, 3) := by decide +kernel
theorem d_method_3_code_20 : decode method_3_code 20 = .ok (.new 27, 3) := by decide +kernel
theorem d_method_3_code_23 : decode method_3_code 23 = .ok (.dup, 1) := by decide +kernel
theorem d_method_3_code_24 : decode method_3_code 24 = .ok (.iconst 1, 1) := by decide +kernel
theorem d_method_3_code_25 : decode method_3_code 25 = .ok (.newarray .char, 2) := by decide +kernel
theorem d_method_3_code_27 : decode method_3_code 27 = .ok (.dup, 1) := by decide +kernel
theorem d_method_3_code_28 : decode method_3_code 28 = .ok (.iconst 0, 1) := by decide +kernel
theorem d_method_3_code_29 : decode method_3_code 29 = .ok (.iload_n 1, 1) := by decide +kernel
theorem d_method_3_code_30 : decode method_3_code 30 = .ok (.castore, 1) := by decide +kernel
theorem d_method_3_code_31 : decode method_3_code 31 = .ok (.invokespecial 45, 3) := by decide +kernel
theorem d_method_3_code_34 : decode method_3_code 34 = .ok (.areturn, 1) := by decide +kernel
theorem d_method_3_code_35 : decode method_3_code 35 = .ok (.iload_n 0, 1) := by decide +kernel
theorem d_method_3_code_36 : decode method_3_code 36 = .ok (.iconst 2, 1) := by decide +kernel
theorem d_method_3_code_37 : decode method_3_code 37 = .ok (.if_icmp .ne 22, 3) := by decide +kernel
theorem d_method_3_code_40 : decode method_3_code 40 = .ok (.new 27, 3) := by decide +kernel
theorem d_method_3_code_43 : decode method_3_code 43 = .ok (.dup, 1) := by decide +kernel
theorem d_method_3_code_44 : decode method_3_code 44 = .ok (.iconst 2, 1) := by decide +kernel
theorem d_method_3_code_45 : decode method_3_code 45 = .ok (.newarray .char, 2) := by decide +kernel
theorem d_method_3_code_47 : decode method_3_code 47 = .ok (.dup, 1) := by decide +kernel
theorem d_method_3_code_48 : decode method_3_code 48 = .ok (.iconst 0, 1) := by decide +kernel
theorem d_method_3_code_49 : decode method_3_code 49 = .ok (.iload_n 1, 1) := by decide +kernel
theorem d_method_3_code_50 : decode method_3_code 50 = .ok (.castore, 1) := by decide +kernel
theorem d_method_3_code_51 : decode method_3_code 51 = .ok (.dup, 1) := by decide +kernel
theorem d_method_3_code_52 : decode method_3_code 52 = .ok (.iconst 1, 1) := by decide +kernel
theorem d_method_3_code_53 : decode method_3_code 53 = .ok (.iload_n 2, 1) := by decide +kernel
theorem d_method_3_code_54 : decode method_3_code 54 = .ok (.castore, 1) := by decide +kernel
theorem d_method_3_code_55 : decode method_3_code 55 = .ok (.invokespecial 45, 3) := by decide +kernel
theorem d_method_3_code_58 : decode method_3_code 58 = .ok (.areturn, 1) := by decide +kernel
theorem d_method_3_code_59 : decode method_3_code 59 = .ok (.new 27, 3) := by decide +kernel
theorem d_method_3_code_62 : decode method_3_code 62 = .ok (.dup, 1) := by decide +kernel
theorem d_method_3_code_63 : decode method_3_code 63 = .ok (.iconst 3, 1) := by decide +kernel
theorem d_method_3_code_64 : decode method_3_code 64 = .ok (.newarray .char, 2) := by decide +kernel
theorem d_method_3_code_66 : decode method_3_code 66 = .ok (.dup, 1) := by decide +kernel
theorem d_method_3_code_67 : decode method_3_code 67 = .ok (.iconst 0, 1) := by decide +kernel
theorem d_method_3_code_68 : decode method_3_code 68 = .ok (.iload_n 1, 1) := by decide +kernel
theorem d_method_3_code_69 : decode method_3_code 69 = .ok (.castore, 1) := by decide +kernel
theorem d_method_3_code_70 : decode method_3_code 70 = .ok (.dup, 1) := by decide +kernel
theorem d_method_3_code_71 : decode method_3_code 71 = .ok (.iconst 1, 1) := by decide +kernel
theorem d_method_3_code_72 : decode method_3_code 72 = .ok (.iload_n 2, 1) := by decide +kernel
theorem d_method_3_code_73 : decode method_3_code 73 = .ok (.castore, 1) := by decide +kernel
theorem d_method_3_code_74 : decode method_3_code 74 = .ok (.dup, 1) := by decide +kernel
theorem d_method_3_code_75 : decode method_3_code 75 = .ok (.iconst 2, 1) := by decide +kernel
theorem d_method_3_code_76 : decode method_3_code 76 = .ok (.iload_n 3, 1) := by decide +kernel
theorem d_method_3_code_77 : decode method_3_code 77 = .ok (.castore, 1) := by decide +kernel
theorem d_method_3_code_78 : decode method_3_code 78 = .ok (.invokespecial 45, 3) := by decide +kernel
theorem d_method_3_code_81 : decode method_3_code 81 = .ok (.areturn, 1) := by decide +kernel
theorem d_method_4_code_0 : decode method_4_code 0 = .ok (.iload_n 0, 1) := by decide +kernel
theorem d_method_4_code_1 : decode method_4_code 1 = .ok (.ifCond .ne 24, 3) := by decide +kernel
theorem d_method_4_code_4 : decode method_4_code 4 = .ok (.new 27, 3) := by decide +kernel
theorem d_method_4_code_7 : decode method_4_code 7 = .ok (.dup, 1) := by decide +kernel
theorem d_method_4_code_8 : decode method_4_code 8 = .ok (.iconst 2, 1) := by decide +kernel
theorem d_method_4_code_9 : decode method_4_code 9 = .ok (.newarray .char, 2) := by decide +kernel
theorem d_method_4_code_11 : decode method_4_code 11 = .ok (.dup, 1) := by decide +kernel
theorem d_method_4_code_12 : decode method_4_code 12 = .ok (.iconst 0, 1) := by decide +kernel
theorem d_method_4_code_13 : decode method_4_code 13 = .ok (.bipush 91, 2) := by decide +kernel
theorem d_method_4_code_15 : decode method_4_code 15 = .ok (.castore, 1) := by decide +kernel
theorem d_method_4_code_16 : decode method_4_code 16 = .ok (.dup, 1) := by decide +kernel
theorem d_method_4_code_17 : decode method_4_code 17 = .ok (.iconst 1, 1) := by decide +kernel
theorem d_method_4_code_18 : decode method_4_code 18 = .ok (.bipush 93, 2) := by decide +kernel
theorem d_method_4_code_20 : decode method_4_code 20 = .ok (.castore, 1) := by decide +kernel
theorem d_method_4_code_21 : decode method_4_code 21 = .ok (.invokespecial 45, 3) := by decide +kernel
theorem d_method_4_code_24 : decode method_4_code 24 = .ok (.areturn, 1) := by decide +kernel
theorem d_method_4_code_25 : decode method_4_code 25 = .ok (.iload_n 0, 1) := by decide +kernel
theorem d_method_4_code_26 : decode method_4_code 26 = .ok (.iconst 1, 1) := by decide +kernel
theorem d_method_4_code_27 : decode method_4_code 27 = .ok (.if_icmp .ne 28, 3) := by decide +kernel
theorem d_method_4_code_30 : decode method_4_code 30 = .ok (.new 27, 3) := by decide +kernel
theorem d_method_4_code_33 : decode method_4_code 33 = .ok (.dup, 1) := by decide +kernel
theorem d_method_4_code_34 : decode method_4_code 34 = .ok (.iconst 3, 1) := by decide +kernel
theorem d_method_4_code_35 : decode method_4_code 35 = .ok (.newarray .char, 2) := by decide +kernel
theorem d_method_4_code_37 : decode method_4_code 37 = .ok (.dup, 1) := by decide +kernel
theorem d_method_4_code_38 : decode method_4_code 38 = .ok (.iconst 0, 1) := by decide +kernel
theorem d_method_4_code_39 : decode method_4_code 39 = .ok (.bipush 91, 2) := by decide +kernel
theorem d_method_4_code_41 : decode method_4_code 41 = .ok (.castore, 1) := by decide +kernel
theorem d_method_4_code_42 : decode method_4_code 42 = .ok (.dup, 1) := by decide +kernel
theorem d_method_4_code_43 : decode method_4_code 43 = .ok (.iconst 1, 1) := by decide +kernel
theorem d_method_4_code_44 : decode method_4_code 44 = .ok (.iload_n 1, 1) := by decide +kernel
theorem d_method_4_code_45 : decode method_4_code 45 = .ok (.castore, 1) := by decide +kernel
theorem d_method_4_code_46 : decode method_4_code 46 = .ok (.dup, 1) := by decide +kernel
theorem d_method_4_code_47 : decode method_4_code 47 = .ok (.iconst 2, 1) := by decide +kernel
theorem d_method_4_code_48 : decode method_4_code 48 = .ok (.bipush 93, 2) := by decide +kernel
theorem d_method_4_code_50 : decode method_4_code 50 = .ok (.castore, 1) := by decide +kernel
theorem d_method_4_code_51 : decode method_4_code 51 = .ok (.invokespecial 45, 3) := by decide +kernel
theorem d_method_4_code_54 : decode method_4_code 54 = .ok (.areturn, 1) := by decide +kernel
theorem d_method_4_code_55 : decode method_4_code 55 = .ok (.iload_n 0, 1) := by decide +kernel
theorem d_method_4_code_56 : decode method_4_code 56 = .ok (.iconst 2, 1) := by decide +kernel
theorem d_method_4_code_57 : decode method_4_code 57 = .ok (.if_icmp .ne 32, 3) := by decide +kernel
theorem d_method_4_code_60 : decode method_4_code 60 = .ok (.new 27, 3) := by decide +kernel
theorem d_method_4_code_63 : decode method_4_code 63 = .ok (.dup, 1) := by decide +kernel
theorem d_method_4_code_64 : decode method_4_code 64 = .ok (.iconst 4, 1) := by decide +kernel
theorem d_method_4_code_65 : decode method_4_code 65 = .ok (.newarray .char, 2) := by decide +kernel
theorem d_method_4_code_67 : decode method_4_code 67 = .ok (.dup, 1) := by decide +kernel
theorem d_method_4_code_68 : decode method_4_code 68 = .ok (.iconst 0, 1) := by decide +kernel
theorem d_method_4_code_69 : decode method_4_code 69 = .ok (.bipush 91, 2) := by decide +kernel
theorem d_method_4_code_71 : decode method_4_code 71 = .ok (.castore, 1) := by decide +kernel
theorem d_method_4_code_72 : decode method_4_code 72 = .ok (.dup, 1) := by decide +kernel
theorem d_method_4_code_73 : decode method_4_code 73 = .ok (.iconst 1, 1) := by decide +kernel
theorem d_method_4_code_74 : decode method_4_code 74 = .ok (.iload_n 1, 1) := by decide +kernel
theorem d_method_4_code_75 : decode method_4_code 75 = .ok (.castore, 1) := by decide +kernel
theorem d_method_4_code_76 : decode method_4_code 76 = .ok (.dup, 1) := by decide +kernel
theorem d_method_4_code_77 : decode method_4_code 77 = .ok (.iconst 2, 1) := by decide +kernel
theorem d_method_4_code_78 : decode method_4_code 78 = .ok (.iload_n 2, 1) := by decide +kernel
theorem d_method_4_code_79 : decode method_4_code 79 = .ok (.castore, 1) := by decide +kernel
theorem d_method_4_code_80 : decode method_4_code 80 = .ok (.dup, 1) := by decide +kernel
theorem d_method_4_code_81 : decode method_4_code 81 = .ok (.iconst 3, 1) := by decide +kernel
theorem d_method_4_code_82 : decode method_4_code 82 = .ok (.bipush 93, 2) := by decide +kernel
theorem d_method_4_code_84 : decode method_4_code 84 = .ok (.castore, 1) := by decide +kernel
theorem d_method_4_code_85 : decode method_4_code 85 = .ok (.invokespecial 45, 3) := by decide +kernel
theorem d_method_4_code_88 : decode method_4_code 88 = .ok (.areturn, 1) := by decide +kernel
theorem d_method_4_code_89 : decode method_4_code 89 = .ok (.new 27, 3) := by decide +kernel
theorem d_method_4_code_92 : decode method_4_code 92 = .ok (.dup, 1) := by decide +kernel
theorem d_method_4_code_93 : decode method_4_code 93 = .ok (.iconst 5, 1) := by decide +kernel
theorem d_method_4_code_94 : decode method_4_code 94 = .ok (.newarray .char, 2) := by decide +kernel
theorem d_method_4_code_96 : decode method_4_code 96 = .ok (.dup, 1) := by decide +kernel
theorem d_method_4_code_97 : decode method_4_code 97 = .ok (.iconst 0, 1) := by decide +kernel
theorem d_method_4_code_98 : decode method_4_code 98 = .ok (.bipush 91, 2) := by decide +kernel
theorem d_method_4_code_100 : decode method_4_code 100 = .ok (.castore, 1) := by decide +kernel
theorem d_method_4_code_101 : decode method_4_code 101 = .ok (.dup, 1) := by decide +kernel
theorem d_method_4_code_102 : decode method_4_code 102 = .ok (.iconst 1, 1) := by decide +kernel
theorem d_method_4_code_103 : decode method_4_code 103 = .ok (.iload_n 1, 1) := by decide +kernel
theorem d_method_4_code_104 : decode method_4_code 104 = .ok (.castore, 1) := by decide +kernel
theorem d_method_4_code_105 : decode method_4_code 105 = .ok (.dup, 1) := by decide +kernel
theorem d_method_4_code_106 : decode method_4_code 106 = .ok (.iconst 2, 1) := by decide +kernel
theorem d_method_4_code_107 : decode method_4_code 107 = .ok (.iload_n 2, 1) := by decide +kernel
theorem d_method_4_code_108 : decode method_4_code 108 = .ok (.castore, 1) := by decide +kernel
theorem d_method_4_code_109 : decode method_4_code 109 = .ok (.dup, 1) := by decide +kernel
theorem d_method_4_code_110 : decode method_4_code 110 = .ok (.iconst 3, 1) := by decide +kernel
theorem d_method_4_code_111 : decode method_4_code 111 = .ok (.iload_n 3, 1) := by decide +kernel
theorem d_method_4_code_112 : decode method_4_code 112 = .ok (.castore, 1) := by decide +kernel
theorem d_method_4_code_113 : decode method_4_code 113 = .ok (.dup, 1) := by decide +kernel
theorem d_method_4_code_114 : decode method_4_code 114 = .ok (.iconst 4, 1) := by decide +kernel
theorem d_method_4_code_115 : decode method_4_code 115 = .ok (.bipush 93, 2) := by decide +kernel
theorem d_method_4_code_117 : decode method_4_code 117 = .ok (.castore, 1) := by decide +kernel
theorem d_method_4_code_118 : decode method_4_code 118 = .ok (.invokespecial 45, 3) := by decide +kernel
theorem d_method_4_code_121 : decode method_4_code 121 = .ok (.areturn, 1) := by decide +kernel
theorem d_prog_4_method_10_code_0 : decode prog_4_method_10_code 0 = .ok (.aload_n 0, 1) := by decide +kernel
theorem d_prog_4_method_10_code_1 : decode prog_4_method_10_code 1 = .ok (.invokevirtual 26, 3) := by decide +kernel
theorem d_prog_4_method_10_code_4 : decode prog_4_method_10_code 4 = .ok (.ifCond .eq 35, 3) := by decide +kernel
theorem d_prog_4_method_10_code_39 : decode prog_4_method_10_code 39 = .ok (.aload_n 0, 1) := by decide +kernel
theorem d_prog_4_method_10_code_40 : decode prog_4_method_10_code 40 = .ok (.getfield 7, 3) := by decide +kernel
theorem d_prog_4_method_10_code_43 : decode prog_4_method_10_code 43 = .ok (.astore_n 1, 1) := by decide +kernel
theorem d_prog_4_method_10_code_44 : decode prog_4_method_10_code 44 = .ok (.aload_n 0, 1) := by decide +kernel
theorem d_prog_4_method_10_code_45 : decode prog_4_method_10_code 45 = .ok (.getfield 20, 3) := by decide +kernel
theorem d_prog_4_method_10_code_48 : decode prog_4_method_10_code 48 = .ok (.ifCond .eq 35, 3) := by decide +kernel
theorem d_prog_4_method_10_code_83 : decode prog_4_method_10_code 83 = .ok (.aload_n 0, 1) := by decide +kernel
theorem d_prog_4_method_10_code_84 : decode prog_4_method_10_code 84 = .ok (.getfield 16, 3) := by decide +kernel
theorem d_prog_4_method_10_code_87 : decode prog_4_method_10_code 87 = .ok (.ifCond .eq 8, 3) := by decide +kernel
theorem d_prog_4_method_10_code_95 : decode prog_4_method_10_code 95 = .ok (.new 30, 3) := by decide +kernel
theorem d_prog_4_method_10_code_98 : decode prog_4_method_10_code 98 = .ok (.dup, 1) := by decide +kernel
theorem d_prog_4_method_10_code_99 : decode prog_4_method_10_code 99 = .ok (.invokespecial 32, 3) := by decide +kernel
theorem d_prog_4_method_10_code_102 : decode prog_4_method_10_code 102 = .ok (.ldc 47, 2) := by decide +kernel
theorem d_prog_4_method_10_code_104 : decode prog_4_method_10_code 104 = .ok (.invokevirtual 33, 3) := by decide +kernel
theorem d_prog_4_method_10_code_107 : decode prog_4_method_10_code 107 = .ok (.aload_n 1, 1) := by decide +kernel
theorem d_prog_4_method_10_code_108 : decode prog_4_method_10_code 108 = .ok (.invokevirtual 33, 3) := by decide +kernel
theorem d_prog_4_method_10_code_111 : decode prog_4_method_10_code 111 = .ok (.ldc 49, 2) := by decide +kernel
theorem d_prog_4_method_10_code_113 : decode prog_4_method_10_code 113 = .ok (.invokevirtual 33, 3) := by decide +kernel
theorem d_prog_4_method_10_code_116 : decode prog_4_method_10_code 116 = .ok (.invokevirtual 39, 3) := by decide +kernel
theorem d_prog_4_method_10_code_119 : decode prog_4_method_10_code 119 = .ok (.astore_n 2, 1) := by decide +kernel
theorem d_prog_4_method_10_code_120 : decode prog_4_method_10_code 120 = .ok (.aload_n 2, 1) := by decide +kernel
theorem d_prog_4_method_10_code_121 : decode prog_4_method_10_code 121 = .ok (.areturn, 1) := by decide +kernel
theorem d_prog_4_method_1_code_0 : decode prog_4_method_1_code 0 = .ok (.aload_n 0, 1) := by decide +kernel
theorem d_prog_4_method_1_code_1 : decode prog_4_method_1_code 1 = .ok (.invokespecial 1, 3) := by decide +kernel
theorem d_prog_4_method_1_code_4 : decode prog_4_method_1_code 4 = .ok (.aload_n 0, 1) := by decide +kernel
theorem d_prog_4_method_1_code_5 : decode prog_4_method_1_code 5 = .ok (.aload_n 1, 1) := by decide +kernel
theorem d_prog_4_method_1_code_6 : decode prog_4_method_1_code 6 = .ok (.putfield 7, 3) := by decide +kernel
theorem d_prog_4_method_1_code_9 : decode prog_4_method_1_code 9 = .ok (.aload_n 0, 1) := by decide +kernel
theorem d_prog_4_method_1_code_10 : decode prog_4_method_1_code 10 = .ok (.aload_n 2, 1) := by decide +kernel
theorem d_prog_4_method_1_code_11 : decode prog_4_method_1_code 11 = .ok (.putfield 13, 3) := by decide +kernel
theorem d_prog_4_method_1_code_14 : decode prog_4_method_1_code 14 = .ok (.aload_n 0, 1) := by decide +kernel
theorem d_prog_4_method_1_code_15 : decode prog_4_method_1_code 15 = .ok (.iload_n 3, 1) := by decide +kernel
theorem d_prog_4_method_1_code_16 : decode prog_4_method_1_code 16 = .ok (.putfield 16, 3) := by decide +kernel
theorem d_prog_4_method_1_code_19 : decode prog_4_method_1_code 19 = .ok (.aload_n 0, 1) := by decide +kernel
theorem d_prog_4_method_1_code_20 : decode prog_4_method_1_code 20 = .ok (.iload 4, 2) := by decide +kernel
theorem d_prog_4_method_1_code_22 : decode prog_4_method_1_code 22 = .ok (.putfield 20, 3) := by decide +kernel
theorem d_prog_4_method_1_code_25 : decode prog_4_method_1_code 25 = .ok (.return_, 1) := by decide +kernel
theorem d_prog_4_method_4_code_0 : decode prog_4_method_4_code 0 = .ok (.new 8, 3) := by decide +kernel
theorem d_prog_4_method_4_code_3 : decode prog_4_method_4_code 3 = .ok (.dup, 1) := by decide +kernel
theorem d_prog_4_method_4_code_4 : decode prog_4_method_4_code 4 = .ok (.aload_n 0, 1) := by decide +kernel
theorem d_prog_4_method_4_code_5 : decode prog_4_method_4_code 5 = .ok (.aconst_null, 1) := by decide +kernel
theorem d_prog_4_method_4_code_6 : decode prog_4_method_4_code 6 = .ok (.iconst 0, 1) := by decide +kernel
theorem d_prog_4_method_4_code_7 : decode prog_4_method_4_code 7 = .ok (.iconst 0, 1) := by decide +kernel
theorem d_prog_4_method_4_code_8 : decode prog_4_method_4_code 8 = .ok (.invokespecial 23, 3) := by decide +kernel
theorem d_prog_4_method_4_code_11 : decode prog_4_method_4_code 11 = .ok (.areturn, 1) := by decide +kernel
theorem d_prog_4_method_6_code_0 : decode prog_4_method_6_code 0 = .ok (.aload_n 0, 1) := by decide +kernel
theorem d_prog_4_method_6_code_1 : decode prog_4_method_6_code 1 = .ok (.getfield 7, 3) := by decide +kernel
theorem d_prog_4_method_6_code_4 : decode prog_4_method_6_code 4 = .ok (.areturn, 1) := by decide +kernel
theorem d_prog_4_method_7_code_0 : decode prog_4_method_7_code 0 = .ok (.aload_n 0, 1) := by decide +kernel
theorem d_prog_4_method_7_code_1 : decode prog_4_method_7_code 1 = .ok (.getfield 13, 3) := by decide +kernel
theorem d_prog_4_method_7_code_4 : decode prog_4_method_7_code 4 = .ok (.ifnull 7, 3) := by decide +kernel
theorem d_prog_4_method_7_code_11 : decode prog_4_method_7_code 11 = .ok (.iconst 0, 1) := by decide +kernel
theorem d_prog_4_method_7_code_12 : decode prog_4_method_7_code 12 = .ok (.ireturn, 1) := by decide +kernel
theorem d_prog_4_method_8_code_0 : decode prog_4_method_8_code 0 = .ok (.aload_n 0, 1) := by decide +kernel
theorem d_prog_4_method_8_code_1 : decode prog_4_method_8_code 1 = .ok (.getfield 16, 3) := by decide +kernel
theorem d_prog_4_method_8_code_4 : decode prog_4_method_8_code 4 = .ok (.ireturn, 1) := by decide +kernel
theorem d_prog_4_method_9_code_0 : decode prog_4_method_9_code 0 = .ok (.aload_n 0, 1) := by decide +kernel
theorem d_prog_4_method_9_code_1 : decode prog_4_method_9_code 1 = .ok (.getfield 20, 3) := by decide +kernel
theorem d_prog_4_method_9_code_4 : decode prog_4_method_9_code 4 = .ok (.ireturn, 1) := by decide +kernel
theorem own_toInt {i : Nat} (h : i < 2147483648) : i.toInt32.toInt = i := len_toInt (by omega)
theorem own_clamp {i : Nat} (h : i < 2147483648) : i.toInt32.toNatClampNeg = i := by
  simp only [Int32.toNatClampNeg]
  rw [own_toInt h]
  omega
theorem own_ltn {i n : Nat} (hi : i < 2147483648) (hn : n < 2147483648) : i.toInt32 < n.toInt32 ↔ i < n := by
  rw [Int32.lt_iff_toInt_lt, own_toInt hi, own_toInt hn]
  omega
theorem own_inb {i n : Nat} (h : i < n) (hn : n < 2147483648) : ¬ i.toInt32 < 0 ∧ i.toInt32 < n.toInt32 := by
  refine ⟨?_, (own_ltn (by omega) hn).mpr h⟩
  rw [Int32.lt_iff_toInt_lt, own_toInt (by omega)]
  have e0 : (0 : Int32).toInt = 0 := rfl
  omega
theorem own_incN {i : Nat} (h : i < 2147483647) : i.toInt32 + 1 = (i + 1).toInt32 := by
  rw [← Int32.toInt_inj, own_toInt (i := i + 1) (by omega)]
  have a := c_iadd i.toInt32 1
  have r := rng32 (i.toInt32 + 1)
  have e1 : (1 : Int32).toInt = 1 := rfl
  rw [own_toInt (i := i) (by omega), e1] at a
  omega
theorem own_getD (bs : List Int32) (i : Nat) : (bs.map Value.int).getD i (.int 0) = .int (bs.getD i 0) := by
  simp only [List.getD_eq_getElem?_getD, List.getElem?_map]
  cases bs[i]? <;> rfl
theorem own_at {bs : List Int32} {i : Nat} (h : i < 2147483648) : (bs.map Value.int).getD i.toInt32.toNatClampNeg (.int 0) = .int (bs.getD i 0) := by
  rw [own_clamp h, own_getD]
theorem own_take {a b : List Int32} {i : Nat} (h : a.take i = b.take i) (ha : i < a.length) (hb : i < b.length) (q : a.getD i 0 = b.getD i 0) : a.take (i + 1) = b.take (i + 1) := by
  rw [List.take_add_one, List.take_add_one, h]
  simp only [List.getD_eq_getElem?_getD, List.getElem?_eq_getElem ha, List.getElem?_eq_getElem hb, Option.getD_some] at q
  rw [List.getElem?_eq_getElem ha, List.getElem?_eq_getElem hb, q]
theorem own_sub {i n : Nat} (h : i ≤ n) (hn : n < 2147483648) : n.toInt32 - i.toInt32 = (n - i).toInt32 := by
  rw [← Int32.toInt_inj, own_toInt (i := n - i) (by omega)]
  have a := c_isub n.toInt32 i.toInt32
  have r := rng32 (n.toInt32 - i.toInt32)
  rw [own_toInt (i := i) (by omega), own_toInt hn] at a
  omega
/-- the byte of a char -/
def own_b (c : Int32) : Int32 := c.toInt8.toInt32
theorem own_byte (c : Int32) : nar .byte (c.toInt8.toInt32) = own_b c := by
  show (c.toInt8.toInt32).toInt8.toInt32 = c.toInt8.toInt32
  have q := Jvm.Free.XT.narrow_b c
  exact Value.int.inj q
/-- the String at a, its bytes at t -/
def StrAt (Z : State) (h : Heap) (a t : Addr) (kb : ClassId) (bs : List Int32) : Prop := Exa Z h a "java/lang/String" ∧ Fld Z h a "java/lang/String" "coder" "B" (.int 0) ∧ Fld Z h a "java/lang/String" "value" "[B" (.ref t) ∧ Arv Z h t kb .byte bs.length.toInt32 (bs.map Value.int) (.int 0) ∧ bs.length < 100
section
variable {Z : State} {h h' : Heap} {a t b : Addr} {kb : ClassId} {bs : List Int32} {ws : List Addr} {sl : Nat} {v : Value}
theorem StrAt.ext (F : StrAt Z h a t kb bs) (E : Ext h h') : StrAt Z h' a t kb bs := ⟨F.1.ext E, F.2.1.ext E, F.2.2.1.ext E, F.2.2.2.1.ext E, F.2.2.2.2⟩
theorem StrAt.keep (F : StrAt Z h a t kb bs) (K : Keep h h' ws) (qa : a ∉ ws) (qt : t ∉ ws) : StrAt Z h' a t kb bs := ⟨F.1.keep K, F.2.1.keep K qa, F.2.2.1.keep K qa, F.2.2.2.1.keep K qt, F.2.2.2.2⟩
theorem StrAt.other (F : StrAt Z h a t kb bs) (W : Wr h h' b sl v) (qa : a ≠ b) (qt : t ≠ b) : StrAt Z h' a t kb bs := ⟨F.1.wr W, F.2.1.other W (Or.inl qa), F.2.2.1.other W (Or.inl qa), F.2.2.2.1.other W qt, F.2.2.2.2⟩
theorem StrAt.lt (F : StrAt Z h a t kb bs) : a < h.size := F.1.lt
theorem StrAt.lt2 (F : StrAt Z h a t kb bs) : t < h.size := F.2.2.2.1.lt
end
set_option maxRecDepth 65536 in
set_option maxHeartbeats 4000000 in
theorem own_l1loop {p : Program} {l : Launch} {e : Env} {s : State} {m : MethodId} {args : Array Value} {below : List Frame} {meth : Method} {co : Code} {Z : State} {a0 : Array Value} (hw : HW Z a0) (t1 t2 : Addr) (k1 k2 : ClassId) (xs ys : List Int32) (hx : xs.length < 2147483647) (hy : ys.length < 2147483647) (hl : xs.length = ys.length) (n : Nat) {h0 : Heap} {T : State} {locs : List Loc} (S : St p l e ({ frames := 0, cells := 0, slots := 0, locals := 0 } : Room) s m args below meth co Z "java/lang/StringLatin1" jdk_43_method_13_code 3 (some .boolean) "equals" h0 [] T h0 locs 0 0) (V1 : Arv Z h0 t1 k1 .byte xs.length.toInt32 (xs.map Value.int) (.int 0)) (V2 : Arv Z h0 t2 k2 .byte ys.length.toInt32 (ys.map Value.int) (.int 0)) :
    ∀ i : Nat, i + n = xs.length → xs.take i = ys.take i → Go p e below (PostOf Z s h0 [] ({ frames := 0, cells := 0, slots := 0, locals := 0 } : Room).cells ({ frames := 0, cells := 0, slots := 0, locals := 0 } : Room).slots (fun v h => v = some (.int (if xs = ys then 1 else 0)) ∧ h0 = h)) T (mkF m 9 #[.val (.ref t1), .val (.ref t2), .val (.int i.toInt32)] []) := by
  induction n with
  | zero =>
    intro i hn ht
    refine Go.iloadN S d_jdk_43_method_13_code_9 rfl (pc' := 10) rfl ?_
    refine Go.aloadN S d_jdk_43_method_13_code_10 rfl rfl (pc' := 11) rfl ?_
    refine Go.arraylength S V1 d_jdk_43_method_13_code_11 (pc' := 12) rfl ?_
    refine Go.icmp_ge S d_jdk_43_method_13_code_12 (pt := 32) (by decide) (pc' := 15) rfl ?_ ?_
    · intro c12
      refine Go.iconst S (v := 1) d_jdk_43_method_13_code_32 rfl (pc' := 33) rfl ?_
      exact Go.zreturn S rfl (by decide) d_jdk_43_method_13_code_33 (z' := (1 : Int32)) rfl (by decide) (by decide) (⟨by rw [if_pos (by rw [List.take_of_length_le (by omega), List.take_of_length_le (by omega)] at ht; exact ht)], rfl⟩)
    · intro c12; exact absurd c12 (fun q => absurd ((own_ltn (by omega) (by omega)).mp q) (by omega))
  | succ n ih =>
    intro i hn ht
    have hi : i < xs.length := by omega
    refine Go.iloadN S d_jdk_43_method_13_code_9 rfl (pc' := 10) rfl ?_
    refine Go.aloadN S d_jdk_43_method_13_code_10 rfl rfl (pc' := 11) rfl ?_
    refine Go.arraylength S V1 d_jdk_43_method_13_code_11 (pc' := 12) rfl ?_
    refine Go.icmp_ge S d_jdk_43_method_13_code_12 (pt := 32) (by decide) (pc' := 15) rfl ?_ ?_
    · intro c12; exact absurd ((own_ltn (by omega) (by omega)).mpr hi) c12
    · intro c12
      refine Go.aloadN S d_jdk_43_method_13_code_15 rfl rfl (pc' := 16) rfl ?_
      refine Go.iloadN S d_jdk_43_method_13_code_16 rfl (pc' := 17) rfl ?_
      refine Go.baload S V1 (own_inb hi (by omega)) (v := (.int (xs.getD i 0))) (own_at (i := i) (by omega)) d_jdk_43_method_13_code_17 (pc' := 18) rfl ?_
      refine Go.aloadN S d_jdk_43_method_13_code_18 rfl rfl (pc' := 19) rfl ?_
      refine Go.iloadN S d_jdk_43_method_13_code_19 rfl (pc' := 20) rfl ?_
      refine Go.baload S V2 (own_inb (hl ▸ hi) (by omega)) (v := (.int (ys.getD i 0))) (own_at (i := i) (by omega)) d_jdk_43_method_13_code_20 (pc' := 21) rfl ?_
      refine Go.icmp_eq S d_jdk_43_method_13_code_21 (pt := 26) (by decide) (pc' := 24) rfl ?_ ?_
      · intro c21
        refine Go.iinc S d_jdk_43_method_13_code_26 rfl (Ls' := #[.val (.ref t1), .val (.ref t2), .val (.int (i.toInt32 + (1 : Int32)))]) rfl (pc' := 29) rfl ?_
        refine Go.goto S d_jdk_43_method_13_code_29 (pc' := 9) (by decide) ?_
        rw [own_incN (by omega)]
        exact ih _ (by omega) (own_take ht hi (hl ▸ hi) c21)
      · intro c21
        refine Go.iconst S (v := 0) d_jdk_43_method_13_code_24 rfl (pc' := 25) rfl ?_
        exact Go.zreturn S rfl (by decide) d_jdk_43_method_13_code_25 (z' := (0 : Int32)) rfl (by decide) (by decide) (⟨by rw [if_neg (fun q => c21 (by rw [q]))], rfl⟩)
set_option maxRecDepth 65536 in
set_option maxHeartbeats 4000000 in
theorem rm_l1eq {l : Launch} {Z : State} {a0 : Array Value} (hw : HW Z a0) (t1 : Addr) (t2 : Addr) (k1 k2 : ClassId) (xs ys : List Int32) (hx : xs.length < 2147483647) (hy : ys.length < 2147483647) {h0 : Heap} (hE : Ext Z.heap h0) (V1 : Arv Z h0 t1 k1 .byte xs.length.toInt32 (xs.map Value.int) (.int 0)) (V2 : Arv Z h0 t2 k2 .byte ys.length.toInt32 (ys.map Value.int) (.int 0)) :
    OMeets l Z (⟨"java/lang/StringLatin1", "equals", "([B[B)Z"⟩ : MethodName) jdk_43_method_13_code 3 (some .boolean) ({ frames := 0, cells := 0, slots := 0, locals := 0 } : Room) #[(.ref t1), (.ref t2)] h0 [] (fun v h => v = some (.int (if xs = ys then 1 else 0)) ∧ h0 = h) := by
  refine OMeets.body (plainFor_of_name pn0) hE #[.val (.ref t1), .val (.ref t2), .unset] (fun m => by first | rfl | (simp [entryFrame, mkF, argsToLocals, Value.category, maxLocals]; done)) ?_
  intro p e s m below meth co T S
  refine Go.aloadN S d_jdk_43_method_13_code_0 rfl rfl (pc' := 1) rfl ?_
  refine Go.arraylength S V1 d_jdk_43_method_13_code_1 (pc' := 2) rfl ?_
  refine Go.aloadN S d_jdk_43_method_13_code_2 rfl rfl (pc' := 3) rfl ?_
  refine Go.arraylength S V2 d_jdk_43_method_13_code_3 (pc' := 4) rfl ?_
  refine Go.icmp_ne S d_jdk_43_method_13_code_4 (pt := 34) (by decide) (pc' := 7) rfl ?_ ?_
  · intro c4
    refine Go.iconst S (v := 0) d_jdk_43_method_13_code_34 rfl (pc' := 35) rfl ?_
    exact Go.zreturn S rfl (by decide) d_jdk_43_method_13_code_35 (z' := (0 : Int32)) rfl (by decide) (by decide) (⟨by rw [if_neg (fun q => c4 (by rw [q]))], rfl⟩)
  · intro c4
    refine Go.iconst S (v := 0) d_jdk_43_method_13_code_7 rfl (pc' := 8) rfl ?_
    refine Go.istoreN S d_jdk_43_method_13_code_8 (Ls' := #[.val (.ref t1), .val (.ref t2), .val (.int (0 : Int32))]) rfl (pc' := 9) rfl ?_
    have hl : xs.length = ys.length := by
      have q := congrArg Int32.toInt c4
      rw [own_toInt (by omega), own_toInt (by omega)] at q
      omega
    exact own_l1loop hw t1 t2 k1 k2 xs ys hx hy hl xs.length S V1 V2 0 (by omega) (by simp)
theorem StrAt.inj {Z : State} {h : Heap} {a t1 t2 : Addr} {k1 k2 : ClassId} {xs ys : List Int32} (A1 : StrAt Z h a t1 k1 xs) (A2 : StrAt Z h a t2 k2 ys) : xs = ys := by
  have ht : t1 = t2 := by
    obtain ⟨c1, cf1, kk1, i1, f1, g1, g2, -, -, -, -, g7⟩ := A1.2.2.1
    obtain ⟨c2, cf2, kk2, i2, f2, e1, e2, -, -, -, -, e7⟩ := A2.2.2.1
    cases g1.symm.trans e1
    cases g2.symm.trans e2
    exact Value.ref.inj (Option.some.inj (g7.symm.trans e7))
  subst ht
  obtain ⟨c1, X1, -, s1, -, H1, -⟩ := A1.2.2.2.1
  obtain ⟨c2, X2, -, s2, -, H2, -⟩ := A2.2.2.2.1
  cases X1.1.symm.trans X2.1
  have l1 := A1.2.2.2.2
  have l2 := A2.2.2.2.2
  rw [own_clamp (by omega)] at s1 s2
  apply List.ext_getElem (by omega)
  intro i h1 h2
  have q := (H1 i (by omega)).symm.trans (H2 i (by omega))
  rw [own_getD, own_getD] at q
  have q' := Value.int.inj (Option.some.inj q)
  simpa [List.getD_eq_getElem?_getD, List.getElem?_eq_getElem h1, List.getElem?_eq_getElem h2] using q'
set_option maxRecDepth 65536 in
set_option maxHeartbeats 4000000 in
theorem rm_streq {l : Launch} {Z : State} {a0 : Array Value} (hw : HW Z a0) (a1 : Addr) (a2 : Addr) (t1 t2 : Addr) (k1 k2 : ClassId) (xs ys : List Int32) (cs : Int32) {h0 : Heap} (hE : Ext Z.heap h0) (A1 : StrAt Z h0 a1 t1 k1 xs) (A2 : StrAt Z h0 a2 t2 k2 ys) (Cs : Sta Z Z.heap "java/lang/String" "COMPACT_STRINGS" "Z" (.int cs)) (Cn : ¬ cs = 0) :
    OMeets l Z (⟨"java/lang/String", "equals", "(Ljava/lang/Object;)Z"⟩ : MethodName) jdk_42_method_66_code 3 (some .boolean) ({ frames := 1, cells := 0, slots := 0, locals := 14 } : Room) #[(.ref a1), (.ref a2)] h0 [] (fun v h => v = some (.int (if xs = ys then 1 else 0)) ∧ h0 = h) := by
  refine OMeets.body (plainFor_of_name pn1) hE #[.val (.ref a1), .val (.ref a2), .unset] (fun m => by first | rfl | (simp [entryFrame, mkF, argsToLocals, Value.category, maxLocals]; done)) ?_
  intro p e s m below meth co T S
  refine Go.aloadN S d_jdk_42_method_66_code_0 rfl rfl (pc' := 1) rfl ?_
  refine Go.aloadN S d_jdk_42_method_66_code_1 rfl rfl (pc' := 2) rfl ?_
  refine Go.acmp_ne S d_jdk_42_method_66_code_2 (pt := 7) (by decide) (pc' := 5) rfl rfl rfl ?_ ?_
  · intro c2
    refine Go.aloadN S d_jdk_42_method_66_code_7 rfl rfl (pc' := 8) rfl ?_
    refine Go.instanceofY S (wd201 hw) (Ins.self A2.1) d_jdk_42_method_66_code_8 (pc' := 11) rfl ?_
    intro T1 S1
    refine Go.if_eq S1 d_jdk_42_method_66_code_11 (pt := 54) (by decide) (pc' := 14) rfl ?_ ?_
    · intro c11; exact absurd c11 (by decide)
    · intro c11
      refine Go.aloadN S1 d_jdk_42_method_66_code_14 rfl rfl (pc' := 15) rfl ?_
      refine Go.checkcast S1 (wd201 hw) (Ins.self A2.1) d_jdk_42_method_66_code_15 (pc' := 18) rfl ?_
      intro T2 S2
      refine Go.astoreN S2 d_jdk_42_method_66_code_18 rfl (Ls' := #[.val (.ref a1), .val (.ref a2), .val (.ref a2)]) rfl (pc' := 19) rfl ?_
      refine Go.getstatic S2 (host := "") (Or.inl (wd29 hw)) Via.refl Cs d_jdk_42_method_66_code_19 (pc' := 22) rfl ?_
      intro T3 S3
      refine Go.if_eq S3 d_jdk_42_method_66_code_22 (pt := 36) (by decide) (pc' := 25) rfl ?_ ?_
      · intro c22; exact absurd c22 Cn
      · intro c22
        refine Go.aloadN S3 d_jdk_42_method_66_code_25 rfl rfl (pc' := 26) rfl ?_
        refine Go.getfield S3 (host := "") (Or.inl (wd25 hw)) Via.refl A1.2.1 d_jdk_42_method_66_code_26 (pc' := 29) rfl ?_
        intro T4 S4
        refine Go.aloadN S4 d_jdk_42_method_66_code_29 rfl rfl (pc' := 30) rfl ?_
        refine Go.getfield S4 (host := "") (Or.inl (wd25 hw)) Via.refl A2.2.1 d_jdk_42_method_66_code_30 (pc' := 33) rfl ?_
        intro T5 S5
        refine Go.icmp_ne S5 d_jdk_42_method_66_code_33 (pt := 54) (by decide) (pc' := 36) rfl ?_ ?_
        · intro c33; exact absurd (by decide) c33
        · intro c33
          refine Go.aloadN S5 d_jdk_42_method_66_code_36 rfl rfl (pc' := 37) rfl ?_
          refine Go.getfield S5 (host := "") (Or.inl (wd24 hw)) Via.refl A1.2.2.1 d_jdk_42_method_66_code_37 (pc' := 40) rfl ?_
          intro T6 S6
          refine Go.aloadN S6 d_jdk_42_method_66_code_40 rfl rfl (pc' := 41) rfl ?_
          refine Go.getfield S6 (host := "") (Or.inl (wd24 hw)) Via.refl A2.2.2.1 d_jdk_42_method_66_code_41 (pc' := 44) rfl ?_
          intro T7 S7
          refine Go.invokestatic S7 (y := ⟨"java/lang/StringLatin1", "equals", "([B[B)Z"⟩) (rm_l1eq hw t1 t2 k1 k2 xs ys (by have := A1.2.2.2.2; omega) (by have := A2.2.2.2.2; omega) S7.ext A1.2.2.2.1 A2.2.2.2.1) (wd202 hw) (wd203 hw) (wd204 hw) (wd205 hw) (by decide) d_jdk_42_method_66_code_44 rfl pd0 (argsL := [(.ref t1), (.ref t2)]) rfl rfl rfl (by decide) (W := 0) rfl (by decide) (by decide) (by decide) all0 (pc' := 47) rfl ?_
          intro v8 T8 h8 L8 S8 K8 q8
          obtain ⟨rfl, rfl⟩ := q8
          show Go _ _ _ _ T8 (mkF m 47 #[.val (.ref a1), .val (.ref a2), .val (.ref a2)] [(.int (if xs = ys then 1 else 0 : Int32))])
          refine Go.if_eq S8 d_jdk_42_method_66_code_47 (pt := 54) (by decide) (pc' := 50) rfl ?_ ?_
          · intro c47
            refine Go.iconst S8 (v := 0) d_jdk_42_method_66_code_54 rfl (pc' := 55) rfl ?_
            exact Go.zreturn S8 rfl (by decide) d_jdk_42_method_66_code_55 (z' := (0 : Int32)) rfl (by decide) (by decide) (⟨by rw [if_neg (fun q => by rw [if_pos q] at c47; exact absurd c47 (by decide))], rfl⟩)
          · intro c47
            refine Go.iconst S8 (v := 1) d_jdk_42_method_66_code_50 rfl (pc' := 51) rfl ?_
            refine Go.goto S8 d_jdk_42_method_66_code_51 (pc' := 55) (by decide) ?_
            exact Go.zreturn S8 rfl (by decide) d_jdk_42_method_66_code_55 (z' := (1 : Int32)) rfl (by decide) (by decide) (⟨by rw [if_pos (Classical.byContradiction fun q => c47 (by rw [if_neg q]))], rfl⟩)
  · intro c2
    refine Go.iconst S (v := 1) d_jdk_42_method_66_code_5 rfl (pc' := 6) rfl ?_
    obtain rfl := Value.ref.inj c2
    have hxy := StrAt.inj A1 A2
    exact Go.zreturn S rfl (by decide) d_jdk_42_method_66_code_6 (z' := (1 : Int32)) rfl (by decide) (by decide) (⟨by rw [if_pos hxy], rfl⟩)
/-- the bytes written so far -/
def own_dst (cl : List Int32) (i : Nat) : List Value := (List.range cl.length).map fun k => if k < i then Value.int (own_b (cl.getD k 0)) else .int 0
theorem own_dst_len (cl : List Int32) (i : Nat) : (own_dst cl i).length = cl.length := by simp [own_dst]
theorem own_dst_set (cl : List Int32) {i : Nat} (h : i < cl.length) : (own_dst cl i).set i (.int (own_b (cl.getD i 0))) = own_dst cl (i + 1) := by
  apply List.ext_getElem
  · simp [own_dst]
  · intro k h1 h2
    rw [List.getElem_set]
    simp only [own_dst, List.getElem_map, List.getElem_range]
    by_cases q : i = k
    · subst q
      simp
    · simp only [q, if_false]
      by_cases r : k < i
      · simp [r, show k < i + 1 by omega]
      · simp [r, show ¬ k < i + 1 by omega]
theorem own_dst_end (cl : List Int32) : own_dst cl cl.length = (cl.map own_b).map Value.int := by
  apply List.ext_getElem
  · simp [own_dst]
  · intro k h1 h2
    have h3 : k < cl.length := by simpa [own_dst] using h1
    simp [own_dst, h3, List.getD_eq_getElem?_getD]
theorem own_dst_zero (cl : List Int32) : ∀ n i : Nat, (own_dst cl 0).getD i (.int 0) = (List.replicate n (Value.int 0)).getD i (.int 0) := by
  intro n i
  have e1 : (own_dst cl 0)[i]? = none ∨ (own_dst cl 0)[i]? = some (.int 0) := by
    simp only [own_dst, List.getElem?_map, Nat.not_lt_zero, if_false]
    cases (List.range cl.length)[i]? <;> simp
  have e2 : (List.replicate n (Value.int 0))[i]? = none ∨ (List.replicate n (Value.int 0))[i]? = some (.int 0) := by
    rw [List.getElem?_replicate]
    split <;> simp
  simp only [List.getD_eq_getElem?_getD]
  rcases e1 with e1 | e1 <;> rcases e2 with e2 | e2 <;> rw [e1, e2] <;> rfl
theorem own_st6 {v0 v2 : Addr} {v1 v3 v4 v5 w : Int32} {sl : Slot} (h : One sl) : storeLocals #[.val (.ref v0), .val (.int v1), .val (.ref v2), .val (.int v3), .val (.int v4), .val (.int v5), sl] 6 (.int w) = some #[.val (.ref v0), .val (.int v1), .val (.ref v2), .val (.int v3), .val (.int v4), .val (.int v5), .val (.int w)] := by
  rcases h with rfl | ⟨w, rfl, hw⟩
  · rfl
  · cases w <;> first | rfl | (simp [Value.category] at hw)
theorem own_mem {cl : List Int32} {i : Nat} (h : i < cl.length) : cl.getD i 0 ∈ cl := by
  rw [List.getD_eq_getElem?_getD, List.getElem?_eq_getElem h]
  exact List.getElem_mem h
set_option maxRecDepth 65536 in
set_option maxHeartbeats 4000000 in
theorem own_comploop {p : Program} {l : Launch} {e : Env} {s : State} {m : MethodId} {args : Array Value} {below : List Frame} {meth : Method} {co : Code} {Z : State} {a0 : Array Value} (hw : HW Z a0) (a d : Addr) (ka kd : ClassId) (cl : List Int32) (hl : cl.length < 2147483647) (hc : ∀ z ∈ cl, ¬ 255 < z) {h0 : Heap} (hz : Z.heap.size ≤ d) (had : a ≠ d) (n : Nat) : ∀ (i : Nat) (sl : Slot), One sl → ∀ (T : State) (h : Heap) (locs : List Loc), St p l e ({ frames := 0, cells := 0, slots := 0, locals := 0 } : Room) s m args below meth co Z "java/lang/StringUTF16" jdk_52_method_21_code 7 (some .int) "compress" h0 [d] T h locs 0 0 → Arv Z h a ka .char cl.length.toInt32 (cl.map Value.int) (.int 0) → Arv Z h d kd .byte cl.length.toInt32 (own_dst cl i) (.int 0) → i + n = cl.length → Go p e below (PostOf Z s h0 [d] ({ frames := 0, cells := 0, slots := 0, locals := 0 } : Room).cells ({ frames := 0, cells := 0, slots := 0, locals := 0 } : Room).slots (fun v h => v = some (.int cl.length.toInt32) ∧ Arv Z h d kd .byte cl.length.toInt32 ((cl.map own_b).map Value.int) (.int 0))) T (mkF m 3 #[.val (.ref a), .val (.int i.toInt32), .val (.ref d), .val (.int i.toInt32), .val (.int cl.length.toInt32), .val (.int i.toInt32), sl] []) := by
  induction n with
  | zero =>
    intro i sl hsl T h locs S VS VT hn
    refine Go.iload S d_jdk_52_method_21_code_3 rfl (pc' := 5) rfl ?_
    refine Go.iload S d_jdk_52_method_21_code_5 rfl (pc' := 7) rfl ?_
    refine Go.icmp_ge S d_jdk_52_method_21_code_7 (pt := 44) (by decide) (pc' := 10) rfl ?_ ?_
    · intro c7
      refine Go.iload S d_jdk_52_method_21_code_44 rfl (pc' := 46) rfl ?_
      exact Go.ireturn S rfl d_jdk_52_method_21_code_46 (by decide) (by decide) (⟨rfl, by rw [show i = cl.length by omega, own_dst_end] at VT; exact VT⟩)
    · intro c7; exact absurd c7 (fun q => absurd ((own_ltn (by omega) (by omega)).mp q) (by omega))
  | succ n ih =>
    intro i sl hsl T h locs S VS VT hn
    have hi : i < cl.length := by omega
    refine Go.iload S d_jdk_52_method_21_code_3 rfl (pc' := 5) rfl ?_
    refine Go.iload S d_jdk_52_method_21_code_5 rfl (pc' := 7) rfl ?_
    refine Go.icmp_ge S d_jdk_52_method_21_code_7 (pt := 44) (by decide) (pc' := 10) rfl ?_ ?_
    · intro c7; exact absurd ((own_ltn (by omega) (by omega)).mpr hi) c7
    · intro c7
      refine Go.aloadN S d_jdk_52_method_21_code_10 rfl rfl (pc' := 11) rfl ?_
      refine Go.iloadN S d_jdk_52_method_21_code_11 rfl (pc' := 12) rfl ?_
      refine Go.caload S VS (own_inb hi (by omega)) (v := (.int (cl.getD i 0))) (own_at (i := i) (by omega)) d_jdk_52_method_21_code_12 (pc' := 13) rfl ?_
      refine Go.istore S d_jdk_52_method_21_code_13 (Ls' := #[.val (.ref a), .val (.int i.toInt32), .val (.ref d), .val (.int i.toInt32), .val (.int cl.length.toInt32), .val (.int i.toInt32), .val (.int (cl.getD i 0))]) (own_st6 hsl) (pc' := 15) rfl ?_
      refine Go.iload S d_jdk_52_method_21_code_15 rfl (pc' := 17) rfl ?_
      refine Go.sipush S (v := 255) d_jdk_52_method_21_code_17 rfl (pc' := 20) rfl ?_
      refine Go.icmp_le S d_jdk_52_method_21_code_20 (pt := 26) (by decide) (pc' := 23) rfl ?_ ?_
      · intro c20
        refine Go.aloadN S d_jdk_52_method_21_code_26 rfl rfl (pc' := 27) rfl ?_
        refine Go.iloadN S d_jdk_52_method_21_code_27 rfl (pc' := 28) rfl ?_
        refine Go.iload S d_jdk_52_method_21_code_28 rfl (pc' := 30) rfl ?_
        refine Go.i2b S d_jdk_52_method_21_code_30 (pc' := 31) rfl ?_
        refine Go.bastore S VT (own_inb hi (by omega)) (i := i) (own_clamp (by omega)) (by rw [own_dst_len]; exact hi) hz (Or.inl (List.mem_singleton.mpr rfl)) d_jdk_52_method_21_code_31 (pc' := 32) rfl ?_
        intro T1 h1 L1 S1 W1 V1
        rw [own_byte, own_dst_set cl hi] at V1
        have U1 := VS.other W1 had
        refine Go.iinc S1 d_jdk_52_method_21_code_32 rfl (Ls' := #[.val (.ref a), .val (.int (i.toInt32 + (1 : Int32))), .val (.ref d), .val (.int i.toInt32), .val (.int cl.length.toInt32), .val (.int i.toInt32), .val (.int (cl.getD i 0))]) rfl (pc' := 35) rfl ?_
        refine Go.iinc S1 d_jdk_52_method_21_code_35 rfl (Ls' := #[.val (.ref a), .val (.int (i.toInt32 + (1 : Int32))), .val (.ref d), .val (.int (i.toInt32 + (1 : Int32))), .val (.int cl.length.toInt32), .val (.int i.toInt32), .val (.int (cl.getD i 0))]) rfl (pc' := 38) rfl ?_
        refine Go.iinc S1 d_jdk_52_method_21_code_38 rfl (Ls' := #[.val (.ref a), .val (.int (i.toInt32 + (1 : Int32))), .val (.ref d), .val (.int (i.toInt32 + (1 : Int32))), .val (.int cl.length.toInt32), .val (.int (i.toInt32 + (1 : Int32))), .val (.int (cl.getD i 0))]) rfl (pc' := 41) rfl ?_
        refine Go.goto S1 d_jdk_52_method_21_code_41 (pc' := 3) (by decide) ?_
        rw [own_incN (by omega)]
        exact ih _ (.val (.int (cl.getD i 0))) (One.val rfl) _ _ _ S1 U1 V1 (by omega)
      · intro c20; exact absurd c20 (hc _ (own_mem hi))
set_option maxRecDepth 65536 in
set_option maxHeartbeats 4000000 in
theorem rm_comp5 {l : Launch} {Z : State} {a0 : Array Value} (hw : HW Z a0) (a : Addr) (d : Addr) (ka kd : ClassId) (cl : List Int32) (hl : cl.length < 2147483647) (hc : ∀ z ∈ cl, ¬ 255 < z) {h0 : Heap} (hE : Ext Z.heap h0) (hz : Z.heap.size ≤ d) (had : a ≠ d) (VS : Arv Z h0 a ka .char cl.length.toInt32 (cl.map Value.int) (.int 0)) (VT : Arv Z h0 d kd .byte cl.length.toInt32 (own_dst cl 0) (.int 0)) :
    OMeets l Z (⟨"java/lang/StringUTF16", "compress", "([CI[BII)I"⟩ : MethodName) jdk_52_method_21_code 7 (some .int) ({ frames := 0, cells := 0, slots := 0, locals := 0 } : Room) #[(.ref a), (.int (0 : Int32)), (.ref d), (.int (0 : Int32)), (.int cl.length.toInt32)] h0 [d] (fun v h => v = some (.int cl.length.toInt32) ∧ Arv Z h d kd .byte cl.length.toInt32 ((cl.map own_b).map Value.int) (.int 0)) := by
  refine OMeets.body (plainFor_of_name pn2) hE #[.val (.ref a), .val (.int (0 : Int32)), .val (.ref d), .val (.int (0 : Int32)), .val (.int cl.length.toInt32), .unset, .unset] (fun m => by first | rfl | (simp [entryFrame, mkF, argsToLocals, Value.category, maxLocals]; done)) ?_
  intro p e s m below meth co T S
  refine Go.iconst S (v := 0) d_jdk_52_method_21_code_0 rfl (pc' := 1) rfl ?_
  refine Go.istore S d_jdk_52_method_21_code_1 (Ls' := #[.val (.ref a), .val (.int (0 : Int32)), .val (.ref d), .val (.int (0 : Int32)), .val (.int cl.length.toInt32), .val (.int (0 : Int32)), .unset]) rfl (pc' := 3) rfl ?_
  exact own_comploop hw a d ka kd cl hl hc hz had cl.length 0 .unset One.u _ _ _ S VS VT (by omega)
set_option maxRecDepth 65536 in
set_option maxHeartbeats 4000000 in
theorem rm_comp3 {l : Launch} {Z : State} {a0 : Array Value} (hw : HW Z a0) (a : Addr) (ka : ClassId) (cl : List Int32) (hl : cl.length ≤ 5) (hc : ∀ z ∈ cl, ¬ 255 < z) {h0 : Heap} (hE : Ext Z.heap h0) (VS : Arv Z h0 a ka .char cl.length.toInt32 (cl.map Value.int) (.int 0)) :
    OMeets l Z (⟨"java/lang/StringUTF16", "compress", "([CII)[B"⟩ : MethodName) jdk_52_method_16_code 6 (some (.array .byte)) ({ frames := 1, cells := 1, slots := 5, locals := 23 } : Room) #[(.ref a), (.int (0 : Int32)), (.int cl.length.toInt32)] h0 [] (fun v h => ∃ d kd, v = some (.ref d) ∧ h0.size ≤ d ∧ Arv Z h d kd .byte cl.length.toInt32 ((cl.map own_b).map Value.int) (.int 0)) := by
  refine OMeets.body (plainFor_of_name pn2) hE #[.val (.ref a), .val (.int (0 : Int32)), .val (.int cl.length.toInt32), .unset, .unset, .unset] (fun m => by first | rfl | (simp [entryFrame, mkF, argsToLocals, Value.category, maxLocals]; done)) ?_
  intro p e s m below meth co T S
  have hpos : ¬ cl.length.toInt32 < 0 := by
    rw [Int32.lt_iff_toInt_lt, own_toInt (by omega)]
    have e0 : (0 : Int32).toInt = 0 := rfl
    omega
  refine Go.iloadN S d_jdk_52_method_16_code_0 rfl (pc' := 1) rfl ?_
  refine Go.newarray S (ty := .byte) (dv := (.int (0 : Int32))) rfl rfl (wd19 hw) d_jdk_52_method_16_code_1 hpos (cap := 5) (by rw [own_clamp (by omega)]; omega) (by decide) (by decide) (by decide) (pc' := 3) rfl ?_
  intro T1 h1 d kd S1 E1 hg1 hz1 hk1 V1
  have hd : a ≠ d := Nat.ne_of_lt (Nat.lt_of_lt_of_le VS.lt (Nat.le_of_eq hg1))
  replace VS := VS.ext E1
  replace V1 := V1.pad (own_dst_zero cl 5)
  refine Go.astoreN S1 d_jdk_52_method_16_code_3 rfl (Ls' := #[.val (.ref a), .val (.int (0 : Int32)), .val (.int cl.length.toInt32), .val (.ref d), .unset, .unset]) rfl (pc' := 4) rfl ?_
  refine Go.aloadN S1 d_jdk_52_method_16_code_4 rfl rfl (pc' := 5) rfl ?_
  refine Go.iloadN S1 d_jdk_52_method_16_code_5 rfl (pc' := 6) rfl ?_
  refine Go.aloadN S1 d_jdk_52_method_16_code_6 rfl rfl (pc' := 7) rfl ?_
  refine Go.iconst S1 (v := 0) d_jdk_52_method_16_code_7 rfl (pc' := 8) rfl ?_
  refine Go.iloadN S1 d_jdk_52_method_16_code_8 rfl (pc' := 9) rfl ?_
  refine Go.invokestatic S1 (y := ⟨"java/lang/StringUTF16", "compress", "([CI[BII)I"⟩) (rm_comp5 hw a d ka kd cl (by omega) hc S1.ext hz1 hd VS V1) (wd34 hw) (wd35 hw) (wd32 hw) (wd36 hw) (by decide) d_jdk_52_method_16_code_9 rfl pd1 (argsL := [(.ref a), (.int (0 : Int32)), (.ref d), (.int (0 : Int32)), (.int cl.length.toInt32)]) rfl rfl rfl (by decide) (W := 0) rfl (by decide) (by decide) (by decide) (allS (Or.inr hk1) all0) (pc' := 12) rfl ?_
  intro v2 T2 h2 L2 S2 K2 q2
  obtain ⟨rfl, V2⟩ := q2
  show Go _ _ _ _ T2 (mkF m 12 #[.val (.ref a), .val (.int (0 : Int32)), .val (.int cl.length.toInt32), .val (.ref d), .unset, .unset] [(.int cl.length.toInt32)])
  refine Go.istore S2 d_jdk_52_method_16_code_12 (Ls' := #[.val (.ref a), .val (.int (0 : Int32)), .val (.int cl.length.toInt32), .val (.ref d), .val (.int cl.length.toInt32), .unset]) rfl (pc' := 14) rfl ?_
  refine Go.iload S2 d_jdk_52_method_16_code_14 rfl (pc' := 16) rfl ?_
  refine Go.iloadN S2 d_jdk_52_method_16_code_16 rfl (pc' := 17) rfl ?_
  refine Go.icmp_eq S2 d_jdk_52_method_16_code_17 (pt := 57) (by decide) (pc' := 20) rfl ?_ ?_
  · intro c17
    refine Go.aloadN S2 d_jdk_52_method_16_code_57 rfl rfl (pc' := 58) rfl ?_
    exact Go.areturn S2 rfl rfl rfl d_jdk_52_method_16_code_58 (by decide) (by decide) (⟨d, kd, rfl, hk1, V2⟩)
  · intro c17; exact absurd rfl c17
theorem own_sh {n : Int32} : nar .byte ((((n - n).toUInt32 >>> ((31 : Int32) &&& 31).toUInt32).toInt32).toInt8.toInt32) = 0 := by
  rw [show n - n = 0 from by rw [← Int32.toInt_inj]; have := c_isub n n; have := rng32 (n - n); have e0 : (0 : Int32).toInt = 0 := rfl; omega]
  decide
set_option maxRecDepth 65536 in
set_option maxHeartbeats 4000000 in
theorem rm_cfal {l : Launch} {Z : State} {a0 : Array Value} (hw : HW Z a0) (d : Addr) (n : Int32) (kd : ClassId) (vs : List Value) {h0 : Heap} (hE : Ext Z.heap h0) (V1 : Arv Z h0 d kd .byte n vs (.int 0)) :
    OMeets l Z (⟨"java/lang/StringUTF16", "coderFromArrayLen", "([BI)B"⟩ : MethodName) jdk_52_method_15_code 2 (some .byte) ({ frames := 0, cells := 0, slots := 0, locals := 0 } : Room) #[(.ref d), (.int n)] h0 [] (fun v h => v = some (.int 0) ∧ h0 = h) := by
  refine OMeets.body (plainFor_of_name pn2) hE #[.val (.ref d), .val (.int n)] (fun m => by first | rfl | (simp [entryFrame, mkF, argsToLocals, Value.category, maxLocals]; done)) ?_
  intro p e s m below meth co T S
  refine Go.iloadN S d_jdk_52_method_15_code_0 rfl (pc' := 1) rfl ?_
  refine Go.aloadN S d_jdk_52_method_15_code_1 rfl rfl (pc' := 2) rfl ?_
  refine Go.arraylength S V1 d_jdk_52_method_15_code_2 (pc' := 3) rfl ?_
  refine Go.isub S d_jdk_52_method_15_code_3 (pc' := 4) rfl ?_
  refine Go.bipush S (v := 31) d_jdk_52_method_15_code_4 rfl (pc' := 6) rfl ?_
  refine Go.iushr S d_jdk_52_method_15_code_6 (pc' := 7) rfl ?_
  refine Go.i2b S d_jdk_52_method_15_code_7 (pc' := 8) rfl ?_
  exact Go.zreturn S rfl (by decide) d_jdk_52_method_15_code_8 (z' := 0) own_sh (by decide) (by decide) (⟨rfl, rfl⟩)
set_option maxRecDepth 65536 in
set_option maxHeartbeats 4000000 in
theorem rm_sinit4 {l : Launch} {Z : State} {a0 : Array Value} (hw : HW Z a0) (o : Addr) (a : Addr) (ka : ClassId) (cl : List Int32) (cs : Int32) (hl0 : 0 < cl.length) (hl : cl.length ≤ 5) (hc : ∀ z ∈ cl, ¬ 255 < z) {h0 : Heap} (hE : Ext Z.heap h0) (hz : Z.heap.size ≤ o) (E : Exa Z h0 o "java/lang/String") (Fv : Fld Z h0 o "java/lang/String" "value" "[B" .null) (Fc : Fld Z h0 o "java/lang/String" "coder" "B" (.int 0)) (hao : a ≠ o) (V1 : Arv Z h0 a ka .char cl.length.toInt32 (cl.map Value.int) (.int 0)) (Cs : Sta Z Z.heap "java/lang/String" "COMPACT_STRINGS" "Z" (.int cs)) (Cn : ¬ cs = 0) :
    OMeets l Z (⟨"java/lang/String", "<init>", "([CIILjava/lang/Void;)V"⟩ : MethodName) jdk_42_method_149_code 6 none ({ frames := 2, cells := 1, slots := 5, locals := 41 } : Room) #[(.ref o), (.ref a), (.int (0 : Int32)), (.int cl.length.toInt32), .null] h0 [o] (fun v h => v = none ∧ ∃ t kb, StrAt Z h o t kb (cl.map own_b) ∧ h0.size ≤ t) := by
  refine OMeets.body (plainFor_of_name pn1) hE #[.val (.ref o), .val (.ref a), .val (.int (0 : Int32)), .val (.int cl.length.toInt32), .val .null, .unset] (fun m => by first | rfl | (simp [entryFrame, mkF, argsToLocals, Value.category, maxLocals]; done)) ?_
  intro p e s m below meth co T S
  have ho := E.lt
  refine Go.aloadN S d_jdk_42_method_149_code_0 rfl rfl (pc' := 1) rfl ?_
  refine Go.initObject S (wd15 hw) (wd16 hw) (wd17 hw) d_jdk_42_method_149_code_1 rfl (by decide) (W := 0) rfl (by decide) (pc' := 4) rfl ?_
  intro T1 S1
  refine Go.iloadN S1 d_jdk_42_method_149_code_4 rfl (pc' := 5) rfl ?_
  refine Go.if_ne S1 d_jdk_42_method_149_code_5 (pt := 27) (by decide) (pc' := 8) rfl ?_ ?_
  · intro c5
    refine Go.getstatic S1 (host := "") (Or.inl (wd29 hw)) Via.refl Cs d_jdk_42_method_149_code_27 (pc' := 30) rfl ?_
    intro T2 S2
    refine Go.if_eq S2 d_jdk_42_method_149_code_30 (pt := 58) (by decide) (pc' := 33) rfl ?_ ?_
    · intro c30; exact absurd c30 Cn
    · intro c30
      refine Go.aloadN S2 d_jdk_42_method_149_code_33 rfl rfl (pc' := 34) rfl ?_
      refine Go.iloadN S2 d_jdk_42_method_149_code_34 rfl (pc' := 35) rfl ?_
      refine Go.iloadN S2 d_jdk_42_method_149_code_35 rfl (pc' := 36) rfl ?_
      refine Go.invokestatic S2 (y := ⟨"java/lang/StringUTF16", "compress", "([CII)[B"⟩) (rm_comp3 hw a ka cl hl hc S2.ext V1) (wd30 hw) (wd31 hw) (wd32 hw) (wd33 hw) (by decide) d_jdk_42_method_149_code_36 rfl pd2 (argsL := [(.ref a), (.int (0 : Int32)), (.int cl.length.toInt32)]) rfl rfl rfl (by decide) (W := 0) rfl (by decide) (by decide) (by decide) all0 (pc' := 39) rfl ?_
      intro v3 T3 h3 L3 S3 K3 q3
      obtain ⟨d3, kd3, rfl, hk3, V3⟩ := q3
      replace E := E.keep K3
      replace Fv := Fv.keep K3 nin0
      replace Fc := Fc.keep K3 nin0
      replace V1 := V1.keep K3 nin0
      show Go _ _ _ _ T3 (mkF m 39 #[.val (.ref o), .val (.ref a), .val (.int (0 : Int32)), .val (.int cl.length.toInt32), .val .null, .unset] [(.ref d3)])
      have nd3 : d3 ≠ o := fun q => absurd hk3 (by rw [q]; exact Nat.not_le.mpr ho)
      refine Go.astore S3 d_jdk_42_method_149_code_39 rfl (Ls' := #[.val (.ref o), .val (.ref a), .val (.int (0 : Int32)), .val (.int cl.length.toInt32), .val .null, .val (.ref d3)]) rfl (pc' := 41) rfl ?_
      refine Go.aloadN S3 d_jdk_42_method_149_code_41 rfl rfl (pc' := 42) rfl ?_
      refine Go.aload S3 d_jdk_42_method_149_code_42 rfl rfl (pc' := 44) rfl ?_
      refine Go.iloadN S3 d_jdk_42_method_149_code_44 rfl (pc' := 45) rfl ?_
      refine Go.invokestatic S3 (y := ⟨"java/lang/StringUTF16", "coderFromArrayLen", "([BI)B"⟩) (rm_cfal hw d3 cl.length.toInt32 kd3 _ S3.ext V3) (wd37 hw) (wd38 hw) (wd32 hw) (wd39 hw) (by decide) d_jdk_42_method_149_code_45 rfl pd3 (argsL := [(.ref d3), (.int cl.length.toInt32)]) rfl rfl rfl (by decide) (W := 1) rfl (by decide) (by decide) (by decide) all0 (pc' := 48) rfl ?_
      intro v4 T4 h4 L4 S4 K4 q4
      obtain ⟨rfl, rfl⟩ := q4
      show Go _ _ _ _ T4 (mkF m 48 #[.val (.ref o), .val (.ref a), .val (.int (0 : Int32)), .val (.int cl.length.toInt32), .val .null, .val (.ref d3)] [(.int (0 : Int32)), (.ref o)])
      refine Go.putfieldN S4 (wd25 hw) Via.refl Fc E (Or.inr ⟨(wd21 hw), rfl, rfl⟩) (wd5 hw) (ty := .byte) (by decide) (v' := (.int (0 : Int32))) rfl rfl hz (Or.inl (List.mem_singleton.mpr rfl)) d_jdk_42_method_149_code_48 (pc' := 51) rfl ?_
      intro T5 h5 L5 S5 W5
      have F5 := Fc.same W5
      replace Fv := Fv.other W5 (Or.inr (slot_ne (Or.inr (wd20 hw)) (Or.inr (wd21 hw)) (by decide) (t := (.array .byte)) (t' := .byte) (by decide) (by decide)))
      replace E := E.wr W5
      replace V1 := V1.other W5 (hao)
      replace V3 := V3.other W5 (nd3)
      refine Go.aloadN S5 d_jdk_42_method_149_code_51 rfl rfl (pc' := 52) rfl ?_
      refine Go.aload S5 d_jdk_42_method_149_code_52 rfl rfl (pc' := 54) rfl ?_
      refine Go.putfield S5 (host := "") (Or.inl (wd24 hw)) Via.refl Fv E (Or.inr ⟨(wd20 hw), rfl, rfl⟩) (wd5 hw) (ty := (.array .byte)) (by decide) rfl rfl hz (Or.inl (List.mem_singleton.mpr rfl)) d_jdk_42_method_149_code_54 (pc' := 57) rfl ?_
      intro T6 h6 L6 S6 W6
      have F6 := Fv.same W6
      replace F5 := F5.other W6 (Or.inr (slot_ne (Or.inr (wd21 hw)) (Or.inr (wd20 hw)) (by decide) (t := .byte) (t' := (.array .byte)) (by decide) (by decide)))
      replace E := E.wr W6
      replace V1 := V1.other W6 (hao)
      replace V3 := V3.other W6 (nd3)
      exact Go.vreturn S6 rfl d_jdk_42_method_149_code_57 (by decide) (by decide) (⟨rfl, d3, kd3, ⟨E, F5, F6, by rw [List.length_map]; exact V3, by rw [List.length_map]; omega⟩, hk3⟩)
  · intro c5; exact absurd c5 (fun q => by have z := congrArg Int32.toInt q; rw [own_toInt (by omega)] at z; have e0 : (0 : Int32).toInt = 0 := rfl; omega)
set_option maxRecDepth 65536 in
set_option maxHeartbeats 4000000 in
theorem rm_sinit {l : Launch} {Z : State} {a0 : Array Value} (hw : HW Z a0) (o : Addr) (a : Addr) (ka : ClassId) (cl : List Int32) (cs : Int32) (hl0 : 0 < cl.length) (hl : cl.length ≤ 5) (hc : ∀ z ∈ cl, ¬ 255 < z) {h0 : Heap} (hE : Ext Z.heap h0) (hz : Z.heap.size ≤ o) (E : Exa Z h0 o "java/lang/String") (Fv : Fld Z h0 o "java/lang/String" "value" "[B" .null) (Fc : Fld Z h0 o "java/lang/String" "coder" "B" (.int 0)) (hao : a ≠ o) (V1 : Arv Z h0 a ka .char cl.length.toInt32 (cl.map Value.int) (.int 0)) (Cs : Sta Z Z.heap "java/lang/String" "COMPACT_STRINGS" "Z" (.int cs)) (Cn : ¬ cs = 0) :
    OMeets l Z (⟨"java/lang/String", "<init>", "([C)V"⟩ : MethodName) jdk_42_method_3_code 2 none ({ frames := 3, cells := 1, slots := 5, locals := 58 } : Room) #[(.ref o), (.ref a)] h0 [o] (fun v h => v = none ∧ ∃ t kb, StrAt Z h o t kb (cl.map own_b) ∧ h0.size ≤ t) := by
  refine OMeets.body (plainFor_of_name pn1) hE #[.val (.ref o), .val (.ref a)] (fun m => by first | rfl | (simp [entryFrame, mkF, argsToLocals, Value.category, maxLocals]; done)) ?_
  intro p e s m below meth co T S
  refine Go.aloadN S d_jdk_42_method_3_code_0 rfl rfl (pc' := 1) rfl ?_
  refine Go.aloadN S d_jdk_42_method_3_code_1 rfl rfl (pc' := 2) rfl ?_
  refine Go.iconst S (v := 0) d_jdk_42_method_3_code_2 rfl (pc' := 3) rfl ?_
  refine Go.aloadN S d_jdk_42_method_3_code_3 rfl rfl (pc' := 4) rfl ?_
  refine Go.arraylength S V1 d_jdk_42_method_3_code_4 (pc' := 5) rfl ?_
  refine Go.aconst_null S d_jdk_42_method_3_code_5 (pc' := 6) rfl ?_
  refine Go.invokespecial S (y := ⟨"java/lang/String", "<init>", "([CIILjava/lang/Void;)V"⟩) (rm_sinit4 hw o a ka cl cs hl0 hl hc S.ext hz E Fv Fc hao V1 Cs Cn) rfl rfl (wd11 hw) (wd12 hw) (wd6 hw) (wd14 hw) (by decide) d_jdk_42_method_3_code_6 rfl pd4 (argsL := [(.ref a), (.int (0 : Int32)), (.int cl.length.toInt32), .null]) rfl rfl rfl (by decide) (W := 0) rfl (by decide) (by decide) (by decide) (allS (Or.inl (List.mem_singleton.mpr rfl)) all0) (pc' := 9) rfl ?_
  intro v1 T1 h1 L1 S1 K1 q1
  obtain ⟨rfl, t, kb, A, ht⟩ := q1
  show Go _ _ _ _ T1 (mkF m 9 #[.val (.ref o), .val (.ref a)] [])
  exact Go.vreturn S1 rfl d_jdk_42_method_3_code_9 (by decide) (by decide) (⟨rfl, t, kb, A, ht⟩)
theorem own_sat {Z : State} {a0 : Array Value} (hw : HW Z a0) : ∀ a ∈ Bundle.stringAtoms, a.before a0 Z = true := by
  intro a ha
  simp only [Bundle.stringAtoms, List.mem_cons, List.not_mem_nil, or_false] at ha
  rcases ha with rfl | rfl | rfl | rfl | rfl | rfl | rfl
  · exact (wd6 hw)
  · exact (wd5 hw)
  · exact (wd19 hw)
  · exact (wd20 hw)
  · exact (wd21 hw)
  · exact (wd22 hw)
  · exact (wd23 hw)
set_option maxRecDepth 65536 in
set_option maxHeartbeats 4000000 in
theorem rm_sinitE4 {l : Launch} {Z : State} {a0 : Array Value} (hw : HW Z a0) (o : Addr) (a : Addr)  {h0 : Heap} (hE : Ext Z.heap h0) (hz : Z.heap.size ≤ o) (E : Exa Z h0 o "java/lang/String") (Fv : Fld Z h0 o "java/lang/String" "value" "[B" .null) (Fc : Fld Z h0 o "java/lang/String" "coder" "B" (.int 0)) (hh : Jvm.Lit.constHeld Z "java/lang/String" 7) (hcw : Jvm.Lit.compactW.before a0 Z = true) :
    OMeetsW l Z (⟨"java/lang/String", "<init>", "([CIILjava/lang/Void;)V"⟩ : MethodName) jdk_42_method_149_code 6 none ({ frames := 1, cells := 2, slots := 4, locals := 12 } : Room) #[(.ref o), (.ref a), (.int (0 : Int32)), (.int (0 : Int32)), .null] h0 [o] (fun vm => IB Z vm []) (fun v h vm => (v = none ∧ ∃ t kb, StrAt Z h o t kb []) ∧ IB Z vm [""]) := by
  refine OMeetsW.body (plainFor_of_name pn1) hE #[.val (.ref o), .val (.ref a), .val (.int (0 : Int32)), .val (.int (0 : Int32)), .val .null, .unset] (fun m => by first | rfl | (simp [entryFrame, mkF, argsToLocals, Value.category, maxLocals]; done)) ?_
  intro p e s m below meth co T S hvp hsh
  have N := Sn.start s h0.size
  have hn : h0.size ≤ h0.size := Nat.le_refl _
  refine Go.aloadN S d_jdk_42_method_149_code_0 rfl rfl (pc' := 1) rfl ?_
  refine Go.initObject S (wd15 hw) (wd16 hw) (wd17 hw) d_jdk_42_method_149_code_1 rfl (by decide) (W := 0) rfl (by decide) (pc' := 4) rfl ?_
  intro T1 S1
  refine Go.iloadN S1 d_jdk_42_method_149_code_4 rfl (pc' := 5) rfl ?_
  refine Go.if_ne S1 d_jdk_42_method_149_code_5 (pt := 27) (by decide) (pc' := 8) rfl ?_ ?_
  · intro c5; exact absurd (by decide) c5
  · intro c5
    refine Go.aloadN S1 d_jdk_42_method_149_code_8 rfl rfl (pc' := 9) rfl ?_
    refine Go.ldcFirst S1 N hn (text := "") (cap := 0) (vs := []) (z := 0) (wd18 hw) (own_sat hw) (Fr.nil _) (by rw [hsh]; exact hE) hvp (by decide) hh hcw ⟨by decide, by first | rfl | decide⟩ (by decide) rfl d_jdk_42_method_149_code_9 (by decide) (by decide) (by decide) (by decide) (pc' := 11) rfl ?_
    intro a2 b2 kb2 sb2 T2 h2 n2 S2 N2 hn2 E2 X2 Fc2 Fv2 V2 I2 L2
    replace E := E.ext E2
    replace Fv := Fv.ext E2
    replace Fc := Fc.ext E2
    replace hn := hn2
    have nao2 : a2 ≠ o := Fld.ne Fv2 Fv nofun
    have nbo2 : b2 ≠ o := Arv.nex V2 (wd5 hw) E
    refine Go.getfield S2 (host := "") (Or.inl (wd24 hw)) Via.refl Fv2 d_jdk_42_method_149_code_11 (pc' := 14) rfl ?_
    intro T3 S3
    refine Go.putfield S3 (host := "") (Or.inl (wd24 hw)) Via.refl Fv E (Or.inr ⟨(wd20 hw), rfl, rfl⟩) (wd5 hw) (ty := (.array .byte)) (by decide) rfl rfl hz (Or.inl (List.mem_singleton.mpr rfl)) d_jdk_42_method_149_code_14 (pc' := 17) rfl ?_
    intro T4 h4 L4 S4 W4
    have F4 := Fv.same W4
    replace Fc := Fc.other W4 (Or.inr (slot_ne (Or.inr (wd21 hw)) (Or.inr (wd20 hw)) (by decide) (t := .byte) (t' := (.array .byte)) (by decide) (by decide)))
    replace hn := Nat.le_trans hn (Nat.le_of_eq W4.size.symm)
    replace E := E.wr W4
    replace X2 := X2.wr W4
    replace Fc2 := Fc2.other W4 (Or.inl (nao2))
    replace Fv2 := Fv2.other W4 (Or.inl (nao2))
    replace V2 := V2.other W4 (nbo2)
    refine Go.aloadN S4 d_jdk_42_method_149_code_17 rfl rfl (pc' := 18) rfl ?_
    refine Go.ldcAgain S4 (wd18 hw) L2 d_jdk_42_method_149_code_18 (pc' := 20) rfl ?_
    refine Go.getfield S4 (host := "") (Or.inl (wd25 hw)) Via.refl Fc2 d_jdk_42_method_149_code_20 (pc' := 23) rfl ?_
    intro T5 S5
    refine Go.putfieldN S5 (wd25 hw) Via.refl Fc E (Or.inr ⟨(wd21 hw), rfl, rfl⟩) (wd5 hw) (ty := .byte) (by decide) (v' := (.int (0 : Int32))) rfl rfl hz (Or.inl (List.mem_singleton.mpr rfl)) d_jdk_42_method_149_code_23 (pc' := 26) rfl ?_
    intro T6 h6 L6 S6 W6
    have F6 := Fc.same W6
    replace F4 := F4.other W6 (Or.inr (slot_ne (Or.inr (wd20 hw)) (Or.inr (wd21 hw)) (by decide) (t := (.array .byte)) (t' := .byte) (by decide) (by decide)))
    replace hn := Nat.le_trans hn (Nat.le_of_eq W6.size.symm)
    replace E := E.wr W6
    replace X2 := X2.wr W6
    replace Fc2 := Fc2.other W6 (Or.inl (nao2))
    replace Fv2 := Fv2.other W6 (Or.inl (nao2))
    replace V2 := V2.other W6 (nbo2)
    exact Go.vreturnW S6 N2 hn rfl d_jdk_42_method_149_code_26 (by decide) (by decide) (⟨⟨rfl, b2, kb2, E, F6, F4, V2, by decide⟩, IB.warm I2 S6.X.warmed⟩)
set_option maxRecDepth 65536 in
set_option maxHeartbeats 4000000 in
theorem rm_sinitE {l : Launch} {Z : State} {a0 : Array Value} (hw : HW Z a0) (o : Addr) (a : Addr) (ka : ClassId) {h0 : Heap} (hE : Ext Z.heap h0) (hz : Z.heap.size ≤ o) (E : Exa Z h0 o "java/lang/String") (Fv : Fld Z h0 o "java/lang/String" "value" "[B" .null) (Fc : Fld Z h0 o "java/lang/String" "coder" "B" (.int 0)) (hh : Jvm.Lit.constHeld Z "java/lang/String" 7) (hcw : Jvm.Lit.compactW.before a0 Z = true) (V1 : Arv Z h0 a ka .char 0 [] (.int 0)) :
    OMeetsW l Z (⟨"java/lang/String", "<init>", "([C)V"⟩ : MethodName) jdk_42_method_3_code 2 none ({ frames := 2, cells := 2, slots := 4, locals := 29 } : Room) #[(.ref o), (.ref a)] h0 [o] (fun vm => IB Z vm []) (fun v h vm => (v = none ∧ ∃ t kb, StrAt Z h o t kb []) ∧ IB Z vm [""]) := by
  refine OMeetsW.body (plainFor_of_name pn1) hE #[.val (.ref o), .val (.ref a)] (fun m => by first | rfl | (simp [entryFrame, mkF, argsToLocals, Value.category, maxLocals]; done)) ?_
  intro p e s m below meth co T S hvp hsh
  have N := Sn.start s h0.size
  have hn : h0.size ≤ h0.size := Nat.le_refl _
  refine Go.aloadN S d_jdk_42_method_3_code_0 rfl rfl (pc' := 1) rfl ?_
  refine Go.aloadN S d_jdk_42_method_3_code_1 rfl rfl (pc' := 2) rfl ?_
  refine Go.iconst S (v := 0) d_jdk_42_method_3_code_2 rfl (pc' := 3) rfl ?_
  refine Go.aloadN S d_jdk_42_method_3_code_3 rfl rfl (pc' := 4) rfl ?_
  refine Go.arraylength S V1 d_jdk_42_method_3_code_4 (pc' := 5) rfl ?_
  refine Go.aconst_null S d_jdk_42_method_3_code_5 (pc' := 6) rfl ?_
  refine Go.invokespecialW S (y := ⟨"java/lang/String", "<init>", "([CIILjava/lang/Void;)V"⟩) (rm_sinitE4 hw o a S.ext hz E Fv Fc hh hcw) N hn (fun vm hv => IB.warm hvp hv) rfl rfl (wd11 hw) (wd12 hw) (wd6 hw) (wd14 hw) (by decide) d_jdk_42_method_3_code_6 rfl pd4 (argsL := [(.ref a), (.int (0 : Int32)), (.int (0 : Int32)), .null]) rfl rfl rfl (by decide) (W := 0) rfl (by decide) (by decide) (by decide) (allS (Or.inl (List.mem_singleton.mpr rfl)) all0) (pc' := 9) rfl ?_
  intro v1 sb1 T1 h1 L1 S1 N1 K1 q1
  obtain ⟨⟨rfl, t, kb, A⟩, I1⟩ := q1
  replace hn : h1.size ≤ h1.size := Nat.le_refl _
  show Go _ _ _ _ T1 (mkF m 9 #[.val (.ref o), .val (.ref a)] [])
  exact Go.vreturnW S1 N1 hn rfl d_jdk_42_method_3_code_9 (by decide) (by decide) (⟨⟨rfl, t, kb, A⟩, IB.warm I1 S1.X.warmed⟩)
theorem own_shr0 (n : Int32) : n >>> ((0 : Int32) &&& 31) = n := by
  have a := c_ishr n 0 0 (by decide)
  rw [← Int32.toInt_inj, a]
  simp
theorem own_shl0 (n : Int32) : n <<< ((0 : Int32) &&& 31) = n := by
  have a := c_ishl n 0 0 (by decide)
  have r := rng32 n
  have r' := rng32 (n <<< ((0 : Int32) &&& 31))
  rw [← Int32.toInt_inj]
  simp only [Nat.pow_zero] at a
  omega
theorem own_addN {a b : Nat} (h : a + b < 2147483648) : a.toInt32 + b.toInt32 = (a + b).toInt32 := by
  rw [← Int32.toInt_inj, own_toInt h]
  have q := c_iadd a.toInt32 b.toInt32
  have r := rng32 (a.toInt32 + b.toInt32)
  rw [own_toInt (i := a) (by omega), own_toInt (i := b) (by omega)] at q
  omega
/-- the bytes of a builder's array -/
def own_buf (bs : List Int32) : List Value := bs.map Value.int ++ List.replicate (16 - bs.length) (.int 0)
theorem own_buf_len {bs : List Int32} (h : bs.length ≤ 16) : (own_buf bs).length = 16 := by
  simp only [own_buf, List.length_append, List.length_map, List.length_replicate]
  omega
theorem own_buf_put {bs xs : List Int32} (h : bs.length + xs.length ≤ 16) : (own_buf bs).take bs.length ++ xs.map Value.int ++ (own_buf bs).drop (bs.length + xs.length) = own_buf (bs ++ xs) := by
  have e1 : (own_buf bs).take bs.length = bs.map Value.int := by
    simp only [own_buf]
    rw [List.take_append_of_le_length (by simp), List.take_of_length_le (by simp)]
  have e2 : (own_buf bs).drop (bs.length + xs.length) = List.replicate (16 - (bs ++ xs).length) (.int 0) := by
    simp only [own_buf]
    rw [List.drop_append, List.drop_eq_nil_of_le (by simp), List.nil_append, List.length_map, List.drop_replicate, List.length_append]
    congr 1
    omega
  rw [e1, e2, own_buf, List.map_append]
theorem own_src (xs : List Int32) : xs.map Value.int = (List.range xs.length).map fun i => (xs.map Value.int).getD (0 + i) (.int 0) := by
  apply List.ext_getElem
  · simp
  · intro i h1 h2
    have h3 : i < xs.length := by simpa using h1
    simp [List.getD_eq_getElem?_getD, h3]
theorem own_srcb {bs : List Int32} (h : bs.length ≤ 16) : bs.map Value.int = (List.range bs.length).map fun i => (own_buf bs).getD (0 + i) (.int 0) := by
  apply List.ext_getElem
  · simp
  · intro i h1 h2
    have h3 : i < bs.length := by simpa using h1
    simp only [own_buf, List.getElem_map, List.getElem_range, List.getD_eq_getElem?_getD, Nat.zero_add]
    rw [List.getElem?_append_left (by simpa using h3)]
    simp [h3]
/-- the builder at o: its array at bv, its bytes bs -/
def SbAt (Z : State) (h : Heap) (o bv : Addr) (kv : ClassId) (bs : List Int32) : Prop := Exa Z h o "java/lang/StringBuilder" ∧ Fld Z h o "java/lang/AbstractStringBuilder" "value" "[B" (.ref bv) ∧ Fld Z h o "java/lang/AbstractStringBuilder" "coder" "B" (.int 0) ∧ Fld Z h o "java/lang/AbstractStringBuilder" "count" "I" (.int bs.length.toInt32) ∧ Arv Z h bv kv .byte 16 (own_buf bs) (.int 0) ∧ bs.length ≤ 16
section
variable {Z : State} {h h' : Heap} {o bv b : Addr} {kv : ClassId} {bs : List Int32} {ws : List Addr}
theorem SbAt.ext (F : SbAt Z h o bv kv bs) (E : Ext h h') : SbAt Z h' o bv kv bs := ⟨F.1.ext E, F.2.1.ext E, F.2.2.1.ext E, F.2.2.2.1.ext E, F.2.2.2.2.1.ext E, F.2.2.2.2.2⟩
theorem SbAt.keep (F : SbAt Z h o bv kv bs) (K : Keep h h' ws) (qa : o ∉ ws) (qt : bv ∉ ws) : SbAt Z h' o bv kv bs := ⟨F.1.keep K, F.2.1.keep K qa, F.2.2.1.keep K qa, F.2.2.2.1.keep K qa, F.2.2.2.2.1.keep K qt, F.2.2.2.2.2⟩
theorem SbAt.other {sl : Nat} {v : Value} (F : SbAt Z h o bv kv bs) (W : Wr h h' b sl v) (qa : o ≠ b) (qt : bv ≠ b) : SbAt Z h' o bv kv bs := ⟨F.1.wr W, F.2.1.other W (Or.inl qa), F.2.2.1.other W (Or.inl qa), F.2.2.2.1.other W (Or.inl qa), F.2.2.2.2.1.other W qt, F.2.2.2.2.2⟩
theorem SbAt.lt (F : SbAt Z h o bv kv bs) : o < h.size := F.1.lt
theorem SbAt.lt2 (F : SbAt Z h o bv kv bs) : bv < h.size := F.2.2.2.2.1.lt
end
set_option maxRecDepth 65536 in
set_option maxHeartbeats 4000000 in
theorem rm_coder {l : Launch} {Z : State} {a0 : Array Value} (hw : HW Z a0) (o : Addr) (cs : Int32) {h0 : Heap} (hE : Ext Z.heap h0) (Fc : Fld Z h0 o "java/lang/String" "coder" "B" (.int 0)) (Cs : Sta Z Z.heap "java/lang/String" "COMPACT_STRINGS" "Z" (.int cs)) (Cn : ¬ cs = 0) :
    OMeets l Z (⟨"java/lang/String", "coder", "()B"⟩ : MethodName) jdk_42_method_152_code 1 (some .byte) ({ frames := 0, cells := 0, slots := 0, locals := 0 } : Room) #[(.ref o)] h0 [] (fun v h => v = some (.int 0) ∧ h0 = h) := by
  refine OMeets.body (plainFor_of_name pn1) hE #[.val (.ref o)] (fun m => by first | rfl | (simp [entryFrame, mkF, argsToLocals, Value.category, maxLocals]; done)) ?_
  intro p e s m below meth co T S
  refine Go.getstatic S (host := "") (Or.inl (wd29 hw)) Via.refl Cs d_jdk_42_method_152_code_0 (pc' := 3) rfl ?_
  intro T1 S1
  refine Go.if_eq S1 d_jdk_42_method_152_code_3 (pt := 13) (by decide) (pc' := 6) rfl ?_ ?_
  · intro c3; exact absurd c3 Cn
  · intro c3
    refine Go.aloadN S1 d_jdk_42_method_152_code_6 rfl rfl (pc' := 7) rfl ?_
    refine Go.getfield S1 (host := "") (Or.inl (wd25 hw)) Via.refl Fc d_jdk_42_method_152_code_7 (pc' := 10) rfl ?_
    intro T2 S2
    refine Go.goto S2 d_jdk_42_method_152_code_10 (pc' := 14) (by decide) ?_
    exact Go.zreturn S2 rfl (by decide) d_jdk_42_method_152_code_14 (z' := (0 : Int32)) rfl (by decide) (by decide) (⟨rfl, rfl⟩)
set_option maxRecDepth 65536 in
set_option maxHeartbeats 4000000 in
theorem rm_asbinit {l : Launch} {Z : State} {a0 : Array Value} (hw : HW Z a0) (o : Addr) (cs : Int32) {h0 : Heap} (hE : Ext Z.heap h0) (hz : Z.heap.size ≤ o) (E : Exa Z h0 o "java/lang/StringBuilder") (Fv : Fld Z h0 o "java/lang/AbstractStringBuilder" "value" "[B" .null) (Fc : Fld Z h0 o "java/lang/AbstractStringBuilder" "coder" "B" (.int 0)) (Fn : Fld Z h0 o "java/lang/AbstractStringBuilder" "count" "I" (.int 0)) (Cs : Sta Z Z.heap "java/lang/String" "COMPACT_STRINGS" "Z" (.int cs)) (Cn : ¬ cs = 0) :
    OMeets l Z (⟨"java/lang/AbstractStringBuilder", "<init>", "(I)V"⟩ : MethodName) jdk_68_method_2_code 2 none ({ frames := 1, cells := 1, slots := 16, locals := 12 } : Room) #[(.ref o), (.int (16 : Int32))] h0 [o] (fun v h => v = none ∧ ∃ bv kv, SbAt Z h o bv kv [] ∧ h0.size ≤ bv) := by
  refine OMeets.body (plainFor_of_name pn3) hE #[.val (.ref o), .val (.int (16 : Int32))] (fun m => by first | rfl | (simp [entryFrame, mkF, argsToLocals, Value.category, maxLocals]; done)) ?_
  intro p e s m below meth co T S
  refine Go.aloadN S d_jdk_68_method_2_code_0 rfl rfl (pc' := 1) rfl ?_
  refine Go.initObject S (wd101 hw) (wd16 hw) (wd17 hw) d_jdk_68_method_2_code_1 rfl (by decide) (W := 0) rfl (by decide) (pc' := 4) rfl ?_
  intro T1 S1
  refine Go.getstatic S1 (host := "") (Or.inl (wd102 hw)) Via.refl Cs d_jdk_68_method_2_code_4 (pc' := 7) rfl ?_
  intro T2 S2
  refine Go.if_eq S2 d_jdk_68_method_2_code_7 (pt := 25) (by decide) (pc' := 10) rfl ?_ ?_
  · intro c7; exact absurd c7 Cn
  · intro c7
    refine Go.aloadN S2 d_jdk_68_method_2_code_10 rfl rfl (pc' := 11) rfl ?_
    refine Go.iloadN S2 d_jdk_68_method_2_code_11 rfl (pc' := 12) rfl ?_
    refine Go.newarray S2 (ty := .byte) (dv := (.int (0 : Int32))) rfl rfl (wd19 hw) d_jdk_68_method_2_code_12 (by decide) (cap := 16) (by decide) (by decide) (by decide) (by decide) (pc' := 14) rfl ?_
    intro T3 h3 a3 kA3 S3 E3 hg3 hz3 hk3 V3
    replace V3 : Arv Z h3 a3 kA3 .byte (16 : Int32) [(.int (0 : Int32)), (.int (0 : Int32)), (.int (0 : Int32)), (.int (0 : Int32)), (.int (0 : Int32)), (.int (0 : Int32)), (.int (0 : Int32)), (.int (0 : Int32)), (.int (0 : Int32)), (.int (0 : Int32)), (.int (0 : Int32)), (.int (0 : Int32)), (.int (0 : Int32)), (.int (0 : Int32)), (.int (0 : Int32)), (.int (0 : Int32))] (.int (0 : Int32)) := V3
    have n_o_a3 : o ≠ a3 := Nat.ne_of_lt (Nat.lt_of_lt_of_le E.lt (Nat.le_of_eq hg3))
    replace E := E.ext E3
    replace Fv := Fv.ext E3
    replace Fc := Fc.ext E3
    replace Fn := Fn.ext E3
    refine Go.putfield S3 (host := "") (Or.inl (wd103 hw)) Via.refl Fv E (Or.inl (wd104 hw)) (wd90 hw) (ty := (.array .byte)) (by decide) rfl rfl hz (Or.inl (List.mem_singleton.mpr rfl)) d_jdk_68_method_2_code_14 (pc' := 17) rfl ?_
    intro T4 h4 L4 S4 W4
    have F4 := Fv.same W4
    replace Fc := Fc.other W4 (Or.inr (slot_ne (Or.inl (wd106 hw)) (Or.inl (wd104 hw)) (by decide) (t := .byte) (t' := (.array .byte)) (by decide) (by decide)))
    replace Fn := Fn.other W4 (Or.inr (slot_ne (Or.inl (wd129 hw)) (Or.inl (wd104 hw)) (by decide) (t := .int) (t' := (.array .byte)) (by decide) (by decide)))
    replace E := E.wr W4
    replace V3 := V3.other W4 ((Ne.symm n_o_a3))
    refine Go.aloadN S4 d_jdk_68_method_2_code_17 rfl rfl (pc' := 18) rfl ?_
    refine Go.iconst S4 (v := 0) d_jdk_68_method_2_code_18 rfl (pc' := 19) rfl ?_
    refine Go.putfieldN S4 (wd105 hw) Via.refl Fc E (Or.inl (wd106 hw)) (wd90 hw) (ty := .byte) (by decide) (v' := (.int (0 : Int32))) rfl rfl hz (Or.inl (List.mem_singleton.mpr rfl)) d_jdk_68_method_2_code_19 (pc' := 22) rfl ?_
    intro T5 h5 L5 S5 W5
    have F5 := Fc.same W5
    replace Fn := Fn.other W5 (Or.inr (slot_ne (Or.inl (wd129 hw)) (Or.inl (wd106 hw)) (by decide) (t := .int) (t' := .byte) (by decide) (by decide)))
    replace F4 := F4.other W5 (Or.inr (slot_ne (Or.inl (wd104 hw)) (Or.inl (wd106 hw)) (by decide) (t := (.array .byte)) (t' := .byte) (by decide) (by decide)))
    replace E := E.wr W5
    replace V3 := V3.other W5 ((Ne.symm n_o_a3))
    refine Go.goto S5 d_jdk_68_method_2_code_22 (pc' := 38) (by decide) ?_
    exact Go.vreturn S5 rfl d_jdk_68_method_2_code_38 (by decide) (by decide) (⟨rfl, a3, kA3, ⟨E, F4, F5, Fn, V3, by decide⟩, hk3⟩)
set_option maxRecDepth 65536 in
set_option maxHeartbeats 4000000 in
theorem rm_sbinit {l : Launch} {Z : State} {a0 : Array Value} (hw : HW Z a0) (o : Addr) (cs : Int32) {h0 : Heap} (hE : Ext Z.heap h0) (hz : Z.heap.size ≤ o) (E : Exa Z h0 o "java/lang/StringBuilder") (Fv : Fld Z h0 o "java/lang/AbstractStringBuilder" "value" "[B" .null) (Fc : Fld Z h0 o "java/lang/AbstractStringBuilder" "coder" "B" (.int 0)) (Fn : Fld Z h0 o "java/lang/AbstractStringBuilder" "count" "I" (.int 0)) (Cs : Sta Z Z.heap "java/lang/String" "COMPACT_STRINGS" "Z" (.int cs)) (Cn : ¬ cs = 0) :
    OMeets l Z (⟨"java/lang/StringBuilder", "<init>", "()V"⟩ : MethodName) jdk_67_method_1_code 1 none ({ frames := 2, cells := 1, slots := 16, locals := 26 } : Room) #[(.ref o)] h0 [o] (fun v h => v = none ∧ ∃ bv kv, SbAt Z h o bv kv [] ∧ h0.size ≤ bv) := by
  refine OMeets.body (plainFor_of_name pn4) hE #[.val (.ref o)] (fun m => by first | rfl | (simp [entryFrame, mkF, argsToLocals, Value.category, maxLocals]; done)) ?_
  intro p e s m below meth co T S
  refine Go.aloadN S d_jdk_67_method_1_code_0 rfl rfl (pc' := 1) rfl ?_
  refine Go.bipush S (v := 16) d_jdk_67_method_1_code_1 rfl (pc' := 3) rfl ?_
  refine Go.invokespecial S (y := ⟨"java/lang/AbstractStringBuilder", "<init>", "(I)V"⟩) (rm_asbinit hw o cs S.ext hz E Fv Fc Fn Cs Cn) rfl rfl (wd95 hw) (wd96 hw) (wd99 hw) (wd100 hw) (by decide) d_jdk_67_method_1_code_3 rfl pd5 (argsL := [(.int (16 : Int32))]) rfl rfl rfl (by decide) (W := 0) rfl (by decide) (by decide) (by decide) (allS (Or.inl (List.mem_singleton.mpr rfl)) all0) (pc' := 6) rfl ?_
  intro v1 T1 h1 L1 S1 K1 q1
  obtain ⟨rfl, bv, kv, B, hb⟩ := q1
  show Go _ _ _ _ T1 (mkF m 6 #[.val (.ref o)] [])
  exact Go.vreturn S1 rfl d_jdk_67_method_1_code_6 (by decide) (by decide) (⟨rfl, bv, kv, B, hb⟩)
set_option maxRecDepth 65536 in
set_option maxHeartbeats 4000000 in
theorem rm_slen {l : Launch} {Z : State} {a0 : Array Value} (hw : HW Z a0) (so : Addr) (ts : Addr) (kb : ClassId) (xs : List Int32) (cs : Int32) {h0 : Heap} (hE : Ext Z.heap h0) (A : StrAt Z h0 so ts kb xs) (Cs : Sta Z Z.heap "java/lang/String" "COMPACT_STRINGS" "Z" (.int cs)) (Cn : ¬ cs = 0) :
    OMeets l Z (⟨"java/lang/String", "length", "()I"⟩ : MethodName) jdk_42_method_54_code 1 (some .int) ({ frames := 1, cells := 0, slots := 0, locals := 13 } : Room) #[(.ref so)] h0 [] (fun v h => v = some (.int xs.length.toInt32) ∧ h0 = h) := by
  refine OMeets.body (plainFor_of_name pn1) hE #[.val (.ref so)] (fun m => by first | rfl | (simp [entryFrame, mkF, argsToLocals, Value.category, maxLocals]; done)) ?_
  intro p e s m below meth co T S
  refine Go.aloadN S d_jdk_42_method_54_code_0 rfl rfl (pc' := 1) rfl ?_
  refine Go.getfield S (host := "") (Or.inl (wd24 hw)) Via.refl A.2.2.1 d_jdk_42_method_54_code_1 (pc' := 4) rfl ?_
  intro T1 S1
  refine Go.arraylength S1 A.2.2.2.1 d_jdk_42_method_54_code_4 (pc' := 5) rfl ?_
  refine Go.aloadN S1 d_jdk_42_method_54_code_5 rfl rfl (pc' := 6) rfl ?_
  refine Go.invokevirtual S1 (y := ⟨"java/lang/String", "coder", "()B"⟩) (rm_coder hw so cs S1.ext A.2.1 Cs Cn) (wd123 hw) (wd124 hw) (S1.nf (wd126 hw)) (wd126 hw) (wd125 hw) (wd6 hw) (wd127 hw) (by decide) A.1 d_jdk_42_method_54_code_6 rfl pd6 (argsL := []) rfl rfl rfl (by decide) (W := 1) rfl (by decide) (by decide) (by decide) all0 (pc' := 9) rfl ?_
  intro v2 T2 h2 L2 S2 K2 q2
  obtain ⟨rfl, rfl⟩ := q2
  show Go _ _ _ _ T2 (mkF m 9 #[.val (.ref so)] [(.int (0 : Int32)), (.int xs.length.toInt32)])
  refine Go.ishr S2 d_jdk_42_method_54_code_9 (pc' := 10) rfl ?_
  exact Go.ireturn S2 rfl d_jdk_42_method_54_code_10 (by decide) (by decide) (⟨by rw [own_shr0], rfl⟩)
set_option maxRecDepth 65536 in
set_option maxHeartbeats 4000000 in
theorem rm_ensure {l : Launch} {Z : State} {a0 : Array Value} (hw : HW Z a0) (o : Addr) (need : Int32) (bv : Addr) (kv : ClassId) (bs : List Int32) {h0 : Heap} (hE : Ext Z.heap h0) (B : SbAt Z h0 o bv kv bs) (hneed : ¬ 0 < need - 16) :
    OMeets l Z (⟨"java/lang/AbstractStringBuilder", "ensureCapacityInternal", "(I)V"⟩ : MethodName) jdk_68_method_9_code 3 none ({ frames := 0, cells := 0, slots := 0, locals := 0 } : Room) #[(.ref o), (.int need)] h0 [] (fun v h => v = none ∧ h0 = h) := by
  refine OMeets.body (plainFor_of_name pn3) hE #[.val (.ref o), .val (.int need), .unset] (fun m => by first | rfl | (simp [entryFrame, mkF, argsToLocals, Value.category, maxLocals]; done)) ?_
  intro p e s m below meth co T S
  refine Go.aloadN S d_jdk_68_method_9_code_0 rfl rfl (pc' := 1) rfl ?_
  refine Go.getfield S (host := "") (Or.inl (wd103 hw)) Via.refl B.2.1 d_jdk_68_method_9_code_1 (pc' := 4) rfl ?_
  intro T1 S1
  refine Go.arraylength S1 B.2.2.2.2.1 d_jdk_68_method_9_code_4 (pc' := 5) rfl ?_
  refine Go.aloadN S1 d_jdk_68_method_9_code_5 rfl rfl (pc' := 6) rfl ?_
  refine Go.getfield S1 (host := "") (Or.inl (wd105 hw)) Via.refl B.2.2.1 d_jdk_68_method_9_code_6 (pc' := 9) rfl ?_
  intro T2 S2
  refine Go.ishr S2 d_jdk_68_method_9_code_9 (pc' := 10) rfl ?_
  refine Go.istoreN S2 d_jdk_68_method_9_code_10 (Ls' := #[.val (.ref o), .val (.int need), .val (.int ((16 : Int32) >>> ((0 : Int32) &&& 31)))]) rfl (pc' := 11) rfl ?_
  rw [own_shr0]
  show Go _ _ _ _ T2 (mkF m 11 #[.val (.ref o), .val (.int need), .val (.int 16)] [])
  refine Go.iloadN S2 d_jdk_68_method_9_code_11 rfl (pc' := 12) rfl ?_
  refine Go.iloadN S2 d_jdk_68_method_9_code_12 rfl (pc' := 13) rfl ?_
  refine Go.isub S2 d_jdk_68_method_9_code_13 (pc' := 14) rfl ?_
  show Go _ _ _ _ T2 (mkF m 14 #[.val (.ref o), .val (.int need), .val (.int ((16 : Int32) >>> ((0 : Int32) &&& 31)))] [(.int (need - (16 : Int32)))])
  refine Go.if_le S2 d_jdk_68_method_9_code_14 (pt := 38) (by decide) (pc' := 17) rfl ?_ ?_
  · intro c14
    exact Go.vreturn S2 rfl d_jdk_68_method_9_code_38 (by decide) (by decide) (⟨rfl, rfl⟩)
  · intro c14; exact absurd c14 hneed
set_option maxRecDepth 65536 in
set_option maxHeartbeats 4000000 in
theorem rm_inflate {l : Launch} {Z : State} {a0 : Array Value} (hw : HW Z a0) (o : Addr) (so : Addr) (bv : Addr) (kv : ClassId) (bs : List Int32)(ts : Addr) (kb : ClassId) (xs : List Int32) (cs : Int32) {h0 : Heap} (hE : Ext Z.heap h0) (B : SbAt Z h0 o bv kv bs) (A : StrAt Z h0 so ts kb xs) (Cs : Sta Z Z.heap "java/lang/String" "COMPACT_STRINGS" "Z" (.int cs)) (Cn : ¬ cs = 0) :
    OMeets l Z (⟨"java/lang/AbstractStringBuilder", "inflateIfNeededFor", "(Ljava/lang/String;)V"⟩ : MethodName) jdk_68_method_71_code 2 none ({ frames := 1, cells := 0, slots := 0, locals := 14 } : Room) #[(.ref o), (.ref so)] h0 [] (fun v h => v = none ∧ h0 = h) := by
  refine OMeets.body (plainFor_of_name pn3) hE #[.val (.ref o), .val (.ref so)] (fun m => by first | rfl | (simp [entryFrame, mkF, argsToLocals, Value.category, maxLocals]; done)) ?_
  intro p e s m below meth co T S
  refine Go.getstatic S (host := "") (Or.inl (wd102 hw)) Via.refl Cs d_jdk_68_method_71_code_0 (pc' := 3) rfl ?_
  intro T1 S1
  refine Go.if_eq S1 d_jdk_68_method_71_code_3 (pt := 21) (by decide) (pc' := 6) rfl ?_ ?_
  · intro c3; exact absurd c3 Cn
  · intro c3
    refine Go.aloadN S1 d_jdk_68_method_71_code_6 rfl rfl (pc' := 7) rfl ?_
    refine Go.getfield S1 (host := "") (Or.inl (wd105 hw)) Via.refl B.2.2.1 d_jdk_68_method_71_code_7 (pc' := 10) rfl ?_
    intro T2 S2
    refine Go.aloadN S2 d_jdk_68_method_71_code_10 rfl rfl (pc' := 11) rfl ?_
    refine Go.invokevirtual S2 (y := ⟨"java/lang/String", "coder", "()B"⟩) (rm_coder hw so cs S2.ext A.2.1 Cs Cn) (wd145 hw) (wd124 hw) (S2.nf (wd126 hw)) (wd126 hw) (wd125 hw) (wd6 hw) (wd127 hw) (by decide) A.1 d_jdk_68_method_71_code_11 rfl pd6 (argsL := []) rfl rfl rfl (by decide) (W := 1) rfl (by decide) (by decide) (by decide) all0 (pc' := 14) rfl ?_
    intro v3 T3 h3 L3 S3 K3 q3
    obtain ⟨rfl, rfl⟩ := q3
    show Go _ _ _ _ T3 (mkF m 14 #[.val (.ref o), .val (.ref so)] [(.int (0 : Int32)), (.int (0 : Int32))])
    refine Go.icmp_eq S3 d_jdk_68_method_71_code_14 (pt := 21) (by decide) (pc' := 17) rfl ?_ ?_
    · intro c14
      exact Go.vreturn S3 rfl d_jdk_68_method_71_code_21 (by decide) (by decide) (⟨rfl, rfl⟩)
    · intro c14; exact absurd (by decide) c14
theorem own_nn {i : Nat} (h : i < 2147483648) : ¬ i.toInt32 < 0 := by
  rw [Int32.lt_iff_toInt_lt, own_toInt h]
  have e0 : (0 : Int32).toInt = 0 := rfl
  omega
set_option maxRecDepth 65536 in
set_option maxHeartbeats 4000000 in
theorem rm_getBytes {l : Launch} {Z : State} {a0 : Array Value} (hw : HW Z a0) (so : Addr) (d : Addr) (ts : Addr) (kb : ClassId) (xs : List Int32) (kd : ClassId) (bs : List Int32) (cs : Int32) {h0 : Heap} (hE : Ext Z.heap h0) (A : StrAt Z h0 so ts kb xs) (VD : Arv Z h0 d kd .byte 16 (own_buf bs) (.int 0)) (hsum : bs.length + xs.length ≤ 16) (hz : Z.heap.size ≤ d) (Cs : Sta Z Z.heap "java/lang/String" "COMPACT_STRINGS" "Z" (.int cs)) (Cn : ¬ cs = 0) :
    OMeets l Z (⟨"java/lang/String", "getBytes", "([BIB)V"⟩ : MethodName) jdk_42_method_147_code 4 none ({ frames := 1, cells := 0, slots := 0, locals := 18 } : Room) #[(.ref so), (.ref d), (.int bs.length.toInt32), (.int (0 : Int32))] h0 [d] (fun v h => v = none ∧ Arv Z h d kd .byte 16 (own_buf (bs ++ xs)) (.int 0)) := by
  refine OMeets.body (plainFor_of_name pn1) hE #[.val (.ref so), .val (.ref d), .val (.int bs.length.toInt32), .val (.int (0 : Int32))] (fun m => by first | rfl | (simp [entryFrame, mkF, argsToLocals, Value.category, maxLocals]; done)) ?_
  intro p e s m below meth co T S
  refine Go.aloadN S d_jdk_42_method_147_code_0 rfl rfl (pc' := 1) rfl ?_
  refine Go.invokevirtual S (y := ⟨"java/lang/String", "coder", "()B"⟩) (rm_coder hw so cs S.ext A.2.1 Cs Cn) (wd123 hw) (wd124 hw) (S.nf (wd126 hw)) (wd126 hw) (wd125 hw) (wd6 hw) (wd127 hw) (by decide) A.1 d_jdk_42_method_147_code_1 rfl pd6 (argsL := []) rfl rfl rfl (by decide) (W := 0) rfl (by decide) (by decide) (by decide) all0 (pc' := 4) rfl ?_
  intro v1 T1 h1 L1 S1 K1 q1
  obtain ⟨rfl, rfl⟩ := q1
  show Go _ _ _ _ T1 (mkF m 4 #[.val (.ref so), .val (.ref d), .val (.int bs.length.toInt32), .val (.int (0 : Int32))] [(.int (0 : Int32))])
  refine Go.iloadN S1 d_jdk_42_method_147_code_4 rfl (pc' := 5) rfl ?_
  refine Go.icmp_ne S1 d_jdk_42_method_147_code_5 (pt := 28) (by decide) (pc' := 8) rfl ?_ ?_
  · intro c5; exact absurd (by decide) c5
  · intro c5
    refine Go.aloadN S1 d_jdk_42_method_147_code_8 rfl rfl (pc' := 9) rfl ?_
    refine Go.getfield S1 (host := "") (Or.inl (wd24 hw)) Via.refl A.2.2.1 d_jdk_42_method_147_code_9 (pc' := 12) rfl ?_
    intro T2 S2
    refine Go.iconst S2 (v := 0) d_jdk_42_method_147_code_12 rfl (pc' := 13) rfl ?_
    refine Go.aloadN S2 d_jdk_42_method_147_code_13 rfl rfl (pc' := 14) rfl ?_
    refine Go.iloadN S2 d_jdk_42_method_147_code_14 rfl (pc' := 15) rfl ?_
    refine Go.iloadN S2 d_jdk_42_method_147_code_15 rfl (pc' := 16) rfl ?_
    refine Go.ishl S2 d_jdk_42_method_147_code_16 (pc' := 17) rfl ?_
    rw [own_shl0]
    show Go _ _ _ _ T2 (mkF m 17 #[.val (.ref so), .val (.ref d), .val (.int bs.length.toInt32), .val (.int (0 : Int32))] [(.int bs.length.toInt32), (.ref d), (.int (0 : Int32)), (.ref ts)])
    refine Go.aloadN S2 d_jdk_42_method_147_code_17 rfl rfl (pc' := 18) rfl ?_
    refine Go.getfield S2 (host := "") (Or.inl (wd24 hw)) Via.refl A.2.2.1 d_jdk_42_method_147_code_18 (pc' := 21) rfl ?_
    intro T3 S3
    refine Go.arraylength S3 A.2.2.2.1 d_jdk_42_method_147_code_21 (pc' := 22) rfl ?_
    refine Go.arraycopyB S3 (wd151 hw) (wd154 hw) (wd152 hw) (wd153 hw) A.2.2.2.1 VD (by decide) (own_nn (by omega)) (own_nn (by have := A.2.2.2.2; omega)) (by rw [own_clamp (by have := A.2.2.2.2; omega)] <;> exact Nat.le_of_eq (Nat.zero_add _)) (by rw [own_clamp (by omega), own_clamp (by omega)]; exact hsum) (us := (xs.map Value.int)) (by rw [own_clamp (by omega)]; exact own_src xs) (by rw [own_clamp (by omega), own_clamp (by omega), own_buf_len (by omega)]; exact hsum) (ue := (own_buf (bs ++ xs))) (by rw [own_clamp (by omega), own_clamp (by omega)]; exact own_buf_put hsum) hz (Or.inl (List.mem_singleton.mpr rfl)) d_jdk_42_method_147_code_22 rfl (by decide) (W := 0) rfl (by decide) (pc' := 25) rfl ?_
    intro T4 h4 L4 S4 K4 V4
    show Go _ _ _ _ T4 (mkF m 25 #[.val (.ref so), .val (.ref d), .val (.int bs.length.toInt32), .val (.int (0 : Int32))] [])
    refine Go.goto S4 d_jdk_42_method_147_code_25 (pc' := 43) (by decide) ?_
    exact Go.vreturn S4 rfl d_jdk_42_method_147_code_43 (by decide) (by decide) (⟨rfl, V4⟩)
set_option maxRecDepth 65536 in
set_option maxHeartbeats 4000000 in
theorem rm_putStr {l : Launch} {Z : State} {a0 : Array Value} (hw : HW Z a0) (o : Addr) (so : Addr) (bv : Addr) (kv : ClassId) (bs : List Int32)(ts : Addr) (kb : ClassId) (xs : List Int32) (cs : Int32) {h0 : Heap} (hE : Ext Z.heap h0) (B : SbAt Z h0 o bv kv bs) (A : StrAt Z h0 so ts kb xs) (hsum : bs.length + xs.length ≤ 16) (hzb : Z.heap.size ≤ bv) (Cs : Sta Z Z.heap "java/lang/String" "COMPACT_STRINGS" "Z" (.int cs)) (Cn : ¬ cs = 0) :
    OMeets l Z (⟨"java/lang/AbstractStringBuilder", "putStringAt", "(ILjava/lang/String;)V"⟩ : MethodName) jdk_68_method_73_code 3 none ({ frames := 2, cells := 0, slots := 0, locals := 35 } : Room) #[(.ref o), (.int bs.length.toInt32), (.ref so)] h0 [bv] (fun v h => v = none ∧ Arv Z h bv kv .byte 16 (own_buf (bs ++ xs)) (.int 0)) := by
  refine OMeets.body (plainFor_of_name pn3) hE #[.val (.ref o), .val (.int bs.length.toInt32), .val (.ref so)] (fun m => by first | rfl | (simp [entryFrame, mkF, argsToLocals, Value.category, maxLocals]; done)) ?_
  intro p e s m below meth co T S
  refine Go.aloadN S d_jdk_68_method_73_code_0 rfl rfl (pc' := 1) rfl ?_
  refine Go.aloadN S d_jdk_68_method_73_code_1 rfl rfl (pc' := 2) rfl ?_
  refine Go.invokeprivateF S (y := ⟨"java/lang/AbstractStringBuilder", "inflateIfNeededFor", "(Ljava/lang/String;)V"⟩) (rm_inflate hw o so bv kv bs ts kb xs cs S.ext B A Cs Cn) (wd140 hw) (wd141 hw) (wd142 hw) (S.face "java/lang/AbstractStringBuilder" rfl (wd171 hw) (wd170 hw)) (wd99 hw) (wd144 hw) (by decide) B.1 d_jdk_68_method_73_code_2 rfl pd7 (argsL := [(.ref so)]) rfl rfl rfl (by decide) (W := 0) rfl (by decide) (by decide) (by decide) all0 (pc' := 5) rfl ?_
  intro v1 T1 h1 L1 S1 K1 q1
  obtain ⟨rfl, rfl⟩ := q1
  show Go _ _ _ _ T1 (mkF m 5 #[.val (.ref o), .val (.int bs.length.toInt32), .val (.ref so)] [])
  refine Go.aloadN S1 d_jdk_68_method_73_code_5 rfl rfl (pc' := 6) rfl ?_
  refine Go.aloadN S1 d_jdk_68_method_73_code_6 rfl rfl (pc' := 7) rfl ?_
  refine Go.getfield S1 (host := "") (Or.inl (wd103 hw)) Via.refl B.2.1 d_jdk_68_method_73_code_7 (pc' := 10) rfl ?_
  intro T2 S2
  refine Go.iloadN S2 d_jdk_68_method_73_code_10 rfl (pc' := 11) rfl ?_
  refine Go.aloadN S2 d_jdk_68_method_73_code_11 rfl rfl (pc' := 12) rfl ?_
  refine Go.getfield S2 (host := "") (Or.inl (wd105 hw)) Via.refl B.2.2.1 d_jdk_68_method_73_code_12 (pc' := 15) rfl ?_
  intro T3 S3
  refine Go.invokevirtual S3 (y := ⟨"java/lang/String", "getBytes", "([BIB)V"⟩) (rm_getBytes hw so bv ts kb xs kv bs cs S3.ext A B.2.2.2.2.1 hsum hzb Cs Cn) (wd146 hw) (wd147 hw) (S3.nf (wd149 hw)) (wd149 hw) (wd148 hw) (wd6 hw) (wd150 hw) (by decide) A.1 d_jdk_68_method_73_code_15 rfl pd8 (argsL := [(.ref bv), (.int bs.length.toInt32), (.int (0 : Int32))]) rfl rfl rfl (by decide) (W := 0) rfl (by decide) (by decide) (by decide) (allS (Or.inl (List.mem_singleton.mpr rfl)) all0) (pc' := 18) rfl ?_
  intro v4 T4 h4 L4 S4 K4 q4
  obtain ⟨rfl, V⟩ := q4
  show Go _ _ _ _ T4 (mkF m 18 #[.val (.ref o), .val (.int bs.length.toInt32), .val (.ref so)] [])
  exact Go.vreturn S4 rfl d_jdk_68_method_73_code_18 (by decide) (by decide) (⟨rfl, V⟩)
theorem own_room {a b : Nat} (h : a + b ≤ 16) : ¬ 0 < a.toInt32 + b.toInt32 - 16 := by
  rw [own_addN (by omega), Int32.lt_iff_toInt_lt]
  have q := c_isub (a + b).toInt32 16
  have r := rng32 ((a + b).toInt32 - 16)
  have e0 : (0 : Int32).toInt = 0 := rfl
  have e16 : (16 : Int32).toInt = 16 := rfl
  rw [own_toInt (i := a + b) (by omega)] at q
  omega
set_option maxRecDepth 65536 in
set_option maxHeartbeats 4000000 in
theorem rm_asbappend {l : Launch} {Z : State} {a0 : Array Value} (hw : HW Z a0) (o : Addr) (so : Addr) (bv : Addr) (kv : ClassId) (bs : List Int32)(ts : Addr) (kb : ClassId) (xs : List Int32) (cs : Int32) {h0 : Heap} (hE : Ext Z.heap h0) (B : SbAt Z h0 o bv kv bs) (A : StrAt Z h0 so ts kb xs) (hsum : bs.length + xs.length ≤ 16) (hzo : Z.heap.size ≤ o) (hzb : Z.heap.size ≤ bv) (hob : o ≠ bv) (Cs : Sta Z Z.heap "java/lang/String" "COMPACT_STRINGS" "Z" (.int cs)) (Cn : ¬ cs = 0) :
    OMeets l Z (⟨"java/lang/AbstractStringBuilder", "append", "(Ljava/lang/String;)Ljava/lang/AbstractStringBuilder;"⟩ : MethodName) jdk_68_method_22_code 3 (some (.object "java/lang/AbstractStringBuilder")) ({ frames := 3, cells := 0, slots := 0, locals := 50 } : Room) #[(.ref o), (.ref so)] h0 [o, bv] (fun v h => v = some (.ref o) ∧ SbAt Z h o bv kv (bs ++ xs)) := by
  refine OMeets.body (plainFor_of_name pn3) hE #[.val (.ref o), .val (.ref so), .unset] (fun m => by first | rfl | (simp [entryFrame, mkF, argsToLocals, Value.category, maxLocals]; done)) ?_
  intro p e s m below meth co T S
  have BE := B.1
  have BV := B.2.1
  have BC := B.2.2.1
  have BN := B.2.2.2.1
  refine Go.aloadN S d_jdk_68_method_22_code_0 rfl rfl (pc' := 1) rfl ?_
  refine Go.ifnonnullY S d_jdk_68_method_22_code_1 (pt := 9) (by decide) ?_
  refine Go.aloadN S d_jdk_68_method_22_code_9 rfl rfl (pc' := 10) rfl ?_
  refine Go.invokevirtual S (y := ⟨"java/lang/String", "length", "()I"⟩) (rm_slen hw so ts kb xs cs S.ext A Cs Cn) (wd118 hw) (wd119 hw) (S.nf (wd121 hw)) (wd121 hw) (wd120 hw) (wd6 hw) (wd122 hw) (by decide) A.1 d_jdk_68_method_22_code_10 rfl pd9 (argsL := []) rfl rfl rfl (by decide) (W := 0) rfl (by decide) (by decide) (by decide) all0 (pc' := 13) rfl ?_
  intro v1 T1 h1 L1 S1 K1 q1
  obtain ⟨rfl, rfl⟩ := q1
  show Go _ _ _ _ T1 (mkF m 13 #[.val (.ref o), .val (.ref so), .unset] [(.int xs.length.toInt32)])
  refine Go.istoreN S1 d_jdk_68_method_22_code_13 (Ls' := #[.val (.ref o), .val (.ref so), .val (.int xs.length.toInt32)]) rfl (pc' := 14) rfl ?_
  refine Go.aloadN S1 d_jdk_68_method_22_code_14 rfl rfl (pc' := 15) rfl ?_
  refine Go.aloadN S1 d_jdk_68_method_22_code_15 rfl rfl (pc' := 16) rfl ?_
  refine Go.getfield S1 (host := "") (Or.inl (wd128 hw)) Via.refl BN d_jdk_68_method_22_code_16 (pc' := 19) rfl ?_
  intro T2 S2
  refine Go.iloadN S2 d_jdk_68_method_22_code_19 rfl (pc' := 20) rfl ?_
  refine Go.iadd S2 d_jdk_68_method_22_code_20 (pc' := 21) rfl ?_
  refine Go.invokeprivateF S2 (y := ⟨"java/lang/AbstractStringBuilder", "ensureCapacityInternal", "(I)V"⟩) (rm_ensure hw o (bs.length.toInt32 + xs.length.toInt32) bv kv bs S2.ext B (own_room hsum)) (wd130 hw) (wd131 hw) (wd132 hw) (S2.face "java/lang/AbstractStringBuilder" rfl (wd171 hw) (wd170 hw)) (wd99 hw) (wd134 hw) (by decide) B.1 d_jdk_68_method_22_code_21 rfl pd5 (argsL := [(.int (bs.length.toInt32 + xs.length.toInt32))]) rfl rfl rfl (by decide) (W := 0) rfl (by decide) (by decide) (by decide) all0 (pc' := 24) rfl ?_
  intro v3 T3 h3 L3 S3 K3 q3
  obtain ⟨rfl, rfl⟩ := q3
  show Go _ _ _ _ T3 (mkF m 24 #[.val (.ref o), .val (.ref so), .val (.int xs.length.toInt32)] [])
  refine Go.aloadN S3 d_jdk_68_method_22_code_24 rfl rfl (pc' := 25) rfl ?_
  refine Go.aloadN S3 d_jdk_68_method_22_code_25 rfl rfl (pc' := 26) rfl ?_
  refine Go.getfield S3 (host := "") (Or.inl (wd128 hw)) Via.refl BN d_jdk_68_method_22_code_26 (pc' := 29) rfl ?_
  intro T4 S4
  refine Go.aloadN S4 d_jdk_68_method_22_code_29 rfl rfl (pc' := 30) rfl ?_
  refine Go.invokeprivateF S4 (y := ⟨"java/lang/AbstractStringBuilder", "putStringAt", "(ILjava/lang/String;)V"⟩) (rm_putStr hw o so bv kv bs ts kb xs cs S4.ext B A hsum hzb Cs Cn) (wd135 hw) (wd136 hw) (wd137 hw) (S4.face "java/lang/AbstractStringBuilder" rfl (wd171 hw) (wd170 hw)) (wd99 hw) (wd139 hw) (by decide) B.1 d_jdk_68_method_22_code_30 rfl pd10 (argsL := [(.int bs.length.toInt32), (.ref so)]) rfl rfl rfl (by decide) (W := 0) rfl (by decide) (by decide) (by decide) (allS (Or.inl (List.mem_cons_of_mem _ (List.mem_singleton.mpr rfl))) all0) (pc' := 33) rfl ?_
  intro v5 T5 h5 L5 S5 K5 q5
  obtain ⟨rfl, V⟩ := q5
  replace BE := BE.keep K5
  replace BV := BV.keep K5 (ninS hob nin0)
  replace BC := BC.keep K5 (ninS hob nin0)
  replace BN := BN.keep K5 (ninS hob nin0)
  show Go _ _ _ _ T5 (mkF m 33 #[.val (.ref o), .val (.ref so), .val (.int xs.length.toInt32)] [])
  refine Go.aloadN S5 d_jdk_68_method_22_code_33 rfl rfl (pc' := 34) rfl ?_
  refine Go.dup S5 d_jdk_68_method_22_code_34 rfl (pc' := 35) rfl ?_
  refine Go.getfield S5 (host := "") (Or.inl (wd128 hw)) Via.refl BN d_jdk_68_method_22_code_35 (pc' := 38) rfl ?_
  intro T6 S6
  refine Go.iloadN S6 d_jdk_68_method_22_code_38 rfl (pc' := 39) rfl ?_
  refine Go.iadd S6 d_jdk_68_method_22_code_39 (pc' := 40) rfl ?_
  refine Go.putfield S6 (host := "") (Or.inl (wd128 hw)) Via.refl BN BE (Or.inl (wd129 hw)) (wd90 hw) (ty := .int) (by decide) rfl rfl hzo (Or.inl (List.mem_cons_self ..)) d_jdk_68_method_22_code_40 (pc' := 43) rfl ?_
  intro T7 h7 L7 S7 W7
  have F7 := BN.same W7
  replace BV := BV.other W7 (Or.inr (slot_ne (Or.inl (wd104 hw)) (Or.inl (wd129 hw)) (by decide) (t := (.array .byte)) (t' := .int) (by decide) (by decide)))
  replace BC := BC.other W7 (Or.inr (slot_ne (Or.inl (wd106 hw)) (Or.inl (wd129 hw)) (by decide) (t := .byte) (t' := .int) (by decide) (by decide)))
  replace BE := BE.wr W7
  replace V := V.other W7 ((Ne.symm hob))
  refine Go.aloadN S7 d_jdk_68_method_22_code_43 rfl rfl (pc' := 44) rfl ?_
  exact Go.areturn S7 rfl rfl rfl d_jdk_68_method_22_code_44 (by decide) (by decide) (⟨rfl, BE, BV, BC, by rw [List.length_append, ← own_addN (by omega)]; exact F7, V, by rw [List.length_append]; exact hsum⟩)
set_option maxRecDepth 65536 in
set_option maxHeartbeats 4000000 in
theorem rm_append {l : Launch} {Z : State} {a0 : Array Value} (hw : HW Z a0) (o : Addr) (so : Addr) (bv : Addr) (kv : ClassId) (bs : List Int32)(ts : Addr) (kb : ClassId) (xs : List Int32) (cs : Int32) {h0 : Heap} (hE : Ext Z.heap h0) (B : SbAt Z h0 o bv kv bs) (A : StrAt Z h0 so ts kb xs) (hsum : bs.length + xs.length ≤ 16) (hzo : Z.heap.size ≤ o) (hzb : Z.heap.size ≤ bv) (hob : o ≠ bv) (Cs : Sta Z Z.heap "java/lang/String" "COMPACT_STRINGS" "Z" (.int cs)) (Cn : ¬ cs = 0) :
    OMeets l Z (⟨"java/lang/StringBuilder", "append", "(Ljava/lang/String;)Ljava/lang/StringBuilder;"⟩ : MethodName) jdk_67_method_7_code 2 (some (.object "java/lang/StringBuilder")) ({ frames := 4, cells := 0, slots := 0, locals := 64 } : Room) #[(.ref o), (.ref so)] h0 [o, bv] (fun v h => v = some (.ref o) ∧ SbAt Z h o bv kv (bs ++ xs)) := by
  refine OMeets.body (plainFor_of_name pn4) hE #[.val (.ref o), .val (.ref so)] (fun m => by first | rfl | (simp [entryFrame, mkF, argsToLocals, Value.category, maxLocals]; done)) ?_
  intro p e s m below meth co T S
  refine Go.aloadN S d_jdk_67_method_7_code_0 rfl rfl (pc' := 1) rfl ?_
  refine Go.aloadN S d_jdk_67_method_7_code_1 rfl rfl (pc' := 2) rfl ?_
  refine Go.invokesuper S (y := ⟨"java/lang/AbstractStringBuilder", "append", "(Ljava/lang/String;)Ljava/lang/AbstractStringBuilder;"⟩) (rm_asbappend hw o so bv kv bs ts kb xs cs S.ext B A hsum hzo hzb hob Cs Cn) (wd113 hw) (own_face "java/lang/AbstractStringBuilder" rfl (wd171 hw) (wd170 hw)) (wd114 hw) (wd115 hw) (by decide) (wd99 hw) (wd117 hw) (by decide) B.1 d_jdk_67_method_7_code_2 rfl pd11 (argsL := [(.ref so)]) rfl rfl rfl (by decide) (W := 0) rfl (by decide) (by decide) (by decide) (fun x hx => Or.inl hx) (pc' := 5) rfl ?_
  intro v1 T1 h1 L1 S1 K1 q1
  obtain ⟨rfl, B'⟩ := q1
  show Go _ _ _ _ T1 (mkF m 5 #[.val (.ref o), .val (.ref so)] [(.ref o)])
  refine Go.pop S1 d_jdk_67_method_7_code_5 rfl (pc' := 6) rfl ?_
  refine Go.aloadN S1 d_jdk_67_method_7_code_6 rfl rfl (pc' := 7) rfl ?_
  exact Go.areturn S1 rfl rfl rfl d_jdk_67_method_7_code_7 (by decide) (by decide) (⟨rfl, B'⟩)
set_option maxRecDepth 65536 in
set_option maxHeartbeats 4000000 in
theorem rm_chkLen {l : Launch} {Z : State} {a0 : Array Value} (hw : HW Z a0) (n : Int32)  {h0 : Heap} (hE : Ext Z.heap h0) (hn : ¬ n < 0) :
    OMeets l Z (⟨"java/util/Arrays", "checkLength", "(II)V"⟩ : MethodName) jdk_65_method_131_code 2 none ({ frames := 0, cells := 0, slots := 0, locals := 0 } : Room) #[(.int (0 : Int32)), (.int n)] h0 [] (fun v h => v = none ∧ h0 = h) := by
  refine OMeets.body (plainFor_of_name pn5) hE #[.val (.int (0 : Int32)), .val (.int n)] (fun m => by first | rfl | (simp [entryFrame, mkF, argsToLocals, Value.category, maxLocals]; done)) ?_
  intro p e s m below meth co T S
  refine Go.iloadN S d_jdk_65_method_131_code_0 rfl (pc' := 1) rfl ?_
  refine Go.iloadN S d_jdk_65_method_131_code_1 rfl (pc' := 2) rfl ?_
  refine Go.icmp_ge S d_jdk_65_method_131_code_2 (pt := 37) (by decide) (pc' := 5) rfl ?_ ?_
  · intro c2
    exact Go.vreturn S rfl d_jdk_65_method_131_code_37 (by decide) (by decide) (⟨rfl, rfl⟩)
  · intro c2; exact absurd c2 hn
set_option maxRecDepth 65536 in
set_option maxHeartbeats 4000000 in
theorem rm_min {l : Launch} {Z : State} {a0 : Array Value} (hw : HW Z a0) (p1 : Int32) (p2 : Int32)  {h0 : Heap} (hE : Ext Z.heap h0) (hp : p2 < p1) :
    OMeets l Z (⟨"java/lang/Math", "min", "(II)I"⟩ : MethodName) jdk_29_method_69_code 2 (some .int) ({ frames := 0, cells := 0, slots := 0, locals := 0 } : Room) #[(.int p1), (.int p2)] h0 [] (fun v h => v = some (.int p2) ∧ h0 = h) := by
  refine OMeets.body (Jvm.Free.JP.mathPlain rfl (by decide +kernel)) hE #[.val (.int p1), .val (.int p2)] (fun m => by first | rfl | (simp [entryFrame, mkF, argsToLocals, Value.category, maxLocals]; done)) ?_
  intro p e s m below meth co T S
  refine Go.iloadN S d_jdk_29_method_69_code_0 rfl (pc' := 1) rfl ?_
  refine Go.iloadN S d_jdk_29_method_69_code_1 rfl (pc' := 2) rfl ?_
  refine Go.icmp_gt S d_jdk_29_method_69_code_2 (pt := 9) (by decide) (pc' := 5) rfl ?_ ?_
  · intro c2
    refine Go.iloadN S d_jdk_29_method_69_code_9 rfl (pc' := 10) rfl ?_
    exact Go.ireturn S rfl d_jdk_29_method_69_code_10 (by decide) (by decide) (⟨rfl, rfl⟩)
  · intro c2; exact absurd hp c2
theorem own_sub0 (n : Int32) : n - 0 = n := by
  rw [← Int32.toInt_inj]
  have q := c_isub n 0
  have r := rng32 (n - 0)
  have r' := rng32 n
  have e0 : (0 : Int32).toInt = 0 := rfl
  omega
theorem own_lt16 {i : Nat} (h : i < 16) : i.toInt32 < 16 := by
  rw [Int32.lt_iff_toInt_lt, own_toInt (by omega)]
  have e0 : (16 : Int32).toInt = 16 := rfl
  omega
theorem own_zeros (n k i : Nat) : (List.replicate k (Value.int 0)).getD i (.int 0) = (List.replicate n (Value.int 0)).getD i (.int 0) := by
  simp only [List.getD_eq_getElem?_getD, List.getElem?_replicate]
  split <;> split <;> rfl
theorem own_cpy (bs : List Int32) : (List.replicate bs.length (Value.int 0)).take 0 ++ bs.map Value.int ++ (List.replicate bs.length (Value.int 0)).drop (0 + bs.length) = bs.map Value.int := by
  rw [List.take_zero, List.nil_append, List.drop_eq_nil_of_le (by simp), List.append_nil]
set_option maxRecDepth 65536 in
set_option maxHeartbeats 4000000 in
theorem rm_copyRB {l : Launch} {Z : State} {a0 : Array Value} (hw : HW Z a0) (bv : Addr) (kv : ClassId) (bs : List Int32) {h0 : Heap} (hE : Ext Z.heap h0) (VB : Arv Z h0 bv kv .byte 16 (own_buf bs) (.int 0)) (hlt : bs.length < 16) :
    OMeets l Z (⟨"java/util/Arrays", "copyOfRangeByte", "([BII)[B"⟩ : MethodName) jdk_65_method_133_code 5 (some (.array .byte)) ({ frames := 1, cells := 1, slots := 16, locals := 18 } : Room) #[(.ref bv), (.int (0 : Int32)), (.int bs.length.toInt32)] h0 [] (fun v h => ∃ d kd, v = some (.ref d) ∧ h0.size ≤ d ∧ Arv Z h d kd .byte bs.length.toInt32 (bs.map Value.int) (.int 0)) := by
  refine OMeets.body (plainFor_of_name pn5) hE #[.val (.ref bv), .val (.int (0 : Int32)), .val (.int bs.length.toInt32), .unset, .unset] (fun m => by first | rfl | (simp [entryFrame, mkF, argsToLocals, Value.category, maxLocals]; done)) ?_
  intro p e s m below meth co T S
  refine Go.iloadN S d_jdk_65_method_133_code_0 rfl (pc' := 1) rfl ?_
  refine Go.iloadN S d_jdk_65_method_133_code_1 rfl (pc' := 2) rfl ?_
  refine Go.invokestatic S (y := ⟨"java/util/Arrays", "checkLength", "(II)V"⟩) (rm_chkLen hw bs.length.toInt32 S.ext (own_nn (by omega))) (wd193 hw) (wd194 hw) (wd188 hw) (wd195 hw) (by decide) d_jdk_65_method_133_code_2 rfl pd12 (argsL := [(.int (0 : Int32)), (.int bs.length.toInt32)]) rfl rfl rfl (by decide) (W := 0) rfl (by decide) (by decide) (by decide) all0 (pc' := 5) rfl ?_
  intro v1 T1 h1 L1 S1 K1 q1
  obtain ⟨rfl, rfl⟩ := q1
  show Go _ _ _ _ T1 (mkF m 5 #[.val (.ref bv), .val (.int (0 : Int32)), .val (.int bs.length.toInt32), .unset, .unset] [])
  refine Go.iloadN S1 d_jdk_65_method_133_code_5 rfl (pc' := 6) rfl ?_
  refine Go.iloadN S1 d_jdk_65_method_133_code_6 rfl (pc' := 7) rfl ?_
  refine Go.isub S1 d_jdk_65_method_133_code_7 (pc' := 8) rfl ?_
  rw [own_sub0]
  show Go _ _ _ _ T1 (mkF m 8 #[.val (.ref bv), .val (.int (0 : Int32)), .val (.int bs.length.toInt32), .unset, .unset] [(.int bs.length.toInt32)])
  refine Go.istoreN S1 d_jdk_65_method_133_code_8 (Ls' := #[.val (.ref bv), .val (.int (0 : Int32)), .val (.int bs.length.toInt32), .val (.int bs.length.toInt32), .unset]) rfl (pc' := 9) rfl ?_
  refine Go.iloadN S1 d_jdk_65_method_133_code_9 rfl (pc' := 10) rfl ?_
  refine Go.newarray S1 (ty := .byte) (dv := (.int (0 : Int32))) rfl rfl (wd19 hw) d_jdk_65_method_133_code_10 (own_nn (by omega)) (cap := 16) (by rw [own_clamp (by omega)]; omega) (by decide) (by decide) (by decide) (pc' := 12) rfl ?_
  intro T2 h2 d kd S2 E2 hg2 hzd hkd V2
  replace VB := VB.ext E2
  replace V2 := V2.pad (own_zeros 16 bs.length)
  refine Go.astore S2 d_jdk_65_method_133_code_12 rfl (Ls' := #[.val (.ref bv), .val (.int (0 : Int32)), .val (.int bs.length.toInt32), .val (.int bs.length.toInt32), .val (.ref d)]) rfl (pc' := 14) rfl ?_
  refine Go.aloadN S2 d_jdk_65_method_133_code_14 rfl rfl (pc' := 15) rfl ?_
  refine Go.iloadN S2 d_jdk_65_method_133_code_15 rfl (pc' := 16) rfl ?_
  refine Go.aload S2 d_jdk_65_method_133_code_16 rfl rfl (pc' := 18) rfl ?_
  refine Go.iconst S2 (v := 0) d_jdk_65_method_133_code_18 rfl (pc' := 19) rfl ?_
  refine Go.aloadN S2 d_jdk_65_method_133_code_19 rfl rfl (pc' := 20) rfl ?_
  refine Go.arraylength S2 VB d_jdk_65_method_133_code_20 (pc' := 21) rfl ?_
  refine Go.iloadN S2 d_jdk_65_method_133_code_21 rfl (pc' := 22) rfl ?_
  refine Go.isub S2 d_jdk_65_method_133_code_22 (pc' := 23) rfl ?_
  rw [own_sub0]
  show Go _ _ _ _ T2 (mkF m 23 #[.val (.ref bv), .val (.int (0 : Int32)), .val (.int bs.length.toInt32), .val (.int bs.length.toInt32), .val (.ref d)] [(.int (16 : Int32)), (.int (0 : Int32)), (.ref d), (.int (0 : Int32)), (.ref bv)])
  refine Go.iloadN S2 d_jdk_65_method_133_code_23 rfl (pc' := 24) rfl ?_
  refine Go.invokestatic S2 (y := ⟨"java/lang/Math", "min", "(II)I"⟩) (rm_min hw 16 bs.length.toInt32 S2.ext (own_lt16 hlt)) (wd196 hw) (wd197 hw) (wd198 hw) (wd199 hw) (by decide) d_jdk_65_method_133_code_24 rfl pd13 (argsL := [(.int (16 : Int32)), (.int bs.length.toInt32)]) rfl rfl rfl (by decide) (W := 4) rfl (by decide) (by decide) (by decide) all0 (pc' := 27) rfl ?_
  intro v3 T3 h3 L3 S3 K3 q3
  obtain ⟨rfl, rfl⟩ := q3
  show Go _ _ _ _ T3 (mkF m 27 #[.val (.ref bv), .val (.int (0 : Int32)), .val (.int bs.length.toInt32), .val (.int bs.length.toInt32), .val (.ref d)] [(.int bs.length.toInt32), (.int (0 : Int32)), (.ref d), (.int (0 : Int32)), (.ref bv)])
  refine Go.arraycopyB S3 (wd200 hw) (wd154 hw) (wd152 hw) (wd153 hw) VB V2 (by decide) (by decide) (own_nn (by omega)) (by rw [own_clamp (by omega)]; show 0 + bs.length ≤ 16; omega) (by rw [own_clamp (by omega)] <;> exact Nat.le_of_eq (Nat.zero_add _)) (us := (bs.map Value.int)) (by rw [own_clamp (by omega)]; exact own_srcb (by omega)) (by rw [own_clamp (by omega)]; show 0 + bs.length ≤ (List.replicate bs.length (Value.int 0)).length; rw [List.length_replicate]; omega) (ue := (bs.map Value.int)) (by rw [own_clamp (by omega)]; exact own_cpy bs) hzd (Or.inr hkd) d_jdk_65_method_133_code_27 rfl (by decide) (W := 0) rfl (by decide) (pc' := 30) rfl ?_
  intro T4 h4 L4 S4 K4 V4
  show Go _ _ _ _ T4 (mkF m 30 #[.val (.ref bv), .val (.int (0 : Int32)), .val (.int bs.length.toInt32), .val (.int bs.length.toInt32), .val (.ref d)] [])
  refine Go.aload S4 d_jdk_65_method_133_code_30 rfl rfl (pc' := 32) rfl ?_
  exact Go.areturn S4 rfl rfl rfl d_jdk_65_method_133_code_32 (by decide) (by decide) (⟨d, kd, rfl, hkd, V4⟩)
set_option maxRecDepth 65536 in
set_option maxHeartbeats 4000000 in
theorem rm_copyR {l : Launch} {Z : State} {a0 : Array Value} (hw : HW Z a0) (bv : Addr) (kv : ClassId) (bs : List Int32) {h0 : Heap} (hE : Ext Z.heap h0) (VB : Arv Z h0 bv kv .byte 16 (own_buf bs) (.int 0)) (hlt : bs.length < 16) :
    OMeets l Z (⟨"java/util/Arrays", "copyOfRange", "([BII)[B"⟩ : MethodName) jdk_65_method_132_code 3 (some (.array .byte)) ({ frames := 2, cells := 1, slots := 16, locals := 34 } : Room) #[(.ref bv), (.int (0 : Int32)), (.int bs.length.toInt32)] h0 [] (fun v h => ∃ d kd, v = some (.ref d) ∧ h0.size ≤ d ∧ Arv Z h d kd .byte bs.length.toInt32 (bs.map Value.int) (.int 0)) := by
  refine OMeets.body (plainFor_of_name pn5) hE #[.val (.ref bv), .val (.int (0 : Int32)), .val (.int bs.length.toInt32)] (fun m => by first | rfl | (simp [entryFrame, mkF, argsToLocals, Value.category, maxLocals]; done)) ?_
  intro p e s m below meth co T S
  refine Go.iloadN S d_jdk_65_method_132_code_0 rfl (pc' := 1) rfl ?_
  refine Go.if_ne S d_jdk_65_method_132_code_1 (pt := 10) (by decide) (pc' := 4) rfl ?_ ?_
  · intro c1; exact absurd (by decide) c1
  · intro c1
    refine Go.iloadN S d_jdk_65_method_132_code_4 rfl (pc' := 5) rfl ?_
    refine Go.aloadN S d_jdk_65_method_132_code_5 rfl rfl (pc' := 6) rfl ?_
    refine Go.arraylength S VB d_jdk_65_method_132_code_6 (pc' := 7) rfl ?_
    refine Go.icmp_eq S d_jdk_65_method_132_code_7 (pt := 17) (by decide) (pc' := 10) rfl ?_ ?_
    · intro c7; exact absurd c7 (fun q => by have z := congrArg Int32.toInt q; rw [own_toInt (by omega)] at z; have e0 : (16 : Int32).toInt = 16 := rfl; omega)
    · intro c7
      refine Go.aloadN S d_jdk_65_method_132_code_10 rfl rfl (pc' := 11) rfl ?_
      refine Go.iloadN S d_jdk_65_method_132_code_11 rfl (pc' := 12) rfl ?_
      refine Go.iloadN S d_jdk_65_method_132_code_12 rfl (pc' := 13) rfl ?_
      refine Go.invokestatic S (y := ⟨"java/util/Arrays", "copyOfRangeByte", "([BII)[B"⟩) (rm_copyRB hw bv kv bs S.ext VB hlt) (wd190 hw) (wd191 hw) (wd188 hw) (wd192 hw) (by decide) d_jdk_65_method_132_code_13 rfl pd14 (argsL := [(.ref bv), (.int (0 : Int32)), (.int bs.length.toInt32)]) rfl rfl rfl (by decide) (W := 0) rfl (by decide) (by decide) (by decide) all0 (pc' := 16) rfl ?_
      intro v1 T1 h1 L1 S1 K1 q1
      obtain ⟨d, kd, rfl, hkd, V⟩ := q1
      show Go _ _ _ _ T1 (mkF m 16 #[.val (.ref bv), .val (.int (0 : Int32)), .val (.int bs.length.toInt32)] [(.ref d)])
      exact Go.areturn S1 rfl rfl rfl d_jdk_65_method_132_code_16 (by decide) (by decide) (⟨d, kd, rfl, hkd, V⟩)
set_option maxRecDepth 65536 in
set_option maxHeartbeats 4000000 in
theorem rm_getValue {l : Launch} {Z : State} {a0 : Array Value} (hw : HW Z a0) (o : Addr) (bv : Addr) (kv : ClassId) (bs : List Int32) {h0 : Heap} (hE : Ext Z.heap h0) (B : SbAt Z h0 o bv kv bs) :
    OMeets l Z (⟨"java/lang/AbstractStringBuilder", "getValue", "()[B"⟩ : MethodName) jdk_68_method_64_code 1 (some (.array .byte)) ({ frames := 0, cells := 0, slots := 0, locals := 0 } : Room) #[(.ref o)] h0 [] (fun v h => v = some (.ref bv) ∧ h0 = h) := by
  refine OMeets.body (plainFor_of_name pn3) hE #[.val (.ref o)] (fun m => by first | rfl | (simp [entryFrame, mkF, argsToLocals, Value.category, maxLocals]; done)) ?_
  intro p e s m below meth co T S
  refine Go.aloadN S d_jdk_68_method_64_code_0 rfl rfl (pc' := 1) rfl ?_
  refine Go.getfield S (host := "") (Or.inl (wd103 hw)) Via.refl B.2.1 d_jdk_68_method_64_code_1 (pc' := 4) rfl ?_
  intro T1 S1
  exact Go.areturn S1 rfl rfl rfl d_jdk_68_method_64_code_4 (by decide) (by decide) (⟨rfl, rfl⟩)
set_option maxRecDepth 65536 in
set_option maxHeartbeats 4000000 in
theorem rm_asblen {l : Launch} {Z : State} {a0 : Array Value} (hw : HW Z a0) (o : Addr) (bv : Addr) (kv : ClassId) (bs : List Int32) {h0 : Heap} (hE : Ext Z.heap h0) (B : SbAt Z h0 o bv kv bs) :
    OMeets l Z (⟨"java/lang/AbstractStringBuilder", "length", "()I"⟩ : MethodName) jdk_68_method_6_code 1 (some .int) ({ frames := 0, cells := 0, slots := 0, locals := 0 } : Room) #[(.ref o)] h0 [] (fun v h => v = some (.int bs.length.toInt32) ∧ h0 = h) := by
  refine OMeets.body (plainFor_of_name pn3) hE #[.val (.ref o)] (fun m => by first | rfl | (simp [entryFrame, mkF, argsToLocals, Value.category, maxLocals]; done)) ?_
  intro p e s m below meth co T S
  refine Go.aloadN S d_jdk_68_method_6_code_0 rfl rfl (pc' := 1) rfl ?_
  refine Go.getfield S (host := "") (Or.inl (wd128 hw)) Via.refl B.2.2.2.1 d_jdk_68_method_6_code_1 (pc' := 4) rfl ?_
  intro T1 S1
  exact Go.ireturn S1 rfl d_jdk_68_method_6_code_4 (by decide) (by decide) (⟨rfl, rfl⟩)
set_option maxRecDepth 65536 in
set_option maxHeartbeats 4000000 in
theorem rm_sblen {l : Launch} {Z : State} {a0 : Array Value} (hw : HW Z a0) (o : Addr) (bv : Addr) (kv : ClassId) (bs : List Int32) {h0 : Heap} (hE : Ext Z.heap h0) (B : SbAt Z h0 o bv kv bs) :
    OMeets l Z (⟨"java/lang/StringBuilder", "length", "()I"⟩ : MethodName) jdk_67_method_93_code 1 (some .int) ({ frames := 1, cells := 0, slots := 0, locals := 12 } : Room) #[(.ref o)] h0 [] (fun v h => v = some (.int bs.length.toInt32) ∧ h0 = h) := by
  refine OMeets.body (plainFor_of_name pn4) hE #[.val (.ref o)] (fun m => by first | rfl | (simp [entryFrame, mkF, argsToLocals, Value.category, maxLocals]; done)) ?_
  intro p e s m below meth co T S
  refine Go.aloadN S d_jdk_67_method_93_code_0 rfl rfl (pc' := 1) rfl ?_
  refine Go.invokesuper S (y := ⟨"java/lang/AbstractStringBuilder", "length", "()I"⟩) (rm_asblen hw o bv kv bs S.ext B) (wd179 hw) (own_face "java/lang/AbstractStringBuilder" rfl (wd171 hw) (wd170 hw)) (wd175 hw) (wd115 hw) (by decide) (wd99 hw) (wd180 hw) (by decide) B.1 d_jdk_67_method_93_code_1 rfl pd9 (argsL := []) rfl rfl rfl (by decide) (W := 0) rfl (by decide) (by decide) (by decide) all0 (pc' := 4) rfl ?_
  intro v1 T1 h1 L1 S1 K1 q1
  obtain ⟨rfl, rfl⟩ := q1
  show Go _ _ _ _ T1 (mkF m 4 #[.val (.ref o)] [(.int bs.length.toInt32)])
  exact Go.ireturn S1 rfl d_jdk_67_method_93_code_4 (by decide) (by decide) (⟨rfl, rfl⟩)
set_option maxRecDepth 65536 in
set_option maxHeartbeats 4000000 in
theorem rm_asbl1 {l : Launch} {Z : State} {a0 : Array Value} (hw : HW Z a0) (o : Addr) (bv : Addr) (kv : ClassId) (bs : List Int32) (cs : Int32) {h0 : Heap} (hE : Ext Z.heap h0) (B : SbAt Z h0 o bv kv bs) (Cs : Sta Z Z.heap "java/lang/String" "COMPACT_STRINGS" "Z" (.int cs)) (Cn : ¬ cs = 0) :
    OMeets l Z (⟨"java/lang/AbstractStringBuilder", "isLatin1", "()Z"⟩ : MethodName) jdk_68_method_68_code 1 (some .boolean) ({ frames := 0, cells := 0, slots := 0, locals := 0 } : Room) #[(.ref o)] h0 [] (fun v h => v = some (.int 1) ∧ h0 = h) := by
  refine OMeets.body (plainFor_of_name pn3) hE #[.val (.ref o)] (fun m => by first | rfl | (simp [entryFrame, mkF, argsToLocals, Value.category, maxLocals]; done)) ?_
  intro p e s m below meth co T S
  refine Go.getstatic S (host := "") (Or.inl (wd102 hw)) Via.refl Cs d_jdk_68_method_68_code_0 (pc' := 3) rfl ?_
  intro T1 S1
  refine Go.if_eq S1 d_jdk_68_method_68_code_3 (pt := 17) (by decide) (pc' := 6) rfl ?_ ?_
  · intro c3; exact absurd c3 Cn
  · intro c3
    refine Go.aloadN S1 d_jdk_68_method_68_code_6 rfl rfl (pc' := 7) rfl ?_
    refine Go.getfield S1 (host := "") (Or.inl (wd105 hw)) Via.refl B.2.2.1 d_jdk_68_method_68_code_7 (pc' := 10) rfl ?_
    intro T2 S2
    refine Go.if_ne S2 d_jdk_68_method_68_code_10 (pt := 17) (by decide) (pc' := 13) rfl ?_ ?_
    · intro c10; exact absurd (by decide) c10
    · intro c10
      refine Go.iconst S2 (v := 1) d_jdk_68_method_68_code_13 rfl (pc' := 14) rfl ?_
      refine Go.goto S2 d_jdk_68_method_68_code_14 (pc' := 18) (by decide) ?_
      exact Go.zreturn S2 rfl (by decide) d_jdk_68_method_68_code_18 (z' := (1 : Int32)) rfl (by decide) (by decide) (⟨rfl, rfl⟩)
set_option maxRecDepth 65536 in
set_option maxHeartbeats 4000000 in
theorem rm_sinitA {l : Launch} {Z : State} {a0 : Array Value} (hw : HW Z a0) (q : Addr) (o : Addr) (bv : Addr) (kv : ClassId) (bs : List Int32) (cs : Int32) {h0 : Heap} (hE : Ext Z.heap h0) (hz : Z.heap.size ≤ q) (E : Exa Z h0 q "java/lang/String") (Fv : Fld Z h0 q "java/lang/String" "value" "[B" .null) (Fc : Fld Z h0 q "java/lang/String" "coder" "B" (.int 0)) (B : SbAt Z h0 o bv kv bs) (hoq : o ≠ q) (hbq : bv ≠ q) (hlt : bs.length < 16) (Cs : Sta Z Z.heap "java/lang/String" "COMPACT_STRINGS" "Z" (.int cs)) (Cn : ¬ cs = 0) :
    OMeets l Z (⟨"java/lang/String", "<init>", "(Ljava/lang/AbstractStringBuilder;Ljava/lang/Void;)V"⟩ : MethodName) jdk_42_method_150_code 5 none ({ frames := 3, cells := 1, slots := 16, locals := 49 } : Room) #[(.ref q), (.ref o), .null] h0 [q] (fun v h => v = none ∧ ∃ t kb, StrAt Z h q t kb bs) := by
  refine OMeets.body (plainFor_of_name pn1) hE #[.val (.ref q), .val (.ref o), .val .null, .unset, .unset] (fun m => by first | rfl | (simp [entryFrame, mkF, argsToLocals, Value.category, maxLocals]; done)) ?_
  intro p e s m below meth co T S
  refine Go.aloadN S d_jdk_42_method_150_code_0 rfl rfl (pc' := 1) rfl ?_
  refine Go.initObject S (wd15 hw) (wd16 hw) (wd17 hw) d_jdk_42_method_150_code_1 rfl (by decide) (W := 0) rfl (by decide) (pc' := 4) rfl ?_
  intro T1 S1
  refine Go.aloadN S1 d_jdk_42_method_150_code_4 rfl rfl (pc' := 5) rfl ?_
  refine Go.invokevirtual S1 (y := ⟨"java/lang/AbstractStringBuilder", "getValue", "()[B"⟩) (rm_getValue hw o bv kv bs S1.ext B) (wd168 hw) (wd169 hw) (S1.nf (wd171 hw)) (wd171 hw) (wd170 hw) (wd99 hw) (wd172 hw) (by decide) B.1 d_jdk_42_method_150_code_5 rfl pd15 (argsL := []) rfl rfl rfl (by decide) (W := 0) rfl (by decide) (by decide) (by decide) all0 (pc' := 8) rfl ?_
  intro v2 T2 h2 L2 S2 K2 q2
  obtain ⟨rfl, rfl⟩ := q2
  show Go _ _ _ _ T2 (mkF m 8 #[.val (.ref q), .val (.ref o), .val .null, .unset, .unset] [(.ref bv)])
  refine Go.astoreN S2 d_jdk_42_method_150_code_8 rfl (Ls' := #[.val (.ref q), .val (.ref o), .val .null, .val (.ref bv), .unset]) rfl (pc' := 9) rfl ?_
  refine Go.aloadN S2 d_jdk_42_method_150_code_9 rfl rfl (pc' := 10) rfl ?_
  refine Go.invokevirtual S2 (y := ⟨"java/lang/StringBuilder", "length", "()I"⟩) (rm_sblen hw o bv kv bs S2.ext B) (wd173 hw) (wd174 hw) (own_nfx (S2.face "java/lang/AbstractStringBuilder" rfl (wd171 hw) (wd170 hw))) (wd176 hw) (wd177 hw) (wd91 hw) (wd178 hw) (by decide) B.1 d_jdk_42_method_150_code_10 rfl pd9 (argsL := []) rfl rfl rfl (by decide) (W := 0) rfl (by decide) (by decide) (by decide) all0 (pc' := 13) rfl ?_
  intro v3 T3 h3 L3 S3 K3 q3
  obtain ⟨rfl, rfl⟩ := q3
  show Go _ _ _ _ T3 (mkF m 13 #[.val (.ref q), .val (.ref o), .val .null, .val (.ref bv), .unset] [(.int bs.length.toInt32)])
  refine Go.istore S3 d_jdk_42_method_150_code_13 (Ls' := #[.val (.ref q), .val (.ref o), .val .null, .val (.ref bv), .val (.int bs.length.toInt32)]) rfl (pc' := 15) rfl ?_
  refine Go.aloadN S3 d_jdk_42_method_150_code_15 rfl rfl (pc' := 16) rfl ?_
  refine Go.invokevirtual S3 (y := ⟨"java/lang/AbstractStringBuilder", "isLatin1", "()Z"⟩) (rm_asbl1 hw o bv kv bs cs S3.ext B Cs Cn) (wd181 hw) (wd182 hw) (S3.nf (wd184 hw)) (wd184 hw) (wd183 hw) (wd99 hw) (wd185 hw) (by decide) B.1 d_jdk_42_method_150_code_16 rfl pd16 (argsL := []) rfl rfl rfl (by decide) (W := 0) rfl (by decide) (by decide) (by decide) all0 (pc' := 19) rfl ?_
  intro v4 T4 h4 L4 S4 K4 q4
  obtain ⟨rfl, rfl⟩ := q4
  show Go _ _ _ _ T4 (mkF m 19 #[.val (.ref q), .val (.ref o), .val .null, .val (.ref bv), .val (.int bs.length.toInt32)] [(.int (1 : Int32))])
  refine Go.if_eq S4 d_jdk_42_method_150_code_19 (pt := 41) (by decide) (pc' := 22) rfl ?_ ?_
  · intro c19; exact absurd c19 (by decide)
  · intro c19
    refine Go.aloadN S4 d_jdk_42_method_150_code_22 rfl rfl (pc' := 23) rfl ?_
    refine Go.iconst S4 (v := 0) d_jdk_42_method_150_code_23 rfl (pc' := 24) rfl ?_
    refine Go.putfieldN S4 (wd25 hw) Via.refl Fc E (Or.inr ⟨(wd21 hw), rfl, rfl⟩) (wd5 hw) (ty := .byte) (by decide) (v' := (.int (0 : Int32))) rfl rfl hz (Or.inl (List.mem_singleton.mpr rfl)) d_jdk_42_method_150_code_24 (pc' := 27) rfl ?_
    intro T5 h5 L5 S5 W5
    have F5 := Fc.same W5
    replace Fv := Fv.other W5 (Or.inr (slot_ne (Or.inr (wd20 hw)) (Or.inr (wd21 hw)) (by decide) (t := (.array .byte)) (t' := .byte) (by decide) (by decide)))
    replace E := E.wr W5
    replace B := B.other W5 (hoq) (hbq)
    refine Go.aloadN S5 d_jdk_42_method_150_code_27 rfl rfl (pc' := 28) rfl ?_
    refine Go.aloadN S5 d_jdk_42_method_150_code_28 rfl rfl (pc' := 29) rfl ?_
    refine Go.iconst S5 (v := 0) d_jdk_42_method_150_code_29 rfl (pc' := 30) rfl ?_
    refine Go.iload S5 d_jdk_42_method_150_code_30 rfl (pc' := 32) rfl ?_
    have hqlt := E.lt
    refine Go.invokestatic S5 (y := ⟨"java/util/Arrays", "copyOfRange", "([BII)[B"⟩) (rm_copyR hw bv kv bs S5.ext B.2.2.2.2.1 hlt) (wd186 hw) (wd187 hw) (wd188 hw) (wd189 hw) (by decide) d_jdk_42_method_150_code_32 rfl pd14 (argsL := [(.ref bv), (.int (0 : Int32)), (.int bs.length.toInt32)]) rfl rfl rfl (by decide) (W := 1) rfl (by decide) (by decide) (by decide) all0 (pc' := 35) rfl ?_
    intro v6 T6 h6 L6 S6 K6 q6
    obtain ⟨d, kd, rfl, hkd, VD⟩ := q6
    replace E := E.keep K6
    replace B := B.keep K6 nin0 nin0
    replace Fv := Fv.keep K6 nin0
    replace F5 := F5.keep K6 nin0
    show Go _ _ _ _ T6 (mkF m 35 #[.val (.ref q), .val (.ref o), .val .null, .val (.ref bv), .val (.int bs.length.toInt32)] [(.ref d), (.ref q)])
    have ndq : d ≠ q := fun e => absurd hkd (by rw [e]; exact Nat.not_le.mpr hqlt)
    refine Go.putfield S6 (host := "") (Or.inl (wd24 hw)) Via.refl Fv E (Or.inr ⟨(wd20 hw), rfl, rfl⟩) (wd5 hw) (ty := (.array .byte)) (by decide) rfl rfl hz (Or.inl (List.mem_singleton.mpr rfl)) d_jdk_42_method_150_code_35 (pc' := 38) rfl ?_
    intro T7 h7 L7 S7 W7
    have F7 := Fv.same W7
    replace F5 := F5.other W7 (Or.inr (slot_ne (Or.inr (wd21 hw)) (Or.inr (wd20 hw)) (by decide) (t := .byte) (t' := (.array .byte)) (by decide) (by decide)))
    replace E := E.wr W7
    replace B := B.other W7 (hoq) (hbq)
    replace VD := VD.other W7 (ndq)
    refine Go.goto S7 d_jdk_42_method_150_code_38 (pc' := 97) (by decide) ?_
    exact Go.vreturn S7 rfl d_jdk_42_method_150_code_97 (by decide) (by decide) (⟨rfl, d, kd, ⟨E, F5, F7, VD, by omega⟩⟩)
set_option maxRecDepth 65536 in
set_option maxHeartbeats 4000000 in
theorem rm_sinitS {l : Launch} {Z : State} {a0 : Array Value} (hw : HW Z a0) (q : Addr) (o : Addr) (bv : Addr) (kv : ClassId) (bs : List Int32) (cs : Int32) {h0 : Heap} (hE : Ext Z.heap h0) (hz : Z.heap.size ≤ q) (E : Exa Z h0 q "java/lang/String") (Fv : Fld Z h0 q "java/lang/String" "value" "[B" .null) (Fc : Fld Z h0 q "java/lang/String" "coder" "B" (.int 0)) (B : SbAt Z h0 o bv kv bs) (hoq : o ≠ q) (hbq : bv ≠ q) (hlt : bs.length < 16) (Cs : Sta Z Z.heap "java/lang/String" "COMPACT_STRINGS" "Z" (.int cs)) (Cn : ¬ cs = 0) :
    OMeets l Z (⟨"java/lang/String", "<init>", "(Ljava/lang/StringBuilder;)V"⟩ : MethodName) jdk_42_method_53_code 2 none ({ frames := 4, cells := 1, slots := 16, locals := 65 } : Room) #[(.ref q), (.ref o)] h0 [q] (fun v h => v = none ∧ ∃ t kb, StrAt Z h q t kb bs) := by
  refine OMeets.body (plainFor_of_name pn1) hE #[.val (.ref q), .val (.ref o)] (fun m => by first | rfl | (simp [entryFrame, mkF, argsToLocals, Value.category, maxLocals]; done)) ?_
  intro p e s m below meth co T S
  refine Go.aloadN S d_jdk_42_method_53_code_0 rfl rfl (pc' := 1) rfl ?_
  refine Go.aloadN S d_jdk_42_method_53_code_1 rfl rfl (pc' := 2) rfl ?_
  refine Go.aconst_null S d_jdk_42_method_53_code_2 (pc' := 3) rfl ?_
  refine Go.invokespecial S (y := ⟨"java/lang/String", "<init>", "(Ljava/lang/AbstractStringBuilder;Ljava/lang/Void;)V"⟩) (rm_sinitA hw q o bv kv bs cs S.ext hz E Fv Fc B hoq hbq hlt Cs Cn) rfl rfl (wd165 hw) (wd166 hw) (wd6 hw) (wd167 hw) (by decide) d_jdk_42_method_53_code_3 rfl pd17 (argsL := [(.ref o), .null]) rfl rfl rfl (by decide) (W := 0) rfl (by decide) (by decide) (by decide) (allS (Or.inl (List.mem_singleton.mpr rfl)) all0) (pc' := 6) rfl ?_
  intro v1 T1 h1 L1 S1 K1 q1
  obtain ⟨rfl, t, kb, A⟩ := q1
  show Go _ _ _ _ T1 (mkF m 6 #[.val (.ref q), .val (.ref o)] [])
  exact Go.vreturn S1 rfl d_jdk_42_method_53_code_6 (by decide) (by decide) (⟨rfl, t, kb, A⟩)
set_option maxRecDepth 65536 in
set_option maxHeartbeats 4000000 in
theorem rm_toString {l : Launch} {Z : State} {a0 : Array Value} (hw : HW Z a0) (o : Addr) (bv : Addr) (kv : ClassId) (bs : List Int32) (cs : Int32) {h0 : Heap} (hE : Ext Z.heap h0) (B : SbAt Z h0 o bv kv bs) (hlt : bs.length < 16) (Cs : Sta Z Z.heap "java/lang/String" "COMPACT_STRINGS" "Z" (.int cs)) (Cn : ¬ cs = 0) :
    OMeets l Z (⟨"java/lang/StringBuilder", "toString", "()Ljava/lang/String;"⟩ : MethodName) jdk_67_method_42_code 1 (some (.object "java/lang/String")) ({ frames := 5, cells := 2, slots := 20, locals := 79 } : Room) #[(.ref o)] h0 [] (fun v h => ∃ q t kb, v = some (.ref q) ∧ StrAt Z h q t kb bs) := by
  refine OMeets.body (plainFor_of_name pn4) hE #[.val (.ref o)] (fun m => by first | rfl | (simp [entryFrame, mkF, argsToLocals, Value.category, maxLocals]; done)) ?_
  intro p e s m below meth co T S
  refine Go.new S (wd161 hw) (wd5 hw) (wd6 hw) d_jdk_67_method_42_code_0 (by decide) (by decide) (pc' := 3) rfl ?_
  intro T1 h1 a1 S1 E1 hg1 hz1 hk1 X1 D1
  have n_o_a1 : o ≠ a1 := Nat.ne_of_lt (Nat.lt_of_lt_of_le B.lt (Nat.le_of_eq hg1))
  have n_bv_a1 : bv ≠ a1 := Nat.ne_of_lt (Nat.lt_of_lt_of_le B.lt2 (Nat.le_of_eq hg1))
  replace B := B.ext E1
  have F1_value : Fld Z h1 a1 "java/lang/String" "value" "[B" .null := D1 (Or.inr (wd20 hw)) (ty := (.array .byte)) (by decide)
  have F1_coder : Fld Z h1 a1 "java/lang/String" "coder" "B" (.int (0 : Int32)) := D1 (Or.inr (wd21 hw)) (ty := .byte) (by decide)
  refine Go.dup S1 d_jdk_67_method_42_code_3 rfl (pc' := 4) rfl ?_
  refine Go.aloadN S1 d_jdk_67_method_42_code_4 rfl rfl (pc' := 5) rfl ?_
  refine Go.invokespecial S1 (y := ⟨"java/lang/String", "<init>", "(Ljava/lang/StringBuilder;)V"⟩) (rm_sinitS hw a1 o bv kv bs cs S1.ext hz1 X1 F1_value F1_coder B n_o_a1 n_bv_a1 hlt Cs Cn) rfl rfl (wd162 hw) (wd163 hw) (wd6 hw) (wd164 hw) (by decide) d_jdk_67_method_42_code_5 rfl pd18 (argsL := [(.ref o)]) rfl rfl rfl (by decide) (W := 1) rfl (by decide) (by decide) (by decide) (allS (Or.inr hk1) all0) (pc' := 8) rfl ?_
  intro v2 T2 h2 L2 S2 K2 q2
  obtain ⟨rfl, t, kb, A⟩ := q2
  replace X1 := X1.keep K2
  show Go _ _ _ _ T2 (mkF m 8 #[.val (.ref o)] [(.ref a1)])
  exact Go.areturn S2 rfl rfl rfl d_jdk_67_method_42_code_8 (by decide) (by decide) (⟨a1, t, kb, rfl, A⟩)
set_option maxRecDepth 65536 in
set_option maxHeartbeats 4000000 in
theorem rm_oinitN {l : Launch} {Z : State} {a0 : Array Value} (hw : HW Z a0) (r : Addr) (nm : Addr)  {h0 : Heap} (hE : Ext Z.heap h0) (hz : Z.heap.size ≤ r) (E : Exa Z h0 r "com/example/tukda/tukda/cli/Command$Option") (F_name : Fld Z h0 r "com/example/tukda/tukda/cli/Command$Option" "name" "Ljava/lang/String;" .null) (F_placeholder : Fld Z h0 r "com/example/tukda/tukda/cli/Command$Option" "placeholder" "Ljava/lang/String;" .null) (F_required : Fld Z h0 r "com/example/tukda/tukda/cli/Command$Option" "required" "Z" (.int 0)) (F_repeated : Fld Z h0 r "com/example/tukda/tukda/cli/Command$Option" "repeated" "Z" (.int 0)) :
    OMeets l Z (⟨"com/example/tukda/tukda/cli/Command$Option", "<init>", "(Ljava/lang/String;Ljava/lang/String;ZZ)V"⟩ : MethodName) prog_4_method_1_code 5 none ({ frames := 1, cells := 0, slots := 0, locals := 12 } : Room) #[(.ref r), (.ref nm), .null, (.int (0 : Int32)), (.int (0 : Int32))] h0 [r] (fun v h => v = none ∧ Exa Z h r "com/example/tukda/tukda/cli/Command$Option" ∧ Fld Z h r "com/example/tukda/tukda/cli/Command$Option" "name" "Ljava/lang/String;" (.ref nm) ∧ Fld Z h r "com/example/tukda/tukda/cli/Command$Option" "placeholder" "Ljava/lang/String;" .null ∧ Fld Z h r "com/example/tukda/tukda/cli/Command$Option" "required" "Z" (.int 0) ∧ Fld Z h r "com/example/tukda/tukda/cli/Command$Option" "repeated" "Z" (.int 0)) := by
  refine OMeets.body (plainFor_of_name pn6) hE #[.val (.ref r), .val (.ref nm), .val .null, .val (.int (0 : Int32)), .val (.int (0 : Int32))] (fun m => by first | rfl | (simp [entryFrame, mkF, argsToLocals, Value.category, maxLocals]; done)) ?_
  intro p e s m below meth co T S
  refine Go.aloadN S d_prog_4_method_1_code_0 rfl rfl (pc' := 1) rfl ?_
  refine Go.initObject S (wd49 hw) (wd16 hw) (wd17 hw) d_prog_4_method_1_code_1 rfl (by decide) (W := 0) rfl (by decide) (pc' := 4) rfl ?_
  intro T1 S1
  refine Go.aloadN S1 d_prog_4_method_1_code_4 rfl rfl (pc' := 5) rfl ?_
  refine Go.aloadN S1 d_prog_4_method_1_code_5 rfl rfl (pc' := 6) rfl ?_
  refine Go.putfield S1 (host := "") (Or.inl (wd50 hw)) Via.refl F_name E (Or.inr ⟨(wd51 hw), rfl, rfl⟩) (wd45 hw) (ty := (.object "java/lang/String")) (by decide) rfl rfl hz (Or.inl (List.mem_singleton.mpr rfl)) d_prog_4_method_1_code_6 (pc' := 9) rfl ?_
  intro T2 h2 L2 S2 W2
  have F2 := F_name.same W2
  replace F_placeholder := F_placeholder.other W2 (Or.inr (slot_ne (Or.inr (wd53 hw)) (Or.inr (wd51 hw)) (by decide) (t := (.object "java/lang/String")) (t' := (.object "java/lang/String")) (by decide) (by decide)))
  replace F_required := F_required.other W2 (Or.inr (slot_ne (Or.inr (wd55 hw)) (Or.inr (wd51 hw)) (by decide) (t := .boolean) (t' := (.object "java/lang/String")) (by decide) (by decide)))
  replace F_repeated := F_repeated.other W2 (Or.inr (slot_ne (Or.inr (wd57 hw)) (Or.inr (wd51 hw)) (by decide) (t := .boolean) (t' := (.object "java/lang/String")) (by decide) (by decide)))
  replace E := E.wr W2
  refine Go.aloadN S2 d_prog_4_method_1_code_9 rfl rfl (pc' := 10) rfl ?_
  refine Go.aloadN S2 d_prog_4_method_1_code_10 rfl rfl (pc' := 11) rfl ?_
  refine Go.putfield S2 (host := "") (Or.inl (wd52 hw)) Via.refl F_placeholder E (Or.inr ⟨(wd53 hw), rfl, rfl⟩) (wd45 hw) (ty := (.object "java/lang/String")) (by decide) rfl rfl hz (Or.inl (List.mem_singleton.mpr rfl)) d_prog_4_method_1_code_11 (pc' := 14) rfl ?_
  intro T3 h3 L3 S3 W3
  have F3 := F_placeholder.same W3
  replace F_required := F_required.other W3 (Or.inr (slot_ne (Or.inr (wd55 hw)) (Or.inr (wd53 hw)) (by decide) (t := .boolean) (t' := (.object "java/lang/String")) (by decide) (by decide)))
  replace F_repeated := F_repeated.other W3 (Or.inr (slot_ne (Or.inr (wd57 hw)) (Or.inr (wd53 hw)) (by decide) (t := .boolean) (t' := (.object "java/lang/String")) (by decide) (by decide)))
  replace F2 := F2.other W3 (Or.inr (slot_ne (Or.inr (wd51 hw)) (Or.inr (wd53 hw)) (by decide) (t := (.object "java/lang/String")) (t' := (.object "java/lang/String")) (by decide) (by decide)))
  replace E := E.wr W3
  refine Go.aloadN S3 d_prog_4_method_1_code_14 rfl rfl (pc' := 15) rfl ?_
  refine Go.iloadN S3 d_prog_4_method_1_code_15 rfl (pc' := 16) rfl ?_
  refine Go.putfieldN S3 (wd54 hw) Via.refl F_required E (Or.inr ⟨(wd55 hw), rfl, rfl⟩) (wd45 hw) (ty := .boolean) (by decide) (v' := (.int (0 : Int32))) rfl rfl hz (Or.inl (List.mem_singleton.mpr rfl)) d_prog_4_method_1_code_16 (pc' := 19) rfl ?_
  intro T4 h4 L4 S4 W4
  have F4 := F_required.same W4
  replace F_repeated := F_repeated.other W4 (Or.inr (slot_ne (Or.inr (wd57 hw)) (Or.inr (wd55 hw)) (by decide) (t := .boolean) (t' := .boolean) (by decide) (by decide)))
  replace F2 := F2.other W4 (Or.inr (slot_ne (Or.inr (wd51 hw)) (Or.inr (wd55 hw)) (by decide) (t := (.object "java/lang/String")) (t' := .boolean) (by decide) (by decide)))
  replace F3 := F3.other W4 (Or.inr (slot_ne (Or.inr (wd53 hw)) (Or.inr (wd55 hw)) (by decide) (t := (.object "java/lang/String")) (t' := .boolean) (by decide) (by decide)))
  replace E := E.wr W4
  refine Go.aloadN S4 d_prog_4_method_1_code_19 rfl rfl (pc' := 20) rfl ?_
  refine Go.iload S4 d_prog_4_method_1_code_20 rfl (pc' := 22) rfl ?_
  refine Go.putfieldN S4 (wd56 hw) Via.refl F_repeated E (Or.inr ⟨(wd57 hw), rfl, rfl⟩) (wd45 hw) (ty := .boolean) (by decide) (v' := (.int (0 : Int32))) rfl rfl hz (Or.inl (List.mem_singleton.mpr rfl)) d_prog_4_method_1_code_22 (pc' := 25) rfl ?_
  intro T5 h5 L5 S5 W5
  have F5 := F_repeated.same W5
  replace F2 := F2.other W5 (Or.inr (slot_ne (Or.inr (wd51 hw)) (Or.inr (wd57 hw)) (by decide) (t := (.object "java/lang/String")) (t' := .boolean) (by decide) (by decide)))
  replace F3 := F3.other W5 (Or.inr (slot_ne (Or.inr (wd53 hw)) (Or.inr (wd57 hw)) (by decide) (t := (.object "java/lang/String")) (t' := .boolean) (by decide) (by decide)))
  replace F4 := F4.other W5 (Or.inr (slot_ne (Or.inr (wd55 hw)) (Or.inr (wd57 hw)) (by decide) (t := .boolean) (t' := .boolean) (by decide) (by decide)))
  replace E := E.wr W5
  exact Go.vreturn S5 rfl d_prog_4_method_1_code_25 (by decide) (by decide) (⟨rfl, E, F2, F3, F4, F5⟩)
set_option maxRecDepth 65536 in
set_option maxHeartbeats 4000000 in
theorem rm_makeN {l : Launch} {Z : State} {a0 : Array Value} (hw : HW Z a0) (nm : Addr)  {h0 : Heap} (hE : Ext Z.heap h0) :
    OMeets l Z (⟨"com/example/tukda/tukda/cli/Command$Option", "flag", "(Ljava/lang/String;)Lcom/example/tukda/tukda/cli/Command$Option;"⟩ : MethodName) prog_4_method_4_code 1 (some (.object "com/example/tukda/tukda/cli/Command$Option")) ({ frames := 2, cells := 1, slots := 4, locals := 31 } : Room) #[(.ref nm)] h0 [] (fun v h => ∃ r, v = some (.ref r) ∧ Exa Z h r "com/example/tukda/tukda/cli/Command$Option" ∧ Fld Z h r "com/example/tukda/tukda/cli/Command$Option" "name" "Ljava/lang/String;" (.ref nm) ∧ Fld Z h r "com/example/tukda/tukda/cli/Command$Option" "placeholder" "Ljava/lang/String;" .null ∧ Fld Z h r "com/example/tukda/tukda/cli/Command$Option" "required" "Z" (.int 0) ∧ Fld Z h r "com/example/tukda/tukda/cli/Command$Option" "repeated" "Z" (.int 0)) := by
  refine OMeets.body (plainFor_of_name pn6) hE #[.val (.ref nm)] (fun m => by first | rfl | (simp [entryFrame, mkF, argsToLocals, Value.category, maxLocals]; done)) ?_
  intro p e s m below meth co T S
  refine Go.new S (wd44 hw) (wd45 hw) (wd42 hw) d_prog_4_method_4_code_0 (by decide) (by decide) (pc' := 3) rfl ?_
  intro T1 h1 a1 S1 E1 hg1 hz1 hk1 X1 D1
  have F1_name : Fld Z h1 a1 "com/example/tukda/tukda/cli/Command$Option" "name" "Ljava/lang/String;" .null := D1 (Or.inr (wd51 hw)) (ty := (.object "java/lang/String")) (by decide)
  have F1_placeholder : Fld Z h1 a1 "com/example/tukda/tukda/cli/Command$Option" "placeholder" "Ljava/lang/String;" .null := D1 (Or.inr (wd53 hw)) (ty := (.object "java/lang/String")) (by decide)
  have F1_required : Fld Z h1 a1 "com/example/tukda/tukda/cli/Command$Option" "required" "Z" (.int (0 : Int32)) := D1 (Or.inr (wd55 hw)) (ty := .boolean) (by decide)
  have F1_repeated : Fld Z h1 a1 "com/example/tukda/tukda/cli/Command$Option" "repeated" "Z" (.int (0 : Int32)) := D1 (Or.inr (wd57 hw)) (ty := .boolean) (by decide)
  refine Go.dup S1 d_prog_4_method_4_code_3 rfl (pc' := 4) rfl ?_
  refine Go.aloadN S1 d_prog_4_method_4_code_4 rfl rfl (pc' := 5) rfl ?_
  refine Go.aconst_null S1 d_prog_4_method_4_code_5 (pc' := 6) rfl ?_
  refine Go.iconst S1 (v := 0) d_prog_4_method_4_code_6 rfl (pc' := 7) rfl ?_
  refine Go.iconst S1 (v := 0) d_prog_4_method_4_code_7 rfl (pc' := 8) rfl ?_
  refine Go.invokespecial S1 (y := ⟨"com/example/tukda/tukda/cli/Command$Option", "<init>", "(Ljava/lang/String;Ljava/lang/String;ZZ)V"⟩) (rm_oinitN hw a1 nm S1.ext hz1 X1 F1_name F1_placeholder F1_required F1_repeated) rfl rfl (wd46 hw) (wd47 hw) (wd42 hw) (wd48 hw) (by decide) d_prog_4_method_4_code_8 rfl pd19 (argsL := [(.ref nm), .null, (.int (0 : Int32)), (.int (0 : Int32))]) rfl rfl rfl (by decide) (W := 1) rfl (by decide) (by decide) (by decide) (allS (Or.inr hk1) all0) (pc' := 11) rfl ?_
  intro v2 T2 h2 L2 S2 K2 q2
  obtain ⟨rfl, G⟩ := q2
  replace X1 := X1.keep K2
  show Go _ _ _ _ T2 (mkF m 11 #[.val (.ref nm)] [(.ref a1)])
  exact Go.areturn S2 rfl rfl rfl d_prog_4_method_4_code_11 (by decide) (by decide) (⟨a1, rfl, G⟩)
set_option maxRecDepth 65536 in
set_option maxHeartbeats 4000000 in
theorem rm_takesN {l : Launch} {Z : State} {a0 : Array Value} (hw : HW Z a0) (r : Addr)  {h0 : Heap} (hE : Ext Z.heap h0) (F : Fld Z h0 r "com/example/tukda/tukda/cli/Command$Option" "placeholder" "Ljava/lang/String;" .null) :
    OMeets l Z (⟨"com/example/tukda/tukda/cli/Command$Option", "takesValue", "()Z"⟩ : MethodName) prog_4_method_7_code 1 (some .boolean) ({ frames := 0, cells := 0, slots := 0, locals := 0 } : Room) #[(.ref r)] h0 [] (fun v h => v = some (.int 0) ∧ h0 = h) := by
  refine OMeets.body (plainFor_of_name pn6) hE #[.val (.ref r)] (fun m => by first | rfl | (simp [entryFrame, mkF, argsToLocals, Value.category, maxLocals]; done)) ?_
  intro p e s m below meth co T S
  refine Go.aloadN S d_prog_4_method_7_code_0 rfl rfl (pc' := 1) rfl ?_
  refine Go.getfield S (host := "") (Or.inl (wd52 hw)) Via.refl F d_prog_4_method_7_code_1 (pc' := 4) rfl ?_
  intro T1 S1
  refine Go.ifnullY S1 d_prog_4_method_7_code_4 (pt := 11) (by decide) ?_
  refine Go.iconst S1 (v := 0) d_prog_4_method_7_code_11 rfl (pc' := 12) rfl ?_
  exact Go.zreturn S1 rfl (by decide) d_prog_4_method_7_code_12 (z' := (0 : Int32)) rfl (by decide) (by decide) (⟨rfl, rfl⟩)
set_option maxRecDepth 65536 in
set_option maxHeartbeats 4000000 in
theorem rm_oname {l : Launch} {Z : State} {a0 : Array Value} (hw : HW Z a0) (r : Addr) (nm : Addr) {h0 : Heap} (hE : Ext Z.heap h0) (F : Fld Z h0 r "com/example/tukda/tukda/cli/Command$Option" "name" "Ljava/lang/String;" (.ref nm)) :
    OMeets l Z (⟨"com/example/tukda/tukda/cli/Command$Option", "name", "()Ljava/lang/String;"⟩ : MethodName) prog_4_method_6_code 1 (some (.object "java/lang/String")) ({ frames := 0, cells := 0, slots := 0, locals := 0 } : Room) #[(.ref r)] h0 [] (fun v h => v = some (.ref nm) ∧ h0 = h) := by
  refine OMeets.body (plainFor_of_name pn6) hE #[.val (.ref r)] (fun m => by first | rfl | (simp [entryFrame, mkF, argsToLocals, Value.category, maxLocals]; done)) ?_
  intro p e s m below meth co T S
  refine Go.aloadN S d_prog_4_method_6_code_0 rfl rfl (pc' := 1) rfl ?_
  refine Go.getfield S (host := "") (Or.inl (wd50 hw)) Via.refl F d_prog_4_method_6_code_1 (pc' := 4) rfl ?_
  intro T1 S1
  exact Go.areturn S1 rfl rfl rfl d_prog_4_method_6_code_4 (by decide) (by decide) (⟨rfl, rfl⟩)
set_option maxRecDepth 65536 in
set_option maxHeartbeats 4000000 in
theorem rm_orequired {l : Launch} {Z : State} {a0 : Array Value} (hw : HW Z a0) (r : Addr)  {h0 : Heap} (hE : Ext Z.heap h0) (F : Fld Z h0 r "com/example/tukda/tukda/cli/Command$Option" "required" "Z" (.int 0)) :
    OMeets l Z (⟨"com/example/tukda/tukda/cli/Command$Option", "isRequired", "()Z"⟩ : MethodName) prog_4_method_8_code 1 (some .boolean) ({ frames := 0, cells := 0, slots := 0, locals := 0 } : Room) #[(.ref r)] h0 [] (fun v h => v = some (.int 0) ∧ h0 = h) := by
  refine OMeets.body (plainFor_of_name pn6) hE #[.val (.ref r)] (fun m => by first | rfl | (simp [entryFrame, mkF, argsToLocals, Value.category, maxLocals]; done)) ?_
  intro p e s m below meth co T S
  refine Go.aloadN S d_prog_4_method_8_code_0 rfl rfl (pc' := 1) rfl ?_
  refine Go.getfield S (host := "") (Or.inl (wd54 hw)) Via.refl F d_prog_4_method_8_code_1 (pc' := 4) rfl ?_
  intro T1 S1
  exact Go.zreturn S1 rfl (by decide) d_prog_4_method_8_code_4 (z' := (0 : Int32)) rfl (by decide) (by decide) (⟨rfl, rfl⟩)
set_option maxRecDepth 65536 in
set_option maxHeartbeats 4000000 in
theorem rm_orepeated {l : Launch} {Z : State} {a0 : Array Value} (hw : HW Z a0) (r : Addr)  {h0 : Heap} (hE : Ext Z.heap h0) (F : Fld Z h0 r "com/example/tukda/tukda/cli/Command$Option" "repeated" "Z" (.int 0)) :
    OMeets l Z (⟨"com/example/tukda/tukda/cli/Command$Option", "isRepeated", "()Z"⟩ : MethodName) prog_4_method_9_code 1 (some .boolean) ({ frames := 0, cells := 0, slots := 0, locals := 0 } : Room) #[(.ref r)] h0 [] (fun v h => v = some (.int 0) ∧ h0 = h) := by
  refine OMeets.body (plainFor_of_name pn6) hE #[.val (.ref r)] (fun m => by first | rfl | (simp [entryFrame, mkF, argsToLocals, Value.category, maxLocals]; done)) ?_
  intro p e s m below meth co T S
  refine Go.aloadN S d_prog_4_method_9_code_0 rfl rfl (pc' := 1) rfl ?_
  refine Go.getfield S (host := "") (Or.inl (wd56 hw)) Via.refl F d_prog_4_method_9_code_1 (pc' := 4) rfl ?_
  intro T1 S1
  exact Go.zreturn S1 rfl (by decide) d_prog_4_method_9_code_4 (z' := (0 : Int32)) rfl (by decide) (by decide) (⟨rfl, rfl⟩)
set_option maxRecDepth 65536 in
set_option maxHeartbeats 4000000 in
theorem rm_usageN {l : Launch} {Z : State} {a0 : Array Value} (hw : HW Z a0) (r : Addr) (nm tn : Addr) (kn : ClassId) (xs : List Int32) (cs : Int32) (Ts : List String) {h0 : Heap} (hE : Ext Z.heap h0) (E : Exa Z h0 r "com/example/tukda/tukda/cli/Command$Option") (F_name : Fld Z h0 r "com/example/tukda/tukda/cli/Command$Option" "name" "Ljava/lang/String;" (.ref nm)) (F_placeholder : Fld Z h0 r "com/example/tukda/tukda/cli/Command$Option" "placeholder" "Ljava/lang/String;" .null) (F_required : Fld Z h0 r "com/example/tukda/tukda/cli/Command$Option" "required" "Z" (.int 0)) (F_repeated : Fld Z h0 r "com/example/tukda/tukda/cli/Command$Option" "repeated" "Z" (.int 0)) (An : StrAt Z h0 nm tn kn xs) (hxs : xs.length ≤ 3) (Cs : Sta Z Z.heap "java/lang/String" "COMPACT_STRINGS" "Z" (.int cs)) (Cn : ¬ cs = 0) (hh47 : Jvm.Lit.constHeld Z "com/example/tukda/tukda/cli/Command$Option" 47) (hh49 : Jvm.Lit.constHeld Z "com/example/tukda/tukda/cli/Command$Option" 49) (hcw : Jvm.Lit.compactW.before a0 Z = true) (hT1 : "[" ∉ Ts) (hT2 : "]" ∉ Ts) (hT3 : " " ∉ Ts) :
    OMeetsW l Z (⟨"com/example/tukda/tukda/cli/Command$Option", "usage", "()Ljava/lang/String;"⟩ : MethodName) prog_4_method_10_code 3 (some (.object "java/lang/String")) ({ frames := 6, cells := 8, slots := 64, locals := 100 } : Room) #[(.ref r)] h0 [] (fun vm => IB Z vm Ts) (fun v h vm => ∃ q t kb, v = some (.ref q) ∧ StrAt Z h q t kb ((([] ++ [91]) ++ xs) ++ [93])) := by
  refine OMeetsW.body (plainFor_of_name pn6) hE #[.val (.ref r), .unset, .unset] (fun m => by first | rfl | (simp [entryFrame, mkF, argsToLocals, Value.category, maxLocals]; done)) ?_
  intro p e s m below meth co T S hvp hsh
  have N := Sn.start s h0.size
  have hn : h0.size ≤ h0.size := Nat.le_refl _
  refine Go.aloadN S d_prog_4_method_10_code_0 rfl rfl (pc' := 1) rfl ?_
  refine Go.invokevirtual S (y := ⟨"com/example/tukda/tukda/cli/Command$Option", "takesValue", "()Z"⟩) (rm_takesN hw r S.ext F_placeholder) (wd88 hw) (wd69 hw) (S.nf (wd71 hw)) (wd71 hw) (wd70 hw) (wd42 hw) (wd72 hw) (by decide) E d_prog_4_method_10_code_1 rfl pd16 (argsL := []) rfl rfl rfl (by decide) (W := 0) rfl (by decide) (by decide) (by decide) all0 (pc' := 4) rfl ?_
  intro v1 T1 h1 L1 S1 K1 q1
  obtain ⟨rfl, rfl⟩ := q1
  show Go _ _ _ _ T1 (mkF m 4 #[.val (.ref r), .unset, .unset] [(.int (0 : Int32))])
  refine Go.if_eq S1 d_prog_4_method_10_code_4 (pt := 39) (by decide) (pc' := 7) rfl ?_ ?_
  · intro c4
    refine Go.aloadN S1 d_prog_4_method_10_code_39 rfl rfl (pc' := 40) rfl ?_
    refine Go.getfield S1 (host := "") (Or.inl (wd50 hw)) Via.refl F_name d_prog_4_method_10_code_40 (pc' := 43) rfl ?_
    intro T2 S2
    refine Go.astoreN S2 d_prog_4_method_10_code_43 rfl (Ls' := #[.val (.ref r), .val (.ref nm), .unset]) rfl (pc' := 44) rfl ?_
    refine Go.aloadN S2 d_prog_4_method_10_code_44 rfl rfl (pc' := 45) rfl ?_
    refine Go.getfield S2 (host := "") (Or.inl (wd56 hw)) Via.refl F_repeated d_prog_4_method_10_code_45 (pc' := 48) rfl ?_
    intro T3 S3
    refine Go.if_eq S3 d_prog_4_method_10_code_48 (pt := 83) (by decide) (pc' := 51) rfl ?_ ?_
    · intro c48
      refine Go.aloadN S3 d_prog_4_method_10_code_83 rfl rfl (pc' := 84) rfl ?_
      refine Go.getfield S3 (host := "") (Or.inl (wd54 hw)) Via.refl F_required d_prog_4_method_10_code_84 (pc' := 87) rfl ?_
      intro T4 S4
      refine Go.if_eq S4 d_prog_4_method_10_code_87 (pt := 95) (by decide) (pc' := 90) rfl ?_ ?_
      · intro c87
        refine Go.new S4 (wd89 hw) (wd90 hw) (wd91 hw) d_prog_4_method_10_code_95 (by decide) (by decide) (pc' := 98) rfl ?_
        intro T5 h5 a5 S5 E5 hg5 hz5 hk5 X5 D5
        have n_r_a5 : r ≠ a5 := Nat.ne_of_lt (Nat.lt_of_lt_of_le E.lt (Nat.le_of_eq hg5))
        have n_nm_a5 : nm ≠ a5 := Nat.ne_of_lt (Nat.lt_of_lt_of_le An.lt (Nat.le_of_eq hg5))
        have n_tn_a5 : tn ≠ a5 := Nat.ne_of_lt (Nat.lt_of_lt_of_le An.lt2 (Nat.le_of_eq hg5))
        replace hn := Nat.le_trans hn E5.1
        replace E := E.ext E5
        replace F_name := F_name.ext E5
        replace F_placeholder := F_placeholder.ext E5
        replace F_required := F_required.ext E5
        replace F_repeated := F_repeated.ext E5
        replace An := An.ext E5
        have F5_value : Fld Z h5 a5 "java/lang/AbstractStringBuilder" "value" "[B" .null := D5 (Or.inl (wd104 hw)) (ty := (.array .byte)) (by decide)
        have F5_coder : Fld Z h5 a5 "java/lang/AbstractStringBuilder" "coder" "B" (.int (0 : Int32)) := D5 (Or.inl (wd106 hw)) (ty := .byte) (by decide)
        have F5_count : Fld Z h5 a5 "java/lang/AbstractStringBuilder" "count" "I" (.int (0 : Int32)) := D5 (Or.inl (wd129 hw)) (ty := .int) (by decide)
        refine Go.dup S5 d_prog_4_method_10_code_98 rfl (pc' := 99) rfl ?_
        have lt6_r := E.lt
        have lt6_nm := An.lt
        have lt6_tn := An.lt2
        have lt6_a5 := X5.lt
        refine Go.invokespecial S5 (y := ⟨"java/lang/StringBuilder", "<init>", "()V"⟩) (rm_sbinit hw a5 cs S5.ext hz5 X5 F5_value F5_coder F5_count Cs Cn) rfl rfl (wd92 hw) (wd93 hw) (wd91 hw) (wd94 hw) (by decide) d_prog_4_method_10_code_99 rfl pd20 (argsL := []) rfl rfl rfl (by decide) (W := 1) rfl (by decide) (by decide) (by decide) (allS (Or.inr hk5) all0) (pc' := 102) rfl ?_
        intro v6 T6 h6 L6 S6 K6 q6
        obtain ⟨rfl, bv6, kv6, B6, hb6⟩ := q6
        replace hn := Nat.le_trans hn K6.1
        replace E := E.keep K6
        replace F_name := F_name.keep K6 (ninS n_r_a5 nin0)
        replace F_placeholder := F_placeholder.keep K6 (ninS n_r_a5 nin0)
        replace F_required := F_required.keep K6 (ninS n_r_a5 nin0)
        replace F_repeated := F_repeated.keep K6 (ninS n_r_a5 nin0)
        replace An := An.keep K6 (ninS n_nm_a5 nin0) (ninS n_tn_a5 nin0)
        replace X5 := X5.keep K6
        show Go _ _ _ _ T6 (mkF m 102 #[.val (.ref r), .val (.ref nm), .unset] [(.ref a5)])
        have n_r_bv6 : r ≠ bv6 := Nat.ne_of_lt (Nat.lt_of_lt_of_le lt6_r hb6)
        have n_nm_bv6 : nm ≠ bv6 := Nat.ne_of_lt (Nat.lt_of_lt_of_le lt6_nm hb6)
        have n_tn_bv6 : tn ≠ bv6 := Nat.ne_of_lt (Nat.lt_of_lt_of_le lt6_tn hb6)
        have n_a5_bv6 : a5 ≠ bv6 := Nat.ne_of_lt (Nat.lt_of_lt_of_le lt6_a5 hb6)
        have hzb6 : Z.heap.size ≤ bv6 := Nat.le_trans (Nat.le_trans hz5 (Nat.le_of_lt lt6_a5)) hb6
        have hkb6 : h0.size ≤ bv6 := Nat.le_trans (Nat.le_trans hk5 (Nat.le_of_lt lt6_a5)) hb6
        have S7b := St.bare S6 ((congrArg State.heap N.1).trans hsh)
        refine Go.ldcFirst S7b N hn (text := "[") (cap := 4) (vs := [(.int (91 : Int32))]) (z := 1) (wd107 hw) (own_sat hw) (Fr.nil _) (by rw [hsh]; exact hE) hvp hT1 hh47 hcw ⟨by decide, by first | rfl | decide⟩ (by decide) rfl d_prog_4_method_10_code_102 (by decide) (by decide) (by decide) (by decide) (pc' := 104) rfl ?_
        intro a7 b7 kb7 sb7 T7 h7 n7 S7 N7 hn7 E7 X7 Fc7 Fv7 V7 I7 L7
        replace E := E.ext E7
        replace F_name := F_name.ext E7
        replace F_placeholder := F_placeholder.ext E7
        replace F_required := F_required.ext E7
        replace F_repeated := F_repeated.ext E7
        replace An := An.ext E7
        replace X5 := X5.ext E7
        replace B6 := B6.ext E7
        replace hn := hn7
        have A7 : StrAt Z h7 a7 b7 kb7 [91] := ⟨X7, Fc7, Fv7, V7, by decide⟩
        have n_a7_a5 : a7 ≠ a5 := Exa.nex X7 B6.1 (by decide)
        have n_a7_bv6 : a7 ≠ bv6 := Ne.symm (Arv.nex B6.2.2.2.2.1 (wd5 hw) X7)
        have n_b7_a5 : b7 ≠ a5 := Arv.nex V7 (wd90 hw) B6.1
        have n_b7_bv6 : b7 ≠ bv6 := Arv.nez V7 B6.2.2.2.2.1 (by decide)
        refine Go.invokevirtual S7 (y := ⟨"java/lang/StringBuilder", "append", "(Ljava/lang/String;)Ljava/lang/StringBuilder;"⟩) (rm_append hw a5 a7 bv6 kv6 [] b7 kb7 [91] cs S7.ext B6 A7 (by first | (simp; done) | (simp; omega)) hz5 hzb6 n_a5_bv6 Cs Cn) (wd108 hw) (wd109 hw) (S7.nf (wd111 hw)) (wd111 hw) (wd110 hw) (wd91 hw) (wd112 hw) (by decide) B6.1 d_prog_4_method_10_code_104 rfl pd21 (argsL := [(.ref a7)]) rfl rfl rfl (by decide) (W := 0) rfl (by decide) (by decide) (by decide) (allS (Or.inr hk5) (allS (Or.inr hkb6) all0)) (pc' := 107) rfl ?_
        intro v8 T8 h8 L8 S8 K8 q8
        obtain ⟨rfl, B8⟩ := q8
        replace hn := Nat.le_trans hn K8.1
        replace E := E.keep K8
        replace F_name := F_name.keep K8 (ninS n_r_a5 (ninS n_r_bv6 nin0))
        replace F_placeholder := F_placeholder.keep K8 (ninS n_r_a5 (ninS n_r_bv6 nin0))
        replace F_required := F_required.keep K8 (ninS n_r_a5 (ninS n_r_bv6 nin0))
        replace F_repeated := F_repeated.keep K8 (ninS n_r_a5 (ninS n_r_bv6 nin0))
        replace An := An.keep K8 (ninS n_nm_a5 (ninS n_nm_bv6 nin0)) (ninS n_tn_a5 (ninS n_tn_bv6 nin0))
        replace X5 := X5.keep K8
        replace A7 := A7.keep K8 (ninS n_a7_a5 (ninS n_a7_bv6 nin0)) (ninS n_b7_a5 (ninS n_b7_bv6 nin0))
        show Go _ _ _ _ T8 (mkF m 107 #[.val (.ref r), .val (.ref nm), .unset] [(.ref a5)])
        refine Go.aloadN S8 d_prog_4_method_10_code_107 rfl rfl (pc' := 108) rfl ?_
        refine Go.invokevirtual S8 (y := ⟨"java/lang/StringBuilder", "append", "(Ljava/lang/String;)Ljava/lang/StringBuilder;"⟩) (rm_append hw a5 nm bv6 kv6 ([] ++ [91]) tn kn xs cs S8.ext B8 An (by first | (simp; done) | (simp; omega)) hz5 hzb6 n_a5_bv6 Cs Cn) (wd108 hw) (wd109 hw) (S8.nf (wd111 hw)) (wd111 hw) (wd110 hw) (wd91 hw) (wd112 hw) (by decide) B8.1 d_prog_4_method_10_code_108 rfl pd21 (argsL := [(.ref nm)]) rfl rfl rfl (by decide) (W := 0) rfl (by decide) (by decide) (by decide) (allS (Or.inr hk5) (allS (Or.inr hkb6) all0)) (pc' := 111) rfl ?_
        intro v9 T9 h9 L9 S9 K9 q9
        obtain ⟨rfl, B9⟩ := q9
        replace hn := Nat.le_trans hn K9.1
        replace E := E.keep K9
        replace F_name := F_name.keep K9 (ninS n_r_a5 (ninS n_r_bv6 nin0))
        replace F_placeholder := F_placeholder.keep K9 (ninS n_r_a5 (ninS n_r_bv6 nin0))
        replace F_required := F_required.keep K9 (ninS n_r_a5 (ninS n_r_bv6 nin0))
        replace F_repeated := F_repeated.keep K9 (ninS n_r_a5 (ninS n_r_bv6 nin0))
        replace An := An.keep K9 (ninS n_nm_a5 (ninS n_nm_bv6 nin0)) (ninS n_tn_a5 (ninS n_tn_bv6 nin0))
        replace X5 := X5.keep K9
        replace A7 := A7.keep K9 (ninS n_a7_a5 (ninS n_a7_bv6 nin0)) (ninS n_b7_a5 (ninS n_b7_bv6 nin0))
        show Go _ _ _ _ T9 (mkF m 111 #[.val (.ref r), .val (.ref nm), .unset] [(.ref a5)])
        have S10b := St.bare S9 ((congrArg State.heap N7.1).trans hsh)
        refine Go.ldcFirst S10b N7 hn (text := "]") (cap := 4) (vs := [(.int (93 : Int32))]) (z := 1) (wd155 hw) (own_sat hw) (Fr.nil _) (by rw [hsh]; exact hE) I7 (fun q => (List.mem_cons.mp q).elim (by decide) hT2) hh49 hcw ⟨by decide, by first | rfl | decide⟩ (by decide) rfl d_prog_4_method_10_code_111 (by decide) (by decide) (by decide) (by decide) (pc' := 113) rfl ?_
        intro a10 b10 kb10 sb10 T10 h10 n10 S10 N10 hn10 E10 X10 Fc10 Fv10 V10 I10 L10
        replace E := E.ext E10
        replace F_name := F_name.ext E10
        replace F_placeholder := F_placeholder.ext E10
        replace F_required := F_required.ext E10
        replace F_repeated := F_repeated.ext E10
        replace An := An.ext E10
        replace X5 := X5.ext E10
        replace A7 := A7.ext E10
        replace B9 := B9.ext E10
        replace hn := hn10
        have A10 : StrAt Z h10 a10 b10 kb10 [93] := ⟨X10, Fc10, Fv10, V10, by decide⟩
        have n_a10_a5 : a10 ≠ a5 := Exa.nex X10 B9.1 (by decide)
        have n_a10_bv6 : a10 ≠ bv6 := Ne.symm (Arv.nex B9.2.2.2.2.1 (wd5 hw) X10)
        have n_b10_a5 : b10 ≠ a5 := Arv.nex V10 (wd90 hw) B9.1
        have n_b10_bv6 : b10 ≠ bv6 := Arv.nez V10 B9.2.2.2.2.1 (by decide)
        refine Go.invokevirtual S10 (y := ⟨"java/lang/StringBuilder", "append", "(Ljava/lang/String;)Ljava/lang/StringBuilder;"⟩) (rm_append hw a5 a10 bv6 kv6 (([] ++ [91]) ++ xs) b10 kb10 [93] cs S10.ext B9 A10 (by first | (simp; done) | (simp; omega)) hz5 hzb6 n_a5_bv6 Cs Cn) (wd108 hw) (wd109 hw) (S10.nf (wd111 hw)) (wd111 hw) (wd110 hw) (wd91 hw) (wd112 hw) (by decide) B9.1 d_prog_4_method_10_code_113 rfl pd21 (argsL := [(.ref a10)]) rfl rfl rfl (by decide) (W := 0) rfl (by decide) (by decide) (by decide) (allS (Or.inr hk5) (allS (Or.inr hkb6) all0)) (pc' := 116) rfl ?_
        intro v11 T11 h11 L11 S11 K11 q11
        obtain ⟨rfl, B11⟩ := q11
        replace hn := Nat.le_trans hn K11.1
        replace E := E.keep K11
        replace F_name := F_name.keep K11 (ninS n_r_a5 (ninS n_r_bv6 nin0))
        replace F_placeholder := F_placeholder.keep K11 (ninS n_r_a5 (ninS n_r_bv6 nin0))
        replace F_required := F_required.keep K11 (ninS n_r_a5 (ninS n_r_bv6 nin0))
        replace F_repeated := F_repeated.keep K11 (ninS n_r_a5 (ninS n_r_bv6 nin0))
        replace An := An.keep K11 (ninS n_nm_a5 (ninS n_nm_bv6 nin0)) (ninS n_tn_a5 (ninS n_tn_bv6 nin0))
        replace X5 := X5.keep K11
        replace A7 := A7.keep K11 (ninS n_a7_a5 (ninS n_a7_bv6 nin0)) (ninS n_b7_a5 (ninS n_b7_bv6 nin0))
        replace A10 := A10.keep K11 (ninS n_a10_a5 (ninS n_a10_bv6 nin0)) (ninS n_b10_a5 (ninS n_b10_bv6 nin0))
        show Go _ _ _ _ T11 (mkF m 116 #[.val (.ref r), .val (.ref nm), .unset] [(.ref a5)])
        refine Go.invokevirtual S11 (y := ⟨"java/lang/StringBuilder", "toString", "()Ljava/lang/String;"⟩) (rm_toString hw a5 bv6 kv6 ((([] ++ [91]) ++ xs) ++ [93]) cs S11.ext B11 (by first | (simp; done) | (simp; omega)) Cs Cn) (wd156 hw) (wd157 hw) (S11.nf (wd159 hw)) (wd159 hw) (wd158 hw) (wd91 hw) (wd160 hw) (by decide) B11.1 d_prog_4_method_10_code_116 rfl pd22 (argsL := []) rfl rfl rfl (by decide) (W := 0) rfl (by decide) (by decide) (by decide) all0 (pc' := 119) rfl ?_
        intro v12 T12 h12 L12 S12 K12 q12
        obtain ⟨q12, t12, kb12, rfl, A12⟩ := q12
        replace hn := Nat.le_trans hn K12.1
        replace E := E.keep K12
        replace F_name := F_name.keep K12 nin0
        replace F_placeholder := F_placeholder.keep K12 nin0
        replace F_required := F_required.keep K12 nin0
        replace F_repeated := F_repeated.keep K12 nin0
        replace An := An.keep K12 nin0 nin0
        replace X5 := X5.keep K12
        replace A7 := A7.keep K12 nin0 nin0
        replace A10 := A10.keep K12 nin0 nin0
        replace B11 := B11.keep K12 nin0 nin0
        show Go _ _ _ _ T12 (mkF m 119 #[.val (.ref r), .val (.ref nm), .unset] [(.ref q12)])
        refine Go.astoreN S12 d_prog_4_method_10_code_119 rfl (Ls' := #[.val (.ref r), .val (.ref nm), .val (.ref q12)]) rfl (pc' := 120) rfl ?_
        refine Go.aloadN S12 d_prog_4_method_10_code_120 rfl rfl (pc' := 121) rfl ?_
        exact Go.areturnW S12 N10 hn rfl rfl rfl d_prog_4_method_10_code_121 (by decide) (by decide) (⟨q12, t12, kb12, rfl, A12⟩)
      · intro c87; exact absurd (by decide) c87
    · intro c48; exact absurd (by decide) c48
  · intro c4; exact absurd (by decide) c4
theorem own_cc (z : Int32) : ¬ (z &&& 255).toUInt32.toUInt16.toUInt32.toInt32 < 0 ∧ ¬ 255 < (z &&& 255).toUInt32.toUInt16.toUInt32.toInt32 := by
  have b := c_mask z 255 8 (by decide) (by decide)
  have d := c_i2c (z &&& 255)
  have e0 : (0 : Int32).toInt = 0 := rfl
  have e255 : (255 : Int32).toInt = 255 := rfl
  simp only [Int32.lt_iff_toInt_lt]
  omega
theorem own_nc {z : Int32} (h : ¬ z < 0 ∧ ¬ 255 < z) : nar .char z = z := by
  have d := c_i2c z
  have e0 : (0 : Int32).toInt = 0 := rfl
  have e255 : (255 : Int32).toInt = 255 := rfl
  obtain ⟨h0, h1⟩ := h
  rw [Int32.lt_iff_toInt_lt] at h0 h1
  rw [← Int32.toInt_inj]
  show (z.toUInt32.toUInt16.toUInt32.toInt32).toInt = _
  omega
theorem own_b91 : own_b 91 = 91 := by decide
theorem own_b93 : own_b 93 = 93 := by decide
theorem own_b32 : own_b 32 = 32 := by decide
def own_nm (k u0 u1 u2 : Int32) : List Int32 := if k = 0 then [] else if k = 1 then [u0] else if k = 2 then [u0, u1] else [u0, u1, u2]
theorem own_nm3 (k u0 u1 u2 : Int32) : ((own_nm k u0 u1 u2).map own_b).length ≤ 3 := by
  unfold own_nm
  repeat' split
  all_goals simp
set_option maxRecDepth 65536 in
set_option maxHeartbeats 4000000 in
theorem rm_plain {l : Launch} {Z : State} {a0 : Array Value} (hw : HW Z a0) (k : Int32) (u0 : Int32) (u1 : Int32) (u2 : Int32) (cs : Int32) {h0 : Heap} (hE : Ext Z.heap h0) (hu0 : ¬ u0 < 0 ∧ ¬ 255 < u0) (hu1 : ¬ u1 < 0 ∧ ¬ 255 < u1) (hu2 : ¬ u2 < 0 ∧ ¬ 255 < u2) (Cs : Sta Z Z.heap "java/lang/String" "COMPACT_STRINGS" "Z" (.int cs)) (Cn : ¬ cs = 0) (hh : Jvm.Lit.constHeld Z "java/lang/String" 7) (hcw : Jvm.Lit.compactW.before a0 Z = true) :
    OMeetsW l Z (⟨"com/example/tukda/tukda/cli/OptionFlagPinLaw", "plain", "(ICCC)Ljava/lang/String;"⟩ : MethodName) method_3_code 4 (some (.object "java/lang/String")) ({ frames := 4, cells := 4, slots := 13, locals := 72 } : Room) #[(.int k), (.int u0), (.int u1), (.int u2)] h0 [] (fun vm => IB Z vm []) (fun v h vm => (∃ o t kb, v = some (.ref o) ∧ StrAt Z h o t kb ((own_nm k u0 u1 u2).map own_b)) ∧ IB Z vm [""]) := by
  refine OMeetsW.body (plainFor_of_name pn7) hE #[.val (.int k), .val (.int u0), .val (.int u1), .val (.int u2)] (fun m => by first | rfl | (simp [entryFrame, mkF, argsToLocals, Value.category, maxLocals]; done)) ?_
  intro p e s m below meth co T S hvp hsh
  have N := Sn.start s h0.size
  have hn : h0.size ≤ h0.size := Nat.le_refl _
  refine Go.iloadN S d_method_3_code_0 rfl (pc' := 1) rfl ?_
  refine Go.if_ne S d_method_3_code_1 (pt := 15) (by decide) (pc' := 4) rfl ?_ ?_
  · intro c1
    refine Go.iloadN S d_method_3_code_15 rfl (pc' := 16) rfl ?_
    refine Go.iconst S (v := 1) d_method_3_code_16 rfl (pc' := 17) rfl ?_
    refine Go.icmp_ne S d_method_3_code_17 (pt := 35) (by decide) (pc' := 20) rfl ?_ ?_
    · intro c17
      refine Go.iloadN S d_method_3_code_35 rfl (pc' := 36) rfl ?_
      refine Go.iconst S (v := 2) d_method_3_code_36 rfl (pc' := 37) rfl ?_
      refine Go.icmp_ne S d_method_3_code_37 (pt := 59) (by decide) (pc' := 40) rfl ?_ ?_
      · intro c37
        refine Go.new S (wd4 hw) (wd5 hw) (wd6 hw) d_method_3_code_59 (by decide) (by decide) (pc' := 62) rfl ?_
        intro T1 h1 a1 S1 E1 hg1 hz1 hk1 X1 D1
        replace hn := Nat.le_trans hn E1.1
        have F1_value : Fld Z h1 a1 "java/lang/String" "value" "[B" .null := D1 (Or.inr (wd20 hw)) (ty := (.array .byte)) (by decide)
        have F1_coder : Fld Z h1 a1 "java/lang/String" "coder" "B" (.int (0 : Int32)) := D1 (Or.inr (wd21 hw)) (ty := .byte) (by decide)
        refine Go.dup S1 d_method_3_code_62 rfl (pc' := 63) rfl ?_
        refine Go.iconst S1 (v := 3) d_method_3_code_63 rfl (pc' := 64) rfl ?_
        refine Go.newarray S1 (ty := .char) (dv := (.int (0 : Int32))) rfl rfl (wd7 hw) d_method_3_code_64 (by decide) (cap := 3) (by decide) (by decide) (by decide) (by decide) (pc' := 66) rfl ?_
        intro T2 h2 a2 kA2 S2 E2 hg2 hz2 hk2 V2
        replace V2 : Arv Z h2 a2 kA2 .char (3 : Int32) [(.int (0 : Int32)), (.int (0 : Int32)), (.int (0 : Int32))] (.int (0 : Int32)) := V2
        have n_a1_a2 : a1 ≠ a2 := Nat.ne_of_lt (Nat.lt_of_lt_of_le X1.lt (Nat.le_of_eq hg2))
        replace hn := Nat.le_trans hn E2.1
        replace X1 := X1.ext E2
        replace F1_value := F1_value.ext E2
        replace F1_coder := F1_coder.ext E2
        refine Go.dup S2 d_method_3_code_66 rfl (pc' := 67) rfl ?_
        refine Go.iconst S2 (v := 0) d_method_3_code_67 rfl (pc' := 68) rfl ?_
        refine Go.iloadN S2 d_method_3_code_68 rfl (pc' := 69) rfl ?_
        refine Go.castore S2 V2 (by decide) (i := 0) (by decide) (Nat.le_of_ble_eq_true rfl) hz2 (Or.inr hk2) d_method_3_code_69 (pc' := 70) rfl ?_
        intro T3 h3 L3 S3 W3 V3
        rw [show nar .char u0 = u0 from own_nc hu0] at V3
        replace V3 : Arv Z h3 a2 kA2 .char (3 : Int32) [(.int u0), (.int (0 : Int32)), (.int (0 : Int32))] (.int (0 : Int32)) := V3
        replace hn := Nat.le_trans hn (Nat.le_of_eq W3.size.symm)
        replace X1 := X1.wr W3
        replace F1_value := F1_value.other W3 (Or.inl (n_a1_a2))
        replace F1_coder := F1_coder.other W3 (Or.inl (n_a1_a2))
        refine Go.dup S3 d_method_3_code_70 rfl (pc' := 71) rfl ?_
        refine Go.iconst S3 (v := 1) d_method_3_code_71 rfl (pc' := 72) rfl ?_
        refine Go.iloadN S3 d_method_3_code_72 rfl (pc' := 73) rfl ?_
        refine Go.castore S3 V3 (by decide) (i := 1) (by decide) (Nat.le_of_ble_eq_true rfl) hz2 (Or.inr hk2) d_method_3_code_73 (pc' := 74) rfl ?_
        intro T4 h4 L4 S4 W4 V4
        rw [show nar .char u1 = u1 from own_nc hu1] at V4
        replace V4 : Arv Z h4 a2 kA2 .char (3 : Int32) [(.int u0), (.int u1), (.int (0 : Int32))] (.int (0 : Int32)) := V4
        replace hn := Nat.le_trans hn (Nat.le_of_eq W4.size.symm)
        replace X1 := X1.wr W4
        replace F1_value := F1_value.other W4 (Or.inl (n_a1_a2))
        replace F1_coder := F1_coder.other W4 (Or.inl (n_a1_a2))
        refine Go.dup S4 d_method_3_code_74 rfl (pc' := 75) rfl ?_
        refine Go.iconst S4 (v := 2) d_method_3_code_75 rfl (pc' := 76) rfl ?_
        refine Go.iloadN S4 d_method_3_code_76 rfl (pc' := 77) rfl ?_
        refine Go.castore S4 V4 (by decide) (i := 2) (by decide) (Nat.le_of_ble_eq_true rfl) hz2 (Or.inr hk2) d_method_3_code_77 (pc' := 78) rfl ?_
        intro T5 h5 L5 S5 W5 V5
        rw [show nar .char u2 = u2 from own_nc hu2] at V5
        replace V5 : Arv Z h5 a2 kA2 .char (3 : Int32) [(.int u0), (.int u1), (.int u2)] (.int (0 : Int32)) := V5
        replace hn := Nat.le_trans hn (Nat.le_of_eq W5.size.symm)
        replace X1 := X1.wr W5
        replace F1_value := F1_value.other W5 (Or.inl (n_a1_a2))
        replace F1_coder := F1_coder.other W5 (Or.inl (n_a1_a2))
        refine Go.invokespecial S5 (y := ⟨"java/lang/String", "<init>", "([C)V"⟩) (rm_sinit hw a1 a2 kA2 [u0, u1, u2] cs (by simp) (by simp) (fun z hz => by simp only [List.mem_cons, List.not_mem_nil, or_false] at hz; rcases hz with rfl | rfl | rfl <;> first | exact hu0.2 | exact hu1.2 | exact hu2.2 | decide) S5.ext hz1 X1 F1_value F1_coder (Ne.symm n_a1_a2) V5 Cs Cn) rfl rfl (wd8 hw) (wd9 hw) (wd6 hw) (wd10 hw) (by decide) d_method_3_code_78 rfl pd23 (argsL := [(.ref a2)]) rfl rfl rfl (by decide) (W := 1) rfl (by decide) (by decide) (by decide) (allS (Or.inr hk1) all0) (pc' := 81) rfl ?_
        intro v6 T6 h6 L6 S6 K6 q6
        obtain ⟨rfl, ts, kb, A, ht⟩ := q6
        replace hn := Nat.le_trans hn K6.1
        replace X1 := X1.keep K6
        replace V5 := V5.keep K6 (ninS (Ne.symm n_a1_a2) nin0)
        show Go _ _ _ _ T6 (mkF m 81 #[.val (.int k), .val (.int u0), .val (.int u1), .val (.int u2)] [(.ref a1)])
        exact Go.areturnW S6 N hn rfl rfl rfl d_method_3_code_81 (by decide) (by decide) (⟨⟨a1, ts, kb, rfl, by unfold own_nm; rw [if_neg c1, if_neg c17, if_neg c37]; exact A⟩, IB.warm (sb := s) (IB.mono hvp (by simp)) S6.X.warmed⟩)
      · intro c37
        refine Go.new S (wd4 hw) (wd5 hw) (wd6 hw) d_method_3_code_40 (by decide) (by decide) (pc' := 43) rfl ?_
        intro T7 h7 a7 S7 E7 hg7 hz7 hk7 X7 D7
        replace hn := Nat.le_trans hn E7.1
        have F7_value : Fld Z h7 a7 "java/lang/String" "value" "[B" .null := D7 (Or.inr (wd20 hw)) (ty := (.array .byte)) (by decide)
        have F7_coder : Fld Z h7 a7 "java/lang/String" "coder" "B" (.int (0 : Int32)) := D7 (Or.inr (wd21 hw)) (ty := .byte) (by decide)
        refine Go.dup S7 d_method_3_code_43 rfl (pc' := 44) rfl ?_
        refine Go.iconst S7 (v := 2) d_method_3_code_44 rfl (pc' := 45) rfl ?_
        refine Go.newarray S7 (ty := .char) (dv := (.int (0 : Int32))) rfl rfl (wd7 hw) d_method_3_code_45 (by decide) (cap := 2) (by decide) (by decide) (by decide) (by decide) (pc' := 47) rfl ?_
        intro T8 h8 a8 kA8 S8 E8 hg8 hz8 hk8 V8
        replace V8 : Arv Z h8 a8 kA8 .char (2 : Int32) [(.int (0 : Int32)), (.int (0 : Int32))] (.int (0 : Int32)) := V8
        have n_a7_a8 : a7 ≠ a8 := Nat.ne_of_lt (Nat.lt_of_lt_of_le X7.lt (Nat.le_of_eq hg8))
        replace hn := Nat.le_trans hn E8.1
        replace X7 := X7.ext E8
        replace F7_value := F7_value.ext E8
        replace F7_coder := F7_coder.ext E8
        refine Go.dup S8 d_method_3_code_47 rfl (pc' := 48) rfl ?_
        refine Go.iconst S8 (v := 0) d_method_3_code_48 rfl (pc' := 49) rfl ?_
        refine Go.iloadN S8 d_method_3_code_49 rfl (pc' := 50) rfl ?_
        refine Go.castore S8 V8 (by decide) (i := 0) (by decide) (Nat.le_of_ble_eq_true rfl) hz8 (Or.inr hk8) d_method_3_code_50 (pc' := 51) rfl ?_
        intro T9 h9 L9 S9 W9 V9
        rw [show nar .char u0 = u0 from own_nc hu0] at V9
        replace V9 : Arv Z h9 a8 kA8 .char (2 : Int32) [(.int u0), (.int (0 : Int32))] (.int (0 : Int32)) := V9
        replace hn := Nat.le_trans hn (Nat.le_of_eq W9.size.symm)
        replace X7 := X7.wr W9
        replace F7_value := F7_value.other W9 (Or.inl (n_a7_a8))
        replace F7_coder := F7_coder.other W9 (Or.inl (n_a7_a8))
        refine Go.dup S9 d_method_3_code_51 rfl (pc' := 52) rfl ?_
        refine Go.iconst S9 (v := 1) d_method_3_code_52 rfl (pc' := 53) rfl ?_
        refine Go.iloadN S9 d_method_3_code_53 rfl (pc' := 54) rfl ?_
        refine Go.castore S9 V9 (by decide) (i := 1) (by decide) (Nat.le_of_ble_eq_true rfl) hz8 (Or.inr hk8) d_method_3_code_54 (pc' := 55) rfl ?_
        intro T10 h10 L10 S10 W10 V10
        rw [show nar .char u1 = u1 from own_nc hu1] at V10
        replace V10 : Arv Z h10 a8 kA8 .char (2 : Int32) [(.int u0), (.int u1)] (.int (0 : Int32)) := V10
        replace hn := Nat.le_trans hn (Nat.le_of_eq W10.size.symm)
        replace X7 := X7.wr W10
        replace F7_value := F7_value.other W10 (Or.inl (n_a7_a8))
        replace F7_coder := F7_coder.other W10 (Or.inl (n_a7_a8))
        refine Go.invokespecial S10 (y := ⟨"java/lang/String", "<init>", "([C)V"⟩) (rm_sinit hw a7 a8 kA8 [u0, u1] cs (by simp) (by simp) (fun z hz => by simp only [List.mem_cons, List.not_mem_nil, or_false] at hz; rcases hz with rfl | rfl <;> first | exact hu0.2 | exact hu1.2 | exact hu2.2 | decide) S10.ext hz7 X7 F7_value F7_coder (Ne.symm n_a7_a8) V10 Cs Cn) rfl rfl (wd8 hw) (wd9 hw) (wd6 hw) (wd10 hw) (by decide) d_method_3_code_55 rfl pd23 (argsL := [(.ref a8)]) rfl rfl rfl (by decide) (W := 1) rfl (by decide) (by decide) (by decide) (allS (Or.inr hk7) all0) (pc' := 58) rfl ?_
        intro v11 T11 h11 L11 S11 K11 q11
        obtain ⟨rfl, ts, kb, A, ht⟩ := q11
        replace hn := Nat.le_trans hn K11.1
        replace X7 := X7.keep K11
        replace V10 := V10.keep K11 (ninS (Ne.symm n_a7_a8) nin0)
        show Go _ _ _ _ T11 (mkF m 58 #[.val (.int k), .val (.int u0), .val (.int u1), .val (.int u2)] [(.ref a7)])
        exact Go.areturnW S11 N hn rfl rfl rfl d_method_3_code_58 (by decide) (by decide) (⟨⟨a7, ts, kb, rfl, by unfold own_nm; rw [if_neg c1, if_neg c17, if_pos c37]; exact A⟩, IB.warm (sb := s) (IB.mono hvp (by simp)) S11.X.warmed⟩)
    · intro c17
      refine Go.new S (wd4 hw) (wd5 hw) (wd6 hw) d_method_3_code_20 (by decide) (by decide) (pc' := 23) rfl ?_
      intro T12 h12 a12 S12 E12 hg12 hz12 hk12 X12 D12
      replace hn := Nat.le_trans hn E12.1
      have F12_value : Fld Z h12 a12 "java/lang/String" "value" "[B" .null := D12 (Or.inr (wd20 hw)) (ty := (.array .byte)) (by decide)
      have F12_coder : Fld Z h12 a12 "java/lang/String" "coder" "B" (.int (0 : Int32)) := D12 (Or.inr (wd21 hw)) (ty := .byte) (by decide)
      refine Go.dup S12 d_method_3_code_23 rfl (pc' := 24) rfl ?_
      refine Go.iconst S12 (v := 1) d_method_3_code_24 rfl (pc' := 25) rfl ?_
      refine Go.newarray S12 (ty := .char) (dv := (.int (0 : Int32))) rfl rfl (wd7 hw) d_method_3_code_25 (by decide) (cap := 1) (by decide) (by decide) (by decide) (by decide) (pc' := 27) rfl ?_
      intro T13 h13 a13 kA13 S13 E13 hg13 hz13 hk13 V13
      replace V13 : Arv Z h13 a13 kA13 .char (1 : Int32) [(.int (0 : Int32))] (.int (0 : Int32)) := V13
      have n_a12_a13 : a12 ≠ a13 := Nat.ne_of_lt (Nat.lt_of_lt_of_le X12.lt (Nat.le_of_eq hg13))
      replace hn := Nat.le_trans hn E13.1
      replace X12 := X12.ext E13
      replace F12_value := F12_value.ext E13
      replace F12_coder := F12_coder.ext E13
      refine Go.dup S13 d_method_3_code_27 rfl (pc' := 28) rfl ?_
      refine Go.iconst S13 (v := 0) d_method_3_code_28 rfl (pc' := 29) rfl ?_
      refine Go.iloadN S13 d_method_3_code_29 rfl (pc' := 30) rfl ?_
      refine Go.castore S13 V13 (by decide) (i := 0) (by decide) (Nat.le_of_ble_eq_true rfl) hz13 (Or.inr hk13) d_method_3_code_30 (pc' := 31) rfl ?_
      intro T14 h14 L14 S14 W14 V14
      rw [show nar .char u0 = u0 from own_nc hu0] at V14
      replace V14 : Arv Z h14 a13 kA13 .char (1 : Int32) [(.int u0)] (.int (0 : Int32)) := V14
      replace hn := Nat.le_trans hn (Nat.le_of_eq W14.size.symm)
      replace X12 := X12.wr W14
      replace F12_value := F12_value.other W14 (Or.inl (n_a12_a13))
      replace F12_coder := F12_coder.other W14 (Or.inl (n_a12_a13))
      refine Go.invokespecial S14 (y := ⟨"java/lang/String", "<init>", "([C)V"⟩) (rm_sinit hw a12 a13 kA13 [u0] cs (by simp) (by simp) (fun z hz => by simp only [List.mem_cons, List.not_mem_nil, or_false] at hz; rcases hz with rfl <;> first | exact hu0.2 | exact hu1.2 | exact hu2.2 | decide) S14.ext hz12 X12 F12_value F12_coder (Ne.symm n_a12_a13) V14 Cs Cn) rfl rfl (wd8 hw) (wd9 hw) (wd6 hw) (wd10 hw) (by decide) d_method_3_code_31 rfl pd23 (argsL := [(.ref a13)]) rfl rfl rfl (by decide) (W := 1) rfl (by decide) (by decide) (by decide) (allS (Or.inr hk12) all0) (pc' := 34) rfl ?_
      intro v15 T15 h15 L15 S15 K15 q15
      obtain ⟨rfl, ts, kb, A, ht⟩ := q15
      replace hn := Nat.le_trans hn K15.1
      replace X12 := X12.keep K15
      replace V14 := V14.keep K15 (ninS (Ne.symm n_a12_a13) nin0)
      show Go _ _ _ _ T15 (mkF m 34 #[.val (.int k), .val (.int u0), .val (.int u1), .val (.int u2)] [(.ref a12)])
      exact Go.areturnW S15 N hn rfl rfl rfl d_method_3_code_34 (by decide) (by decide) (⟨⟨a12, ts, kb, rfl, by unfold own_nm; rw [if_neg c1, if_pos c17]; exact A⟩, IB.warm (sb := s) (IB.mono hvp (by simp)) S15.X.warmed⟩)
  · intro c1
    refine Go.new S (wd4 hw) (wd5 hw) (wd6 hw) d_method_3_code_4 (by decide) (by decide) (pc' := 7) rfl ?_
    intro T16 h16 a16 S16 E16 hg16 hz16 hk16 X16 D16
    replace hn := Nat.le_trans hn E16.1
    have F16_value : Fld Z h16 a16 "java/lang/String" "value" "[B" .null := D16 (Or.inr (wd20 hw)) (ty := (.array .byte)) (by decide)
    have F16_coder : Fld Z h16 a16 "java/lang/String" "coder" "B" (.int (0 : Int32)) := D16 (Or.inr (wd21 hw)) (ty := .byte) (by decide)
    refine Go.dup S16 d_method_3_code_7 rfl (pc' := 8) rfl ?_
    refine Go.iconst S16 (v := 0) d_method_3_code_8 rfl (pc' := 9) rfl ?_
    refine Go.newarray S16 (ty := .char) (dv := (.int (0 : Int32))) rfl rfl (wd7 hw) d_method_3_code_9 (by decide) (cap := 0) (by decide) (by decide) (by decide) (by decide) (pc' := 11) rfl ?_
    intro T17 h17 a17 kA17 S17 E17 hg17 hz17 hk17 V17
    replace V17 : Arv Z h17 a17 kA17 .char (0 : Int32) [] (.int (0 : Int32)) := V17
    have n_a16_a17 : a16 ≠ a17 := Nat.ne_of_lt (Nat.lt_of_lt_of_le X16.lt (Nat.le_of_eq hg17))
    replace hn := Nat.le_trans hn E17.1
    replace X16 := X16.ext E17
    replace F16_value := F16_value.ext E17
    replace F16_coder := F16_coder.ext E17
    refine Go.invokespecialW S17 (y := ⟨"java/lang/String", "<init>", "([C)V"⟩) (rm_sinitE hw a16 a17 kA17 S17.ext hz16 X16 F16_value F16_coder hh hcw V17) N hn (fun vm hv => IB.warm hvp hv) rfl rfl (wd8 hw) (wd9 hw) (wd6 hw) (wd10 hw) (by decide) d_method_3_code_11 rfl pd23 (argsL := [(.ref a17)]) rfl rfl rfl (by decide) (W := 1) rfl (by decide) (by decide) (by decide) (allS (Or.inr hk16) all0) (pc' := 14) rfl ?_
    intro v18 sb18 T18 h18 L18 S18 N18 K18 q18
    obtain ⟨⟨rfl, ts, kb, A⟩, I1⟩ := q18
    replace X16 := X16.keep K18
    replace V17 := V17.keep K18 (ninS (Ne.symm n_a16_a17) nin0)
    replace hn : h18.size ≤ h18.size := Nat.le_refl _
    show Go _ _ _ _ T18 (mkF m 14 #[.val (.int k), .val (.int u0), .val (.int u1), .val (.int u2)] [(.ref a16)])
    exact Go.areturnW S18 N18 hn rfl rfl rfl d_method_3_code_14 (by decide) (by decide) (⟨⟨a16, ts, kb, rfl, by unfold own_nm; rw [if_pos c1]; exact A⟩, IB.warm I1 S18.X.warmed⟩)
set_option maxRecDepth 65536 in
set_option maxHeartbeats 4000000 in
theorem rm_brk {l : Launch} {Z : State} {a0 : Array Value} (hw : HW Z a0) (k : Int32) (u0 : Int32) (u1 : Int32) (u2 : Int32) (cs : Int32) {h0 : Heap} (hE : Ext Z.heap h0) (hu0 : ¬ u0 < 0 ∧ ¬ 255 < u0) (hu1 : ¬ u1 < 0 ∧ ¬ 255 < u1) (hu2 : ¬ u2 < 0 ∧ ¬ 255 < u2) (Cs : Sta Z Z.heap "java/lang/String" "COMPACT_STRINGS" "Z" (.int cs)) (Cn : ¬ cs = 0) :
    OMeets l Z (⟨"com/example/tukda/tukda/cli/OptionFlagPinLaw", "bracketed", "(ICCC)Ljava/lang/String;"⟩ : MethodName) method_4_code 4 (some (.object "java/lang/String")) ({ frames := 4, cells := 3, slots := 14, locals := 72 } : Room) #[(.int k), (.int u0), (.int u1), (.int u2)] h0 [] (fun v h => ∃ o t kb, v = some (.ref o) ∧ StrAt Z h o t kb (([91] ++ own_nm k u0 u1 u2 ++ [93]).map own_b)) := by
  refine OMeets.body (plainFor_of_name pn7) hE #[.val (.int k), .val (.int u0), .val (.int u1), .val (.int u2)] (fun m => by first | rfl | (simp [entryFrame, mkF, argsToLocals, Value.category, maxLocals]; done)) ?_
  intro p e s m below meth co T S
  refine Go.iloadN S d_method_4_code_0 rfl (pc' := 1) rfl ?_
  refine Go.if_ne S d_method_4_code_1 (pt := 25) (by decide) (pc' := 4) rfl ?_ ?_
  · intro c1
    refine Go.iloadN S d_method_4_code_25 rfl (pc' := 26) rfl ?_
    refine Go.iconst S (v := 1) d_method_4_code_26 rfl (pc' := 27) rfl ?_
    refine Go.icmp_ne S d_method_4_code_27 (pt := 55) (by decide) (pc' := 30) rfl ?_ ?_
    · intro c27
      refine Go.iloadN S d_method_4_code_55 rfl (pc' := 56) rfl ?_
      refine Go.iconst S (v := 2) d_method_4_code_56 rfl (pc' := 57) rfl ?_
      refine Go.icmp_ne S d_method_4_code_57 (pt := 89) (by decide) (pc' := 60) rfl ?_ ?_
      · intro c57
        refine Go.new S (wd4 hw) (wd5 hw) (wd6 hw) d_method_4_code_89 (by decide) (by decide) (pc' := 92) rfl ?_
        intro T1 h1 a1 S1 E1 hg1 hz1 hk1 X1 D1
        have F1_value : Fld Z h1 a1 "java/lang/String" "value" "[B" .null := D1 (Or.inr (wd20 hw)) (ty := (.array .byte)) (by decide)
        have F1_coder : Fld Z h1 a1 "java/lang/String" "coder" "B" (.int (0 : Int32)) := D1 (Or.inr (wd21 hw)) (ty := .byte) (by decide)
        refine Go.dup S1 d_method_4_code_92 rfl (pc' := 93) rfl ?_
        refine Go.iconst S1 (v := 5) d_method_4_code_93 rfl (pc' := 94) rfl ?_
        refine Go.newarray S1 (ty := .char) (dv := (.int (0 : Int32))) rfl rfl (wd7 hw) d_method_4_code_94 (by decide) (cap := 5) (by decide) (by decide) (by decide) (by decide) (pc' := 96) rfl ?_
        intro T2 h2 a2 kA2 S2 E2 hg2 hz2 hk2 V2
        replace V2 : Arv Z h2 a2 kA2 .char (5 : Int32) [(.int (0 : Int32)), (.int (0 : Int32)), (.int (0 : Int32)), (.int (0 : Int32)), (.int (0 : Int32))] (.int (0 : Int32)) := V2
        have n_a1_a2 : a1 ≠ a2 := Nat.ne_of_lt (Nat.lt_of_lt_of_le X1.lt (Nat.le_of_eq hg2))
        replace X1 := X1.ext E2
        replace F1_value := F1_value.ext E2
        replace F1_coder := F1_coder.ext E2
        refine Go.dup S2 d_method_4_code_96 rfl (pc' := 97) rfl ?_
        refine Go.iconst S2 (v := 0) d_method_4_code_97 rfl (pc' := 98) rfl ?_
        refine Go.bipush S2 (v := 91) d_method_4_code_98 rfl (pc' := 100) rfl ?_
        refine Go.castore S2 V2 (by decide) (i := 0) (by decide) (Nat.le_of_ble_eq_true rfl) hz2 (Or.inr hk2) d_method_4_code_100 (pc' := 101) rfl ?_
        intro T3 h3 L3 S3 W3 V3
        rw [show nar .char (91 : Int32) = (91 : Int32) from (by decide)] at V3
        replace V3 : Arv Z h3 a2 kA2 .char (5 : Int32) [(.int (91 : Int32)), (.int (0 : Int32)), (.int (0 : Int32)), (.int (0 : Int32)), (.int (0 : Int32))] (.int (0 : Int32)) := V3
        replace X1 := X1.wr W3
        replace F1_value := F1_value.other W3 (Or.inl (n_a1_a2))
        replace F1_coder := F1_coder.other W3 (Or.inl (n_a1_a2))
        refine Go.dup S3 d_method_4_code_101 rfl (pc' := 102) rfl ?_
        refine Go.iconst S3 (v := 1) d_method_4_code_102 rfl (pc' := 103) rfl ?_
        refine Go.iloadN S3 d_method_4_code_103 rfl (pc' := 104) rfl ?_
        refine Go.castore S3 V3 (by decide) (i := 1) (by decide) (Nat.le_of_ble_eq_true rfl) hz2 (Or.inr hk2) d_method_4_code_104 (pc' := 105) rfl ?_
        intro T4 h4 L4 S4 W4 V4
        rw [show nar .char u0 = u0 from own_nc hu0] at V4
        replace V4 : Arv Z h4 a2 kA2 .char (5 : Int32) [(.int (91 : Int32)), (.int u0), (.int (0 : Int32)), (.int (0 : Int32)), (.int (0 : Int32))] (.int (0 : Int32)) := V4
        replace X1 := X1.wr W4
        replace F1_value := F1_value.other W4 (Or.inl (n_a1_a2))
        replace F1_coder := F1_coder.other W4 (Or.inl (n_a1_a2))
        refine Go.dup S4 d_method_4_code_105 rfl (pc' := 106) rfl ?_
        refine Go.iconst S4 (v := 2) d_method_4_code_106 rfl (pc' := 107) rfl ?_
        refine Go.iloadN S4 d_method_4_code_107 rfl (pc' := 108) rfl ?_
        refine Go.castore S4 V4 (by decide) (i := 2) (by decide) (Nat.le_of_ble_eq_true rfl) hz2 (Or.inr hk2) d_method_4_code_108 (pc' := 109) rfl ?_
        intro T5 h5 L5 S5 W5 V5
        rw [show nar .char u1 = u1 from own_nc hu1] at V5
        replace V5 : Arv Z h5 a2 kA2 .char (5 : Int32) [(.int (91 : Int32)), (.int u0), (.int u1), (.int (0 : Int32)), (.int (0 : Int32))] (.int (0 : Int32)) := V5
        replace X1 := X1.wr W5
        replace F1_value := F1_value.other W5 (Or.inl (n_a1_a2))
        replace F1_coder := F1_coder.other W5 (Or.inl (n_a1_a2))
        refine Go.dup S5 d_method_4_code_109 rfl (pc' := 110) rfl ?_
        refine Go.iconst S5 (v := 3) d_method_4_code_110 rfl (pc' := 111) rfl ?_
        refine Go.iloadN S5 d_method_4_code_111 rfl (pc' := 112) rfl ?_
        refine Go.castore S5 V5 (by decide) (i := 3) (by decide) (Nat.le_of_ble_eq_true rfl) hz2 (Or.inr hk2) d_method_4_code_112 (pc' := 113) rfl ?_
        intro T6 h6 L6 S6 W6 V6
        rw [show nar .char u2 = u2 from own_nc hu2] at V6
        replace V6 : Arv Z h6 a2 kA2 .char (5 : Int32) [(.int (91 : Int32)), (.int u0), (.int u1), (.int u2), (.int (0 : Int32))] (.int (0 : Int32)) := V6
        replace X1 := X1.wr W6
        replace F1_value := F1_value.other W6 (Or.inl (n_a1_a2))
        replace F1_coder := F1_coder.other W6 (Or.inl (n_a1_a2))
        refine Go.dup S6 d_method_4_code_113 rfl (pc' := 114) rfl ?_
        refine Go.iconst S6 (v := 4) d_method_4_code_114 rfl (pc' := 115) rfl ?_
        refine Go.bipush S6 (v := 93) d_method_4_code_115 rfl (pc' := 117) rfl ?_
        refine Go.castore S6 V6 (by decide) (i := 4) (by decide) (Nat.le_of_ble_eq_true rfl) hz2 (Or.inr hk2) d_method_4_code_117 (pc' := 118) rfl ?_
        intro T7 h7 L7 S7 W7 V7
        rw [show nar .char (93 : Int32) = (93 : Int32) from (by decide)] at V7
        replace V7 : Arv Z h7 a2 kA2 .char (5 : Int32) [(.int (91 : Int32)), (.int u0), (.int u1), (.int u2), (.int (93 : Int32))] (.int (0 : Int32)) := V7
        replace X1 := X1.wr W7
        replace F1_value := F1_value.other W7 (Or.inl (n_a1_a2))
        replace F1_coder := F1_coder.other W7 (Or.inl (n_a1_a2))
        refine Go.invokespecial S7 (y := ⟨"java/lang/String", "<init>", "([C)V"⟩) (rm_sinit hw a1 a2 kA2 [(91 : Int32), u0, u1, u2, (93 : Int32)] cs (by simp) (by simp) (fun z hz => by simp only [List.mem_cons, List.not_mem_nil, or_false] at hz; rcases hz with rfl | rfl | rfl | rfl | rfl <;> first | exact hu0.2 | exact hu1.2 | exact hu2.2 | decide) S7.ext hz1 X1 F1_value F1_coder (Ne.symm n_a1_a2) V7 Cs Cn) rfl rfl (wd8 hw) (wd9 hw) (wd6 hw) (wd10 hw) (by decide) d_method_4_code_118 rfl pd23 (argsL := [(.ref a2)]) rfl rfl rfl (by decide) (W := 1) rfl (by decide) (by decide) (by decide) (allS (Or.inr hk1) all0) (pc' := 121) rfl ?_
        intro v8 T8 h8 L8 S8 K8 q8
        obtain ⟨rfl, ts, kb, A, ht⟩ := q8
        replace X1 := X1.keep K8
        replace V7 := V7.keep K8 (ninS (Ne.symm n_a1_a2) nin0)
        show Go _ _ _ _ T8 (mkF m 121 #[.val (.int k), .val (.int u0), .val (.int u1), .val (.int u2)] [(.ref a1)])
        exact Go.areturn S8 rfl rfl rfl d_method_4_code_121 (by decide) (by decide) (⟨a1, ts, kb, rfl, by unfold own_nm; rw [if_neg c1, if_neg c27, if_neg c57]; exact A⟩)
      · intro c57
        refine Go.new S (wd4 hw) (wd5 hw) (wd6 hw) d_method_4_code_60 (by decide) (by decide) (pc' := 63) rfl ?_
        intro T9 h9 a9 S9 E9 hg9 hz9 hk9 X9 D9
        have F9_value : Fld Z h9 a9 "java/lang/String" "value" "[B" .null := D9 (Or.inr (wd20 hw)) (ty := (.array .byte)) (by decide)
        have F9_coder : Fld Z h9 a9 "java/lang/String" "coder" "B" (.int (0 : Int32)) := D9 (Or.inr (wd21 hw)) (ty := .byte) (by decide)
        refine Go.dup S9 d_method_4_code_63 rfl (pc' := 64) rfl ?_
        refine Go.iconst S9 (v := 4) d_method_4_code_64 rfl (pc' := 65) rfl ?_
        refine Go.newarray S9 (ty := .char) (dv := (.int (0 : Int32))) rfl rfl (wd7 hw) d_method_4_code_65 (by decide) (cap := 4) (by decide) (by decide) (by decide) (by decide) (pc' := 67) rfl ?_
        intro T10 h10 a10 kA10 S10 E10 hg10 hz10 hk10 V10
        replace V10 : Arv Z h10 a10 kA10 .char (4 : Int32) [(.int (0 : Int32)), (.int (0 : Int32)), (.int (0 : Int32)), (.int (0 : Int32))] (.int (0 : Int32)) := V10
        have n_a9_a10 : a9 ≠ a10 := Nat.ne_of_lt (Nat.lt_of_lt_of_le X9.lt (Nat.le_of_eq hg10))
        replace X9 := X9.ext E10
        replace F9_value := F9_value.ext E10
        replace F9_coder := F9_coder.ext E10
        refine Go.dup S10 d_method_4_code_67 rfl (pc' := 68) rfl ?_
        refine Go.iconst S10 (v := 0) d_method_4_code_68 rfl (pc' := 69) rfl ?_
        refine Go.bipush S10 (v := 91) d_method_4_code_69 rfl (pc' := 71) rfl ?_
        refine Go.castore S10 V10 (by decide) (i := 0) (by decide) (Nat.le_of_ble_eq_true rfl) hz10 (Or.inr hk10) d_method_4_code_71 (pc' := 72) rfl ?_
        intro T11 h11 L11 S11 W11 V11
        rw [show nar .char (91 : Int32) = (91 : Int32) from (by decide)] at V11
        replace V11 : Arv Z h11 a10 kA10 .char (4 : Int32) [(.int (91 : Int32)), (.int (0 : Int32)), (.int (0 : Int32)), (.int (0 : Int32))] (.int (0 : Int32)) := V11
        replace X9 := X9.wr W11
        replace F9_value := F9_value.other W11 (Or.inl (n_a9_a10))
        replace F9_coder := F9_coder.other W11 (Or.inl (n_a9_a10))
        refine Go.dup S11 d_method_4_code_72 rfl (pc' := 73) rfl ?_
        refine Go.iconst S11 (v := 1) d_method_4_code_73 rfl (pc' := 74) rfl ?_
        refine Go.iloadN S11 d_method_4_code_74 rfl (pc' := 75) rfl ?_
        refine Go.castore S11 V11 (by decide) (i := 1) (by decide) (Nat.le_of_ble_eq_true rfl) hz10 (Or.inr hk10) d_method_4_code_75 (pc' := 76) rfl ?_
        intro T12 h12 L12 S12 W12 V12
        rw [show nar .char u0 = u0 from own_nc hu0] at V12
        replace V12 : Arv Z h12 a10 kA10 .char (4 : Int32) [(.int (91 : Int32)), (.int u0), (.int (0 : Int32)), (.int (0 : Int32))] (.int (0 : Int32)) := V12
        replace X9 := X9.wr W12
        replace F9_value := F9_value.other W12 (Or.inl (n_a9_a10))
        replace F9_coder := F9_coder.other W12 (Or.inl (n_a9_a10))
        refine Go.dup S12 d_method_4_code_76 rfl (pc' := 77) rfl ?_
        refine Go.iconst S12 (v := 2) d_method_4_code_77 rfl (pc' := 78) rfl ?_
        refine Go.iloadN S12 d_method_4_code_78 rfl (pc' := 79) rfl ?_
        refine Go.castore S12 V12 (by decide) (i := 2) (by decide) (Nat.le_of_ble_eq_true rfl) hz10 (Or.inr hk10) d_method_4_code_79 (pc' := 80) rfl ?_
        intro T13 h13 L13 S13 W13 V13
        rw [show nar .char u1 = u1 from own_nc hu1] at V13
        replace V13 : Arv Z h13 a10 kA10 .char (4 : Int32) [(.int (91 : Int32)), (.int u0), (.int u1), (.int (0 : Int32))] (.int (0 : Int32)) := V13
        replace X9 := X9.wr W13
        replace F9_value := F9_value.other W13 (Or.inl (n_a9_a10))
        replace F9_coder := F9_coder.other W13 (Or.inl (n_a9_a10))
        refine Go.dup S13 d_method_4_code_80 rfl (pc' := 81) rfl ?_
        refine Go.iconst S13 (v := 3) d_method_4_code_81 rfl (pc' := 82) rfl ?_
        refine Go.bipush S13 (v := 93) d_method_4_code_82 rfl (pc' := 84) rfl ?_
        refine Go.castore S13 V13 (by decide) (i := 3) (by decide) (Nat.le_of_ble_eq_true rfl) hz10 (Or.inr hk10) d_method_4_code_84 (pc' := 85) rfl ?_
        intro T14 h14 L14 S14 W14 V14
        rw [show nar .char (93 : Int32) = (93 : Int32) from (by decide)] at V14
        replace V14 : Arv Z h14 a10 kA10 .char (4 : Int32) [(.int (91 : Int32)), (.int u0), (.int u1), (.int (93 : Int32))] (.int (0 : Int32)) := V14
        replace X9 := X9.wr W14
        replace F9_value := F9_value.other W14 (Or.inl (n_a9_a10))
        replace F9_coder := F9_coder.other W14 (Or.inl (n_a9_a10))
        refine Go.invokespecial S14 (y := ⟨"java/lang/String", "<init>", "([C)V"⟩) (rm_sinit hw a9 a10 kA10 [(91 : Int32), u0, u1, (93 : Int32)] cs (by simp) (by simp) (fun z hz => by simp only [List.mem_cons, List.not_mem_nil, or_false] at hz; rcases hz with rfl | rfl | rfl | rfl <;> first | exact hu0.2 | exact hu1.2 | exact hu2.2 | decide) S14.ext hz9 X9 F9_value F9_coder (Ne.symm n_a9_a10) V14 Cs Cn) rfl rfl (wd8 hw) (wd9 hw) (wd6 hw) (wd10 hw) (by decide) d_method_4_code_85 rfl pd23 (argsL := [(.ref a10)]) rfl rfl rfl (by decide) (W := 1) rfl (by decide) (by decide) (by decide) (allS (Or.inr hk9) all0) (pc' := 88) rfl ?_
        intro v15 T15 h15 L15 S15 K15 q15
        obtain ⟨rfl, ts, kb, A, ht⟩ := q15
        replace X9 := X9.keep K15
        replace V14 := V14.keep K15 (ninS (Ne.symm n_a9_a10) nin0)
        show Go _ _ _ _ T15 (mkF m 88 #[.val (.int k), .val (.int u0), .val (.int u1), .val (.int u2)] [(.ref a9)])
        exact Go.areturn S15 rfl rfl rfl d_method_4_code_88 (by decide) (by decide) (⟨a9, ts, kb, rfl, by unfold own_nm; rw [if_neg c1, if_neg c27, if_pos c57]; exact A⟩)
    · intro c27
      refine Go.new S (wd4 hw) (wd5 hw) (wd6 hw) d_method_4_code_30 (by decide) (by decide) (pc' := 33) rfl ?_
      intro T16 h16 a16 S16 E16 hg16 hz16 hk16 X16 D16
      have F16_value : Fld Z h16 a16 "java/lang/String" "value" "[B" .null := D16 (Or.inr (wd20 hw)) (ty := (.array .byte)) (by decide)
      have F16_coder : Fld Z h16 a16 "java/lang/String" "coder" "B" (.int (0 : Int32)) := D16 (Or.inr (wd21 hw)) (ty := .byte) (by decide)
      refine Go.dup S16 d_method_4_code_33 rfl (pc' := 34) rfl ?_
      refine Go.iconst S16 (v := 3) d_method_4_code_34 rfl (pc' := 35) rfl ?_
      refine Go.newarray S16 (ty := .char) (dv := (.int (0 : Int32))) rfl rfl (wd7 hw) d_method_4_code_35 (by decide) (cap := 3) (by decide) (by decide) (by decide) (by decide) (pc' := 37) rfl ?_
      intro T17 h17 a17 kA17 S17 E17 hg17 hz17 hk17 V17
      replace V17 : Arv Z h17 a17 kA17 .char (3 : Int32) [(.int (0 : Int32)), (.int (0 : Int32)), (.int (0 : Int32))] (.int (0 : Int32)) := V17
      have n_a16_a17 : a16 ≠ a17 := Nat.ne_of_lt (Nat.lt_of_lt_of_le X16.lt (Nat.le_of_eq hg17))
      replace X16 := X16.ext E17
      replace F16_value := F16_value.ext E17
      replace F16_coder := F16_coder.ext E17
      refine Go.dup S17 d_method_4_code_37 rfl (pc' := 38) rfl ?_
      refine Go.iconst S17 (v := 0) d_method_4_code_38 rfl (pc' := 39) rfl ?_
      refine Go.bipush S17 (v := 91) d_method_4_code_39 rfl (pc' := 41) rfl ?_
      refine Go.castore S17 V17 (by decide) (i := 0) (by decide) (Nat.le_of_ble_eq_true rfl) hz17 (Or.inr hk17) d_method_4_code_41 (pc' := 42) rfl ?_
      intro T18 h18 L18 S18 W18 V18
      rw [show nar .char (91 : Int32) = (91 : Int32) from (by decide)] at V18
      replace V18 : Arv Z h18 a17 kA17 .char (3 : Int32) [(.int (91 : Int32)), (.int (0 : Int32)), (.int (0 : Int32))] (.int (0 : Int32)) := V18
      replace X16 := X16.wr W18
      replace F16_value := F16_value.other W18 (Or.inl (n_a16_a17))
      replace F16_coder := F16_coder.other W18 (Or.inl (n_a16_a17))
      refine Go.dup S18 d_method_4_code_42 rfl (pc' := 43) rfl ?_
      refine Go.iconst S18 (v := 1) d_method_4_code_43 rfl (pc' := 44) rfl ?_
      refine Go.iloadN S18 d_method_4_code_44 rfl (pc' := 45) rfl ?_
      refine Go.castore S18 V18 (by decide) (i := 1) (by decide) (Nat.le_of_ble_eq_true rfl) hz17 (Or.inr hk17) d_method_4_code_45 (pc' := 46) rfl ?_
      intro T19 h19 L19 S19 W19 V19
      rw [show nar .char u0 = u0 from own_nc hu0] at V19
      replace V19 : Arv Z h19 a17 kA17 .char (3 : Int32) [(.int (91 : Int32)), (.int u0), (.int (0 : Int32))] (.int (0 : Int32)) := V19
      replace X16 := X16.wr W19
      replace F16_value := F16_value.other W19 (Or.inl (n_a16_a17))
      replace F16_coder := F16_coder.other W19 (Or.inl (n_a16_a17))
      refine Go.dup S19 d_method_4_code_46 rfl (pc' := 47) rfl ?_
      refine Go.iconst S19 (v := 2) d_method_4_code_47 rfl (pc' := 48) rfl ?_
      refine Go.bipush S19 (v := 93) d_method_4_code_48 rfl (pc' := 50) rfl ?_
      refine Go.castore S19 V19 (by decide) (i := 2) (by decide) (Nat.le_of_ble_eq_true rfl) hz17 (Or.inr hk17) d_method_4_code_50 (pc' := 51) rfl ?_
      intro T20 h20 L20 S20 W20 V20
      rw [show nar .char (93 : Int32) = (93 : Int32) from (by decide)] at V20
      replace V20 : Arv Z h20 a17 kA17 .char (3 : Int32) [(.int (91 : Int32)), (.int u0), (.int (93 : Int32))] (.int (0 : Int32)) := V20
      replace X16 := X16.wr W20
      replace F16_value := F16_value.other W20 (Or.inl (n_a16_a17))
      replace F16_coder := F16_coder.other W20 (Or.inl (n_a16_a17))
      refine Go.invokespecial S20 (y := ⟨"java/lang/String", "<init>", "([C)V"⟩) (rm_sinit hw a16 a17 kA17 [(91 : Int32), u0, (93 : Int32)] cs (by simp) (by simp) (fun z hz => by simp only [List.mem_cons, List.not_mem_nil, or_false] at hz; rcases hz with rfl | rfl | rfl <;> first | exact hu0.2 | exact hu1.2 | exact hu2.2 | decide) S20.ext hz16 X16 F16_value F16_coder (Ne.symm n_a16_a17) V20 Cs Cn) rfl rfl (wd8 hw) (wd9 hw) (wd6 hw) (wd10 hw) (by decide) d_method_4_code_51 rfl pd23 (argsL := [(.ref a17)]) rfl rfl rfl (by decide) (W := 1) rfl (by decide) (by decide) (by decide) (allS (Or.inr hk16) all0) (pc' := 54) rfl ?_
      intro v21 T21 h21 L21 S21 K21 q21
      obtain ⟨rfl, ts, kb, A, ht⟩ := q21
      replace X16 := X16.keep K21
      replace V20 := V20.keep K21 (ninS (Ne.symm n_a16_a17) nin0)
      show Go _ _ _ _ T21 (mkF m 54 #[.val (.int k), .val (.int u0), .val (.int u1), .val (.int u2)] [(.ref a16)])
      exact Go.areturn S21 rfl rfl rfl d_method_4_code_54 (by decide) (by decide) (⟨a16, ts, kb, rfl, by unfold own_nm; rw [if_neg c1, if_pos c27]; exact A⟩)
  · intro c1
    refine Go.new S (wd4 hw) (wd5 hw) (wd6 hw) d_method_4_code_4 (by decide) (by decide) (pc' := 7) rfl ?_
    intro T22 h22 a22 S22 E22 hg22 hz22 hk22 X22 D22
    have F22_value : Fld Z h22 a22 "java/lang/String" "value" "[B" .null := D22 (Or.inr (wd20 hw)) (ty := (.array .byte)) (by decide)
    have F22_coder : Fld Z h22 a22 "java/lang/String" "coder" "B" (.int (0 : Int32)) := D22 (Or.inr (wd21 hw)) (ty := .byte) (by decide)
    refine Go.dup S22 d_method_4_code_7 rfl (pc' := 8) rfl ?_
    refine Go.iconst S22 (v := 2) d_method_4_code_8 rfl (pc' := 9) rfl ?_
    refine Go.newarray S22 (ty := .char) (dv := (.int (0 : Int32))) rfl rfl (wd7 hw) d_method_4_code_9 (by decide) (cap := 2) (by decide) (by decide) (by decide) (by decide) (pc' := 11) rfl ?_
    intro T23 h23 a23 kA23 S23 E23 hg23 hz23 hk23 V23
    replace V23 : Arv Z h23 a23 kA23 .char (2 : Int32) [(.int (0 : Int32)), (.int (0 : Int32))] (.int (0 : Int32)) := V23
    have n_a22_a23 : a22 ≠ a23 := Nat.ne_of_lt (Nat.lt_of_lt_of_le X22.lt (Nat.le_of_eq hg23))
    replace X22 := X22.ext E23
    replace F22_value := F22_value.ext E23
    replace F22_coder := F22_coder.ext E23
    refine Go.dup S23 d_method_4_code_11 rfl (pc' := 12) rfl ?_
    refine Go.iconst S23 (v := 0) d_method_4_code_12 rfl (pc' := 13) rfl ?_
    refine Go.bipush S23 (v := 91) d_method_4_code_13 rfl (pc' := 15) rfl ?_
    refine Go.castore S23 V23 (by decide) (i := 0) (by decide) (Nat.le_of_ble_eq_true rfl) hz23 (Or.inr hk23) d_method_4_code_15 (pc' := 16) rfl ?_
    intro T24 h24 L24 S24 W24 V24
    rw [show nar .char (91 : Int32) = (91 : Int32) from (by decide)] at V24
    replace V24 : Arv Z h24 a23 kA23 .char (2 : Int32) [(.int (91 : Int32)), (.int (0 : Int32))] (.int (0 : Int32)) := V24
    replace X22 := X22.wr W24
    replace F22_value := F22_value.other W24 (Or.inl (n_a22_a23))
    replace F22_coder := F22_coder.other W24 (Or.inl (n_a22_a23))
    refine Go.dup S24 d_method_4_code_16 rfl (pc' := 17) rfl ?_
    refine Go.iconst S24 (v := 1) d_method_4_code_17 rfl (pc' := 18) rfl ?_
    refine Go.bipush S24 (v := 93) d_method_4_code_18 rfl (pc' := 20) rfl ?_
    refine Go.castore S24 V24 (by decide) (i := 1) (by decide) (Nat.le_of_ble_eq_true rfl) hz23 (Or.inr hk23) d_method_4_code_20 (pc' := 21) rfl ?_
    intro T25 h25 L25 S25 W25 V25
    rw [show nar .char (93 : Int32) = (93 : Int32) from (by decide)] at V25
    replace V25 : Arv Z h25 a23 kA23 .char (2 : Int32) [(.int (91 : Int32)), (.int (93 : Int32))] (.int (0 : Int32)) := V25
    replace X22 := X22.wr W25
    replace F22_value := F22_value.other W25 (Or.inl (n_a22_a23))
    replace F22_coder := F22_coder.other W25 (Or.inl (n_a22_a23))
    refine Go.invokespecial S25 (y := ⟨"java/lang/String", "<init>", "([C)V"⟩) (rm_sinit hw a22 a23 kA23 [(91 : Int32), (93 : Int32)] cs (by simp) (by simp) (fun z hz => by simp only [List.mem_cons, List.not_mem_nil, or_false] at hz; rcases hz with rfl | rfl <;> first | exact hu0.2 | exact hu1.2 | exact hu2.2 | decide) S25.ext hz22 X22 F22_value F22_coder (Ne.symm n_a22_a23) V25 Cs Cn) rfl rfl (wd8 hw) (wd9 hw) (wd6 hw) (wd10 hw) (by decide) d_method_4_code_21 rfl pd23 (argsL := [(.ref a23)]) rfl rfl rfl (by decide) (W := 1) rfl (by decide) (by decide) (by decide) (allS (Or.inr hk22) all0) (pc' := 24) rfl ?_
    intro v26 T26 h26 L26 S26 K26 q26
    obtain ⟨rfl, ts, kb, A, ht⟩ := q26
    replace X22 := X22.keep K26
    replace V25 := V25.keep K26 (ninS (Ne.symm n_a22_a23) nin0)
    show Go _ _ _ _ T26 (mkF m 24 #[.val (.int k), .val (.int u0), .val (.int u1), .val (.int u2)] [(.ref a22)])
    exact Go.areturn S26 rfl rfl rfl d_method_4_code_24 (by decide) (by decide) (⟨a22, ts, kb, rfl, by unfold own_nm; rw [if_pos c1]; exact A⟩)
theorem own_eqU (k u0 u1 u2 : Int32) : ((([] ++ [91]) ++ ((own_nm k u0 u1 u2).map own_b)) ++ [93]) = (([91] ++ own_nm k u0 u1 u2 ++ [93]).map own_b) := by
  generalize own_nm k u0 u1 u2 = w
  rw [List.map_append, List.map_append, List.map_cons, List.map_nil, List.map_cons, List.map_nil, own_b91, own_b93, List.nil_append]
set_option maxRecDepth 65536 in
set_option maxHeartbeats 4000000 in
theorem rm_code {l : Launch} {Z : State} {a0 : Array Value} (hw : HW Z a0) (zl : Int32) (z0 : Int32) (z1 : Int32) (z2 : Int32) (cs : Int32) {h0 : Heap} (hE : Ext Z.heap h0) (Cs : Sta Z Z.heap "java/lang/String" "COMPACT_STRINGS" "Z" (.int cs)) (Cn : ¬ cs = 0) (hh : Jvm.Lit.constHeld Z "java/lang/String" 7) (hcw : Jvm.Lit.compactW.before a0 Z = true) (hh47 : Jvm.Lit.constHeld Z "com/example/tukda/tukda/cli/Command$Option" 47) (hh49 : Jvm.Lit.constHeld Z "com/example/tukda/tukda/cli/Command$Option" 49) :
    OMeetsW l Z x code maxLocals ret room_1 #[(.int zl), (.int z0), (.int z1), (.int z2)] h0 [] (fun vm => IB Z vm []) (fun v h vm => v = some (.int 1)) := by
  refine OMeetsW.body (plainFor_of_name pn7) hE #[.val (.int zl), .val (.int z0), .val (.int z1), .val (.int z2), .unset, .unset, .unset, .unset, .unset, .unset, .unset] (fun m => by first | (simp [entryFrame, mkF, argsToLocals, Value.category, maxLocals]; done) | rfl) ?_
  intro p e s m below meth co T S hvp hsh
  have N := Sn.start s h0.size
  have hn : h0.size ≤ h0.size := Nat.le_refl _
  refine Go.iloadN S at_0 rfl (pc' := 1) rfl ?_
  refine Go.iconst S (v := 3) at_1 rfl (pc' := 2) rfl ?_
  refine Go.iand S at_2 (pc' := 3) rfl ?_
  refine Go.istore S at_3 (Ls' := #[.val (.int zl), .val (.int z0), .val (.int z1), .val (.int z2), .val (.int (zl &&& (3 : Int32))), .unset, .unset, .unset, .unset, .unset, .unset]) rfl (pc' := 5) rfl ?_
  generalize h_k : (zl &&& (3 : Int32)) = k
  refine Go.iloadN S at_5 rfl (pc' := 6) rfl ?_
  refine Go.sipush S (v := 255) at_6 rfl (pc' := 9) rfl ?_
  refine Go.iand S at_9 (pc' := 10) rfl ?_
  refine Go.i2c S at_10 (pc' := 11) rfl ?_
  refine Go.istore S at_11 (Ls' := #[.val (.int zl), .val (.int z0), .val (.int z1), .val (.int z2), .val (.int k), .val (.int ((z0 &&& (255 : Int32)).toUInt32.toUInt16.toUInt32.toInt32)), .unset, .unset, .unset, .unset, .unset]) rfl (pc' := 13) rfl ?_
  generalize h_u0 : ((z0 &&& (255 : Int32)).toUInt32.toUInt16.toUInt32.toInt32) = u0
  refine Go.iloadN S at_13 rfl (pc' := 14) rfl ?_
  refine Go.sipush S (v := 255) at_14 rfl (pc' := 17) rfl ?_
  refine Go.iand S at_17 (pc' := 18) rfl ?_
  refine Go.i2c S at_18 (pc' := 19) rfl ?_
  refine Go.istore S at_19 (Ls' := #[.val (.int zl), .val (.int z0), .val (.int z1), .val (.int z2), .val (.int k), .val (.int u0), .val (.int ((z1 &&& (255 : Int32)).toUInt32.toUInt16.toUInt32.toInt32)), .unset, .unset, .unset, .unset]) rfl (pc' := 21) rfl ?_
  generalize h_u1 : ((z1 &&& (255 : Int32)).toUInt32.toUInt16.toUInt32.toInt32) = u1
  refine Go.iloadN S at_21 rfl (pc' := 22) rfl ?_
  refine Go.sipush S (v := 255) at_22 rfl (pc' := 25) rfl ?_
  refine Go.iand S at_25 (pc' := 26) rfl ?_
  refine Go.i2c S at_26 (pc' := 27) rfl ?_
  refine Go.istore S at_27 (Ls' := #[.val (.int zl), .val (.int z0), .val (.int z1), .val (.int z2), .val (.int k), .val (.int u0), .val (.int u1), .val (.int ((z2 &&& (255 : Int32)).toUInt32.toUInt16.toUInt32.toInt32)), .unset, .unset, .unset]) rfl (pc' := 29) rfl ?_
  generalize h_u2 : ((z2 &&& (255 : Int32)).toUInt32.toUInt16.toUInt32.toInt32) = u2
  have hu0 := own_cc z0
  rw [h_u0] at hu0
  have hu1 := own_cc z1
  rw [h_u1] at hu1
  have hu2 := own_cc z2
  rw [h_u2] at hu2
  refine Go.iload S at_29 rfl (pc' := 31) rfl ?_
  refine Go.iload S at_31 rfl (pc' := 33) rfl ?_
  refine Go.iload S at_33 rfl (pc' := 35) rfl ?_
  refine Go.iload S at_35 rfl (pc' := 37) rfl ?_
  refine Go.invokestaticW S (y := ⟨"com/example/tukda/tukda/cli/OptionFlagPinLaw", "plain", "(ICCC)Ljava/lang/String;"⟩) (rm_plain hw k u0 u1 u2 cs S.ext hu0 hu1 hu2 Cs Cn hh hcw) N hn (fun vm hv => IB.warm hvp hv) (wd0 hw) (wd1 hw) (wd2 hw) (wd3 hw) (by decide) at_37 rfl pd24 (argsL := [(.int k), (.int u0), (.int u1), (.int u2)]) rfl rfl rfl (by decide) (W := 0) rfl (by decide) (by decide) (by decide) all0 (pc' := 40) rfl ?_
  intro v1 sb1 T1 h1 L1 S1 N1 K1 q1
  obtain ⟨⟨nm, tn, kn, rfl, An⟩, I1⟩ := q1
  replace hn : h1.size ≤ h1.size := Nat.le_refl _
  show Go _ _ _ _ T1 (mkF m 40 #[.val (.int zl), .val (.int z0), .val (.int z1), .val (.int z2), .val (.int k), .val (.int u0), .val (.int u1), .val (.int u2), .unset, .unset, .unset] [(.ref nm)])
  refine Go.astore S1 at_40 rfl (Ls' := #[.val (.int zl), .val (.int z0), .val (.int z1), .val (.int z2), .val (.int k), .val (.int u0), .val (.int u1), .val (.int u2), .val (.ref nm), .unset, .unset]) rfl (pc' := 42) rfl ?_
  refine Go.iload S1 at_42 rfl (pc' := 44) rfl ?_
  refine Go.iload S1 at_44 rfl (pc' := 46) rfl ?_
  refine Go.iload S1 at_46 rfl (pc' := 48) rfl ?_
  refine Go.iload S1 at_48 rfl (pc' := 50) rfl ?_
  refine Go.invokestatic S1 (y := ⟨"com/example/tukda/tukda/cli/OptionFlagPinLaw", "bracketed", "(ICCC)Ljava/lang/String;"⟩) (rm_brk hw k u0 u1 u2 cs S1.ext hu0 hu1 hu2 Cs Cn) (wd26 hw) (wd27 hw) (wd2 hw) (wd28 hw) (by decide) at_50 rfl pd24 (argsL := [(.int k), (.int u0), (.int u1), (.int u2)]) rfl rfl rfl (by decide) (W := 0) rfl (by decide) (by decide) (by decide) all0 (pc' := 53) rfl ?_
  intro v2 T2 h2 L2 S2 K2 q2
  obtain ⟨ex, te, ke, rfl, Ae⟩ := q2
  replace hn := Nat.le_trans hn K2.1
  replace An := An.keep K2 nin0 nin0
  show Go _ _ _ _ T2 (mkF m 53 #[.val (.int zl), .val (.int z0), .val (.int z1), .val (.int z2), .val (.int k), .val (.int u0), .val (.int u1), .val (.int u2), .val (.ref nm), .unset, .unset] [(.ref ex)])
  refine Go.astore S2 at_53 rfl (Ls' := #[.val (.int zl), .val (.int z0), .val (.int z1), .val (.int z2), .val (.int k), .val (.int u0), .val (.int u1), .val (.int u2), .val (.ref nm), .val (.ref ex), .unset]) rfl (pc' := 55) rfl ?_
  refine Go.aload S2 at_55 rfl rfl (pc' := 57) rfl ?_
  refine Go.invokestatic S2 (y := ⟨"com/example/tukda/tukda/cli/Command$Option", "flag", "(Ljava/lang/String;)Lcom/example/tukda/tukda/cli/Command$Option;"⟩) (rm_makeN hw nm S2.ext) (wd40 hw) (wd41 hw) (wd42 hw) (wd43 hw) (by decide) at_57 rfl pd25 (argsL := [(.ref nm)]) rfl rfl rfl (by decide) (W := 0) rfl (by decide) (by decide) (by decide) all0 (pc' := 60) rfl ?_
  intro v3 T3 h3 L3 S3 K3 q3
  obtain ⟨r, rfl, E, F_name, F_placeholder, F_required, F_repeated⟩ := q3
  replace hn := Nat.le_trans hn K3.1
  replace An := An.keep K3 nin0 nin0
  replace Ae := Ae.keep K3 nin0 nin0
  show Go _ _ _ _ T3 (mkF m 60 #[.val (.int zl), .val (.int z0), .val (.int z1), .val (.int z2), .val (.int k), .val (.int u0), .val (.int u1), .val (.int u2), .val (.ref nm), .val (.ref ex), .unset] [(.ref r)])
  refine Go.astore S3 at_60 rfl (Ls' := #[.val (.int zl), .val (.int z0), .val (.int z1), .val (.int z2), .val (.int k), .val (.int u0), .val (.int u1), .val (.int u2), .val (.ref nm), .val (.ref ex), .val (.ref r)]) rfl (pc' := 62) rfl ?_
  refine Go.aload S3 at_62 rfl rfl (pc' := 64) rfl ?_
  refine Go.ifnonnullY S3 at_64 (pt := 69) (by decide) ?_
  refine Go.aload S3 at_69 rfl rfl (pc' := 71) rfl ?_
  refine Go.invokevirtual S3 (y := ⟨"com/example/tukda/tukda/cli/Command$Option", "name", "()Ljava/lang/String;"⟩) (rm_oname hw r nm S3.ext F_name) (wd58 hw) (wd59 hw) (S3.nf (wd61 hw)) (wd61 hw) (wd60 hw) (wd42 hw) (wd62 hw) (by decide) E at_71 rfl pd22 (argsL := []) rfl rfl rfl (by decide) (W := 0) rfl (by decide) (by decide) (by decide) all0 (pc' := 74) rfl ?_
  intro v4 T4 h4 L4 S4 K4 q4
  obtain ⟨rfl, rfl⟩ := q4
  show Go _ _ _ _ T4 (mkF m 74 #[.val (.int zl), .val (.int z0), .val (.int z1), .val (.int z2), .val (.int k), .val (.int u0), .val (.int u1), .val (.int u2), .val (.ref nm), .val (.ref ex), .val (.ref r)] [(.ref nm)])
  refine Go.aload S4 at_74 rfl rfl (pc' := 76) rfl ?_
  refine Go.invokevirtual S4 (y := ⟨"java/lang/String", "equals", "(Ljava/lang/Object;)Z"⟩) (rm_streq hw nm nm tn tn kn kn ((own_nm k u0 u1 u2).map own_b) ((own_nm k u0 u1 u2).map own_b) cs S4.ext An An Cs Cn) (wd63 hw) (wd64 hw) (S4.nf (wd66 hw)) (wd66 hw) (wd65 hw) (wd6 hw) (wd67 hw) (by decide) An.1 at_76 rfl pd26 (argsL := [(.ref nm)]) rfl rfl rfl (by decide) (W := 0) rfl (by decide) (by decide) (by decide) all0 (pc' := 79) rfl ?_
  intro v5 T5 h5 L5 S5 K5 q5
  rw [if_pos rfl] at q5
  obtain ⟨rfl, rfl⟩ := q5
  show Go _ _ _ _ T5 (mkF m 79 #[.val (.int zl), .val (.int z0), .val (.int z1), .val (.int z2), .val (.int k), .val (.int u0), .val (.int u1), .val (.int u2), .val (.ref nm), .val (.ref ex), .val (.ref r)] [(.int (1 : Int32))])
  refine Go.if_eq S5 at_79 (pt := 123) (by decide) (pc' := 82) rfl ?_ ?_
  · intro c79; exact absurd c79 (by decide)
  · intro c79
    refine Go.aload S5 at_82 rfl rfl (pc' := 84) rfl ?_
    refine Go.invokevirtual S5 (y := ⟨"com/example/tukda/tukda/cli/Command$Option", "takesValue", "()Z"⟩) (rm_takesN hw r S5.ext F_placeholder) (wd68 hw) (wd69 hw) (S5.nf (wd71 hw)) (wd71 hw) (wd70 hw) (wd42 hw) (wd72 hw) (by decide) E at_84 rfl pd16 (argsL := []) rfl rfl rfl (by decide) (W := 0) rfl (by decide) (by decide) (by decide) all0 (pc' := 87) rfl ?_
    intro v6 T6 h6 L6 S6 K6 q6
    obtain ⟨rfl, rfl⟩ := q6
    show Go _ _ _ _ T6 (mkF m 87 #[.val (.int zl), .val (.int z0), .val (.int z1), .val (.int z2), .val (.int k), .val (.int u0), .val (.int u1), .val (.int u2), .val (.ref nm), .val (.ref ex), .val (.ref r)] [(.int (0 : Int32))])
    refine Go.if_ne S6 at_87 (pt := 123) (by decide) (pc' := 90) rfl ?_ ?_
    · intro c87; exact absurd (by decide) c87
    · intro c87
      refine Go.aload S6 at_90 rfl rfl (pc' := 92) rfl ?_
      refine Go.invokevirtual S6 (y := ⟨"com/example/tukda/tukda/cli/Command$Option", "isRequired", "()Z"⟩) (rm_orequired hw r S6.ext F_required) (wd73 hw) (wd74 hw) (S6.nf (wd76 hw)) (wd76 hw) (wd75 hw) (wd42 hw) (wd77 hw) (by decide) E at_92 rfl pd16 (argsL := []) rfl rfl rfl (by decide) (W := 0) rfl (by decide) (by decide) (by decide) all0 (pc' := 95) rfl ?_
      intro v7 T7 h7 L7 S7 K7 q7
      obtain ⟨rfl, rfl⟩ := q7
      show Go _ _ _ _ T7 (mkF m 95 #[.val (.int zl), .val (.int z0), .val (.int z1), .val (.int z2), .val (.int k), .val (.int u0), .val (.int u1), .val (.int u2), .val (.ref nm), .val (.ref ex), .val (.ref r)] [(.int (0 : Int32))])
      refine Go.if_ne S7 at_95 (pt := 123) (by decide) (pc' := 98) rfl ?_ ?_
      · intro c95; exact absurd (by decide) c95
      · intro c95
        refine Go.aload S7 at_98 rfl rfl (pc' := 100) rfl ?_
        refine Go.invokevirtual S7 (y := ⟨"com/example/tukda/tukda/cli/Command$Option", "isRepeated", "()Z"⟩) (rm_orepeated hw r S7.ext F_repeated) (wd78 hw) (wd79 hw) (S7.nf (wd81 hw)) (wd81 hw) (wd80 hw) (wd42 hw) (wd82 hw) (by decide) E at_100 rfl pd16 (argsL := []) rfl rfl rfl (by decide) (W := 0) rfl (by decide) (by decide) (by decide) all0 (pc' := 103) rfl ?_
        intro v8 T8 h8 L8 S8 K8 q8
        obtain ⟨rfl, rfl⟩ := q8
        show Go _ _ _ _ T8 (mkF m 103 #[.val (.int zl), .val (.int z0), .val (.int z1), .val (.int z2), .val (.int k), .val (.int u0), .val (.int u1), .val (.int u2), .val (.ref nm), .val (.ref ex), .val (.ref r)] [(.int (0 : Int32))])
        refine Go.if_ne S8 at_103 (pt := 123) (by decide) (pc' := 106) rfl ?_ ?_
        · intro c103; exact absurd (by decide) c103
        · intro c103
          refine Go.aload S8 at_106 rfl rfl (pc' := 108) rfl ?_
          refine Go.invokevirtualW S8 (y := ⟨"com/example/tukda/tukda/cli/Command$Option", "usage", "()Ljava/lang/String;"⟩) (rm_usageN hw r nm tn kn ((own_nm k u0 u1 u2).map own_b) cs [""] S8.ext E F_name F_placeholder F_required F_repeated An (own_nm3 k u0 u1 u2) Cs Cn hh47 hh49 hcw (by simp) (by simp) (by simp)) N1 hn (fun vm hv => IB.warm (sb := sb1) I1 hv) (wd83 hw) (wd84 hw) (S8.nf (wd86 hw)) (wd86 hw) (wd85 hw) (wd42 hw) (wd87 hw) (by decide) E at_108 rfl pd22 (argsL := []) rfl rfl rfl (by decide) (W := 0) rfl (by decide) (by decide) (by decide) all0 (pc' := 111) rfl ?_
          intro v9 sb9 T9 h9 L9 S9 N9 K9 q9
          obtain ⟨uq, ut, uk, rfl, Au⟩ := q9
          replace An := An.keep K9 nin0 nin0
          replace Ae := Ae.keep K9 nin0 nin0
          replace E := E.keep K9
          replace F_name := F_name.keep K9 nin0
          replace F_placeholder := F_placeholder.keep K9 nin0
          replace F_required := F_required.keep K9 nin0
          replace F_repeated := F_repeated.keep K9 nin0
          replace hn : h9.size ≤ h9.size := Nat.le_refl _
          show Go _ _ _ _ T9 (mkF m 111 #[.val (.int zl), .val (.int z0), .val (.int z1), .val (.int z2), .val (.int k), .val (.int u0), .val (.int u1), .val (.int u2), .val (.ref nm), .val (.ref ex), .val (.ref r)] [(.ref uq)])
          obtain ⟨W, hW⟩ : ∃ W, W = ((([] ++ [91]) ++ ((own_nm k u0 u1 u2).map own_b)) ++ [93]) := ⟨_, rfl⟩
          rw [← hW] at Au
          rw [← own_eqU, ← hW] at Ae
          refine Go.aload S9 at_111 rfl rfl (pc' := 113) rfl ?_
          refine Go.invokevirtual S9 (y := ⟨"java/lang/String", "equals", "(Ljava/lang/Object;)Z"⟩) (rm_streq hw uq ex ut te uk ke W W cs S9.ext Au Ae Cs Cn) (wd63 hw) (wd64 hw) (S9.nf (wd66 hw)) (wd66 hw) (wd65 hw) (wd6 hw) (wd67 hw) (by decide) Au.1 at_113 rfl pd26 (argsL := [(.ref ex)]) rfl rfl rfl (by decide) (W := 0) rfl (by decide) (by decide) (by decide) all0 (pc' := 116) rfl ?_
          intro v10 T10 h10 L10 S10 K10 q10
          rw [if_pos rfl] at q10
          obtain ⟨rfl, rfl⟩ := q10
          show Go _ _ _ _ T10 (mkF m 116 #[.val (.int zl), .val (.int z0), .val (.int z1), .val (.int z2), .val (.int k), .val (.int u0), .val (.int u1), .val (.int u2), .val (.ref nm), .val (.ref ex), .val (.ref r)] [(.int (1 : Int32))])
          refine Go.if_eq S10 at_116 (pt := 123) (by decide) (pc' := 119) rfl ?_ ?_
          · intro c116; exact absurd c116 (by decide)
          · intro c116
            refine Go.iconst S10 (v := 1) at_119 rfl (pc' := 120) rfl ?_
            refine Go.goto S10 at_120 (pc' := 124) (by decide) ?_
            exact Go.zreturnW S10 N9 hn rfl (by decide) at_124 (z' := (1 : Int32)) rfl (by decide) (by decide) (rfl)
set_option maxRecDepth 65536 in
set_option maxHeartbeats 4000000 in
theorem comes_1 {Post : Tables → Env → Array Value → State → Outcome → State → Prop} (hpost : ∀ tb e args s v u, (limb_1_1.after args s (.returned v) u = true ∧ limb_1_2.after args s (.returned v) u = true ∧ True) → Jvm.Pilot.@@N@@.Jvm.D.FramedW s (.returned v) u (Jvm.fieldLocs frame_1_writes args s ++ Jvm.arrayLocs frame_1_arrays args s ++ Jvm.staticLocs frame_1_statics s) 40 3264 → Post tb e args s (.returned v) u) :
    ArmFor flags0 classFile x code maxLocals ret World_1 tables_1 room_1 Calls_1 rest_1 Pre_1 Post := by
  intro l hfl _ _ p e ha hc hk s m args below hf hA hF happ hP
  obtain ⟨hcalls, hrest, hpre⟩ := hP
  obtain ⟨-, -, -, hnamed, -, -, -, hat⟩ := (Spec.applies_iff hf).mp happ
  obtain ⟨hg, hn⟩ := and_e (Cond.before_iff.mp (show (Jvm.Cond.and given_1 narrow_1).before args s = true from hpre))
  obtain ⟨g1a, g1b⟩ := and_e hg
  obtain ⟨g2a, g2b⟩ := and_e g1b
  obtain ⟨g3a, g3b⟩ := and_e g2b
  obtain ⟨g4a, g4b⟩ := and_e g3b
  obtain ⟨w0, w1, w2, w3, rfl⟩ : ∃ w0 w1 w2 w3 : Value, args = #[w0, w1, w2, w3] := by
    have hs : args.size = 4 := by simpa [Cond.value, given_1] using g1a
    obtain ⟨L⟩ := args
    match L, hs with
    | [w0, w1, w2, w3], _ => exact ⟨w0, w1, w2, w3, rfl⟩
  have hw : HW s _ := fun d (hd : d ∈ tables_1) => atoms_spec (ws := Jvm.Cond.code x code maxLocals ret :: tables_1) hat d (List.mem_cons_of_mem _ hd)
  have hfit : Fit s := fun {y c} hc i hi => by
    obtain ⟨ha, rfl⟩ := Array.getElem?_eq_some_iff.mp hc
    have q := List.all_eq_true.mp ((Array.all_eq_true_iff_forall_mem.mp hF) _ (Array.getElem_mem ha)) i (List.mem_range.mpr hi)
    simpa [Array.getElem?_eq_getElem hi] using q
  obtain ⟨i0, ei0⟩ := is_v g2a
  obtain rfl : w0 = (.int i0) := Option.some.inj ei0
  obtain ⟨i1, ei1⟩ := is_v g3a
  obtain rfl : w1 = (.int i1) := Option.some.inj ei1
  obtain ⟨i2, ei2⟩ := is_v g4a
  obtain rfl : w2 = (.int i2) := Option.some.inj ei2
  obtain ⟨i3, ei3⟩ := is_v g4b
  obtain rfl : w3 = (.int i3) := Option.some.inj ei3
  obtain ⟨hsets, -⟩ := atoms_of _ (rest_1_c_eq ▸ (show rest_1_c.before _ s = true from hrest))
  obtain ⟨cs, evc⟩ := is_v (Cond.before_iff.mp (hsets _ (List.mem_of_getElem? (i := 1) rfl)))
  have Cs : Sta s s.heap "java/lang/String" "COMPACT_STRINGS" "Z" (.int cs) := Sta.start evc (Or.inl (hsets _ (List.mem_of_getElem? (i := 0) rfl)))
  have Cn : ¬ cs = 0 := fun q => by
    have z := not_v (Cond.before_iff.mp (hsets _ (List.mem_of_getElem? (i := 2) rfl)))
    have y := eq_i evc (Term.int_eval (0 : Int32)) (congrArg Value.int q)
    exact absurd (y.symm.trans z) (by decide)
  have hcw : Jvm.Lit.compactW.before _ s = true := hsets _ (List.mem_of_getElem? (i := 2) rfl)
  have hh : Jvm.Lit.constHeld s "java/lang/String" 7 := hcalls.1 ("java/lang/String", 7) (by simp [consts_1])
  have hh47 : Jvm.Lit.constHeld s "com/example/tukda/tukda/cli/Command$Option" 47 := hcalls.1 ("com/example/tukda/tukda/cli/Command$Option", 47) (by simp [consts_1])
  have hh49 : Jvm.Lit.constHeld s "com/example/tukda/tukda/cli/Command$Option" 49 := hcalls.1 ("com/example/tukda/tukda/cli/Command$Option", 49) (by simp [consts_1])
  obtain ⟨n, o, h1, h2, h3, _, L, rfl, ⟨N, -, -, rfl⟩, hq⟩ := rm_code (l := l) hw i0 i1 i2 i3 cs (h0 := s.heap) ⟨Nat.le_refl _, fun _ _ q => q⟩ Cs Cn hh hcw hh47 hh49 tables_1 p e ha hc hk s m _ below hf ((Spec.applies_iff_loose hf).mp happ).1 ⟨rfl, State.Warmed39.refl s, rfl, IB.start⟩ trivial
  refine ⟨n, _, h1, h2, h3, hpost _ _ _ _ _ _ ⟨Cond.after_iff.mpr rfl, Cond.after_iff.mpr (eq_i res_at (Term.int_eval (1)) rfl), trivial⟩ ⟨hq.1, hq.2.1, hq.2.2.1, (hq.2.2.2.sift fun y hy => Or.inr (N y hy)).mono (by decide) (by decide)⟩⟩
theorem main_1_1 : Claimed_1_1 := comes_1 fun _ _ _ _ _ _ h hF => ⟨h.1, hF⟩
theorem main_1_2 : Claimed_1_2 := comes_1 fun _ _ _ _ _ _ h hF => ⟨h.2.1, hF⟩
end Jvm.Pilot.@@N@@
namespace Jvm.Pilot.@@N@@
open Jvm Jvm.ClassFile Sem Op Lib Jvm.Free Jvm.Stand Jvm.Pilot.@@N@@.Jvm.D
/-! MADE BY PROGRAM (witnessworld.py) out of the Statement's table words and the real class files: 24 classes; the members and pool entries that the words name. The judged class is class 1, her method 1. -/
namespace start1
open Jvm.ClassFile
def u (s : String) : CpInfo := .utf8 (stringToUtf16 s)
/-- a pool by its gaps: so many unusable entries, then the entry; so many at the end -/
def gap : Nat → List CpInfo → List CpInfo
  | 0, r => r
  | n + 1, r => .unusable :: gap n r
def poolList (es : List (Nat × CpInfo)) (last : Nat) : List CpInfo := es.foldr (fun e r => gap e.1 (e.2 :: r)) (gap last [])
def pool (es : List (Nat × CpInfo)) (last : Nat) : Array CpInfo := ⟨poolList es last⟩
def fileOf (pool : Array CpInfo) (this : Nat) (attrs : Array Attribute := #[]) (ms : Array MethodInfo := #[]) (fl : Nat := 33) (sup : Nat := 0) (ifs : Array Nat := #[]) (fds : Array FieldInfo := #[]) : ClassFile where
  minorVersion := 0
  majorVersion := 65
  constantPool := pool
  accessFlags := fl
  thisClass := this
  superClass := sup
  interfaces := ifs
  fields := fds
  methods := ms
  attributes := attrs
def plain (name : String) (sup : Option ClassId) : Class where
  name := name
  kind := .ordinary
  loader := none
  accessFlags := 33
  super := sup
  interfaces := #[]
  cf := none
  fields := #[]
  methods := #[]
  instanceTypes := #[]
  staticTypes := #[]
  resolved := #[]
  callSites := []
  init := .initialized
  statics := none
  mirror := none

def pool0 : Array CpInfo := pool [(5, u "<init>"), (0, u "()V"), (1, .class_ 10), (1, u "java/lang/Object")] 113

def k0c0 : Code := { maxStack := 0, maxLocals := 1, code := object_method_1_code, exceptionTable := #[], attributes := #[] }
def k0m0 : Method := { name := "<init>", desc := "()V", sig := { parameters := [], returnType := none }, accessFlags := 1, code := some k0c0 }
/-- java/lang/Object -/
def k0 : Class := { plain "java/lang/Object" none with
  accessFlags := 33
  interfaces := #[]
  cf := some (fileOf pool0 8 #[] #[{ accessFlags := 1, nameIndex := 5, descriptorIndex := 6, attributes := #[] }] 33 0 #[] #[])
  fields := #[]
  methods := #[k0m0]
  instanceTypes := #[]
  staticTypes := #[]
  resolved := Array.replicate 124 none
  statics := none }

def pool1 : Array CpInfo := pool [(2, .class_ 4), (1, u "java/lang/Object"), (0, u "<init>"), (0, u "()V"), (0, .methodref 8 9), (0, .class_ 10), (0, .nameAndType 11 12), (0, u "com/example/tukda/tukda/cli/OptionFlagPinLaw"), (0, u "plain"), (0, u "(ICCC)Ljava/lang/String;"), (0, .methodref 8 14), (0, .nameAndType 15 12), (0, u "bracketed"), (0, .methodref 17 18), (0, .class_ 19), (0, .nameAndType 20 21), (0, u "com/example/tukda/tukda/cli/Command$Option"), (0, u "flag"), (0, u "(Ljava/lang/String;)Lcom/example/tukda/tukda/cli/Command$Option;"), (0, .methodref 17 23), (0, .nameAndType 24 25), (0, u "name"), (0, u "()Ljava/lang/String;"), (0, .methodref 27 28), (0, .class_ 29), (0, .nameAndType 30 31), (0, u "java/lang/String"), (0, u "equals"), (0, u "(Ljava/lang/Object;)Z"), (0, .methodref 17 33), (0, .nameAndType 34 35), (0, u "takesValue"), (0, u "()Z"), (0, .methodref 17 37), (0, .nameAndType 38 35), (0, u "isRequired"), (0, .methodref 17 40), (0, .nameAndType 41 35), (0, u "isRepeated"), (0, .methodref 17 43), (0, .nameAndType 44 25), (0, u "usage"), (0, .methodref 27 46), (0, .nameAndType 5 47), (0, u "([C)V"), (2, u "law"), (0, u "(IIII)Z")] 7

def k1m0 : Method := { name := "<init>", desc := "()V", sig := { parameters := [], returnType := none }, accessFlags := 1, code := none }
def k1c1 : Code := { maxStack := 4, maxLocals := 11, code := code, exceptionTable := #[], attributes := #[] }
def k1m1 : Method := { name := "law", desc := "(IIII)Z", sig := { parameters := [.int, .int, .int, .int], returnType := some .boolean }, accessFlags := 9, code := some k1c1 }
def k1c2 : Code := { maxStack := 6, maxLocals := 4, code := method_3_code, exceptionTable := #[], attributes := #[] }
def k1m2 : Method := { name := "plain", desc := "(ICCC)Ljava/lang/String;", sig := { parameters := [.int, .char, .char, .char], returnType := some (.object "java/lang/String") }, accessFlags := 10, code := some k1c2 }
def k1c3 : Code := { maxStack := 6, maxLocals := 4, code := method_4_code, exceptionTable := #[], attributes := #[] }
def k1m3 : Method := { name := "bracketed", desc := "(ICCC)Ljava/lang/String;", sig := { parameters := [.int, .char, .char, .char], returnType := some (.object "java/lang/String") }, accessFlags := 10, code := some k1c3 }
/-- com/example/tukda/tukda/cli/OptionFlagPinLaw -/
def k1 : Class := { plain "com/example/tukda/tukda/cli/OptionFlagPinLaw" (some 0) with
  accessFlags := 49
  interfaces := #[]
  cf := some (fileOf pool1 8 #[] #[{ accessFlags := 1, nameIndex := 5, descriptorIndex := 6, attributes := #[] }, { accessFlags := 9, nameIndex := 50, descriptorIndex := 51, attributes := #[] }, { accessFlags := 10, nameIndex := 11, descriptorIndex := 12, attributes := #[] }, { accessFlags := 10, nameIndex := 15, descriptorIndex := 12, attributes := #[] }] 49 2 #[] #[])
  fields := #[]
  methods := #[k1m0, k1m1, k1m2, k1m3]
  instanceTypes := #[]
  staticTypes := #[]
  resolved := Array.replicate 59 none
  statics := none }

def pool2 : Array CpInfo := pool [(1, .class_ 2), (0, u "java/io/Serializable"), (0, .class_ 4), (0, u "java/lang/Object")] 2

/-- java/io/Serializable -/
def k2 : Class := { plain "java/io/Serializable" (some 0) with
  accessFlags := 1537
  interfaces := #[]
  cf := some (fileOf pool2 1 #[] #[] 1537 3 #[] #[])
  fields := #[]
  methods := #[]
  instanceTypes := #[]
  staticTypes := #[]
  resolved := Array.replicate 7 none
  statics := none }

def pool3 : Array CpInfo := pool [(1, .class_ 2), (0, u "java/lang/Comparable"), (0, .class_ 4), (0, u "java/lang/Object")] 7

/-- java/lang/Comparable -/
def k3 : Class := { plain "java/lang/Comparable" (some 0) with
  accessFlags := 1537
  interfaces := #[]
  cf := some (fileOf pool3 1 #[] #[] 1537 3 #[] #[])
  fields := #[]
  methods := #[]
  instanceTypes := #[]
  staticTypes := #[]
  resolved := Array.replicate 12 none
  statics := none }

def pool4 : Array CpInfo := pool [(2, .class_ 4), (1, u "java/lang/CharSequence"), (42, .class_ 48), (0, u "java/lang/CharSequence$1CodePointIterator"), (10, .class_ 60), (0, u "java/lang/CharSequence$1CharIterator"), (5, .class_ 67), (0, u "java/lang/Object")] 63

/-- java/lang/CharSequence -/
def k4 : Class := { plain "java/lang/CharSequence" (some 0) with
  accessFlags := 1537
  interfaces := #[]
  cf := some (fileOf pool4 2 #[.nestMembers #[47, 59]] #[] 1537 66 #[] #[])
  fields := #[]
  methods := #[]
  instanceTypes := #[]
  staticTypes := #[]
  resolved := Array.replicate 131 none
  statics := none }

def pool5 : Array CpInfo := pool [(1, .class_ 2), (0, u "java/lang/constant/Constable"), (0, .class_ 4), (0, u "java/lang/Object")] 6

/-- java/lang/constant/Constable -/
def k5 : Class := { plain "java/lang/constant/Constable" (some 0) with
  accessFlags := 1537
  interfaces := #[]
  cf := some (fileOf pool5 1 #[] #[] 1537 3 #[] #[])
  fields := #[]
  methods := #[]
  instanceTypes := #[]
  staticTypes := #[]
  resolved := Array.replicate 11 none
  statics := none }

def pool6 : Array CpInfo := pool [(1, .class_ 2), (0, u "java/lang/constant/ConstantDesc"), (0, .class_ 4), (0, u "java/lang/Object")] 32

/-- java/lang/constant/ConstantDesc -/
def k6 : Class := { plain "java/lang/constant/ConstantDesc" (some 0) with
  accessFlags := 1537
  interfaces := #[]
  cf := some (fileOf pool6 1 #[] #[] 1537 3 #[] #[])
  fields := #[]
  methods := #[]
  instanceTypes := #[]
  staticTypes := #[]
  resolved := Array.replicate 37 none
  statics := none }

def pool7 : Array CpInfo := pool [(1, .methodref 2 3), (0, .class_ 4), (0, .nameAndType 5 6), (0, u "java/lang/Object"), (0, u "<init>"), (0, u "()V"), (0, .string 8), (0, u ""), (0, .fieldref 10 11), (0, .class_ 12), (0, .nameAndType 13 14), (0, u "java/lang/String"), (0, u "value"), (0, u "[B"), (0, .fieldref 10 16), (0, .nameAndType 17 18), (0, u "coder"), (0, u "B"), (2, u "hash"), (0, u "I"), (2, u "hashIsZero"), (0, u "Z"), (0, .methodref 10 28), (0, .nameAndType 5 29), (0, u "([CIILjava/lang/Void;)V"), (8, .fieldref 10 39), (0, .nameAndType 40 26), (0, u "COMPACT_STRINGS"), (1, .class_ 44), (1, u "java/lang/StringUTF16"), (0, u "compress"), (1, .methodref 42 48), (0, .nameAndType 49 50), (0, u "coderFromArrayLen"), (0, u "([BI)B"), (3, .methodref 55 56), (0, .class_ 57), (0, .nameAndType 58 59), (0, u "java/util/Arrays"), (0, u "copyOfRange"), (0, u "([BII)[B"), (47, .class_ 109), (1, u "java/lang/StringLatin1"), (32, u "()Z"), (34, .methodref 42 178), (0, .nameAndType 45 179), (0, u "([CII)[B"), (13, .class_ 195), (1, u "java/lang/System"), (16, .methodref 193 213), (0, .nameAndType 214 215), (0, u "arraycopy"), (0, u "(Ljava/lang/Object;ILjava/lang/Object;II)V"), (118, u "()I"), (0, .methodref 10 336), (0, .nameAndType 17 337), (0, u "()B"), (2, u "()[B"), (148, .methodref 10 490), (0, .nameAndType 5 491), (0, u "(Ljava/lang/AbstractStringBuilder;Ljava/lang/Void;)V"), (1, .nameAndType 494 142), (0, u "isLatin1"), (11, .nameAndType 507 334), (0, u "length"), (24, u "getBytes"), (8, .methodref 107 542), (0, .nameAndType 543 544), (0, u "equals"), (0, u "([B[B)Z"), (4, .methodref 550 506), (0, .class_ 551), (0, u "java/lang/AbstractStringBuilder"), (0, .methodref 550 553), (0, .nameAndType 554 340), (0, u "getValue"), (18, u "(Ljava/lang/Object;)Z"), (1, .class_ 576), (0, u "java/lang/CharSequence"), (22, u "CASE_INSENSITIVE_ORDER"), (0, u "Ljava/util/Comparator;"), (220, u "([BIB)V"), (188, u "([C)V"), (36, .methodref 550 493), (53, u "serialPersistentFields"), (0, u "[Ljava/io/ObjectStreamField;"), (0, .class_ 1104), (0, u "java/lang/String$CaseInsensitiveComparator"), (1, .class_ 1107), (0, u "java/io/Serializable"), (0, .class_ 1109), (0, u "java/lang/Comparable"), (0, .class_ 1111), (0, u "java/lang/constant/Constable"), (0, .class_ 1113), (0, u "java/lang/constant/ConstantDesc"), (2, u "serialVersionUID"), (0, u "J"), (3, u "REPL"), (0, u "C"), (2, u "LATIN1"), (1, u "UTF16"), (105, u "(Ljava/lang/StringBuilder;)V")] 217

def k7m0 : Method := { name := "<init>", desc := "()V", sig := { parameters := [], returnType := none }, accessFlags := 1, code := none }
def k7c1 : Code := { maxStack := 5, maxLocals := 2, code := jdk_42_method_3_code, exceptionTable := #[], attributes := #[] }
def k7m1 : Method := { name := "<init>", desc := "([C)V", sig := { parameters := [(.array .char)], returnType := none }, accessFlags := 1, code := some k7c1 }
def k7c2 : Code := { maxStack := 3, maxLocals := 2, code := jdk_42_method_53_code, exceptionTable := #[], attributes := #[] }
def k7m2 : Method := { name := "<init>", desc := "(Ljava/lang/StringBuilder;)V", sig := { parameters := [(.object "java/lang/StringBuilder")], returnType := none }, accessFlags := 1, code := some k7c2 }
def k7c3 : Code := { maxStack := 2, maxLocals := 1, code := jdk_42_method_54_code, exceptionTable := #[], attributes := #[] }
def k7m3 : Method := { name := "length", desc := "()I", sig := { parameters := [], returnType := some .int }, accessFlags := 1, code := some k7c3 }
def k7c4 : Code := { maxStack := 2, maxLocals := 3, code := jdk_42_method_66_code, exceptionTable := #[], attributes := #[] }
def k7m4 : Method := { name := "equals", desc := "(Ljava/lang/Object;)Z", sig := { parameters := [(.object "java/lang/Object")], returnType := some .boolean }, accessFlags := 1, code := some k7c4 }
def k7c5 : Code := { maxStack := 5, maxLocals := 4, code := jdk_42_method_147_code, exceptionTable := #[], attributes := #[] }
def k7m5 : Method := { name := "getBytes", desc := "([BIB)V", sig := { parameters := [(.array .byte), .int, .byte], returnType := none }, accessFlags := 0, code := some k7c5 }
def k7c6 : Code := { maxStack := 4, maxLocals := 6, code := jdk_42_method_149_code, exceptionTable := #[], attributes := #[] }
def k7m6 : Method := { name := "<init>", desc := "([CIILjava/lang/Void;)V", sig := { parameters := [(.array .char), .int, .int, (.object "java/lang/Void")], returnType := none }, accessFlags := 2, code := some k7c6 }
def k7c7 : Code := { maxStack := 5, maxLocals := 5, code := jdk_42_method_150_code, exceptionTable := #[], attributes := #[] }
def k7m7 : Method := { name := "<init>", desc := "(Ljava/lang/AbstractStringBuilder;Ljava/lang/Void;)V", sig := { parameters := [(.object "java/lang/AbstractStringBuilder"), (.object "java/lang/Void")], returnType := none }, accessFlags := 0, code := some k7c7 }
def k7c8 : Code := { maxStack := 1, maxLocals := 1, code := jdk_42_method_152_code, exceptionTable := #[], attributes := #[] }
def k7m8 : Method := { name := "coder", desc := "()B", sig := { parameters := [], returnType := some .byte }, accessFlags := 0, code := some k7c8 }
/-- java/lang/String -/
def k7 : Class := { plain "java/lang/String" (some 0) with
  accessFlags := 49
  interfaces := #[2, 3, 4, 5, 6]
  cf := some (fileOf pool7 10 #[.nestMembers #[1103]] #[{ accessFlags := 1, nameIndex := 5, descriptorIndex := 6, attributes := #[] }, { accessFlags := 1, nameIndex := 5, descriptorIndex := 1010, attributes := #[] }, { accessFlags := 1, nameIndex := 5, descriptorIndex := 1233, attributes := #[] }, { accessFlags := 1, nameIndex := 507, descriptorIndex := 334, attributes := #[] }, { accessFlags := 1, nameIndex := 543, descriptorIndex := 573, attributes := #[] }, { accessFlags := 0, nameIndex := 532, descriptorIndex := 821, attributes := #[] }, { accessFlags := 2, nameIndex := 5, descriptorIndex := 29, attributes := #[] }, { accessFlags := 0, nameIndex := 5, descriptorIndex := 491, attributes := #[] }, { accessFlags := 0, nameIndex := 17, descriptorIndex := 337, attributes := #[] }] 49 2 #[1106, 1108, 575, 1110, 1112] #[{ accessFlags := 18, nameIndex := 13, descriptorIndex := 14, attributes := #[] }, { accessFlags := 18, nameIndex := 17, descriptorIndex := 18, attributes := #[] }, { accessFlags := 2, nameIndex := 21, descriptorIndex := 22, attributes := #[] }, { accessFlags := 2, nameIndex := 25, descriptorIndex := 26, attributes := #[] }, { accessFlags := 26, nameIndex := 1116, descriptorIndex := 1117, attributes := #[] }, { accessFlags := 24, nameIndex := 40, descriptorIndex := 26, attributes := #[] }, { accessFlags := 26, nameIndex := 1101, descriptorIndex := 1102, attributes := #[] }, { accessFlags := 26, nameIndex := 1121, descriptorIndex := 1122, attributes := #[] }, { accessFlags := 25, nameIndex := 599, descriptorIndex := 600, attributes := #[] }, { accessFlags := 24, nameIndex := 1125, descriptorIndex := 18, attributes := #[] }, { accessFlags := 24, nameIndex := 1127, descriptorIndex := 18, attributes := #[] }])
  fields := #[{ name := "value", type := (.array .byte), accessFlags := 18, slot := 0, constantValue := 0 }, { name := "coder", type := .byte, accessFlags := 18, slot := 1, constantValue := 0 }, { name := "hash", type := .int, accessFlags := 2, slot := 2, constantValue := 0 }, { name := "hashIsZero", type := .boolean, accessFlags := 2, slot := 3, constantValue := 0 }, { name := "serialVersionUID", type := .long, accessFlags := 26, slot := 0, constantValue := 0 }, { name := "COMPACT_STRINGS", type := .boolean, accessFlags := 24, slot := 1, constantValue := 0 }, { name := "serialPersistentFields", type := (.array (.object "java/io/ObjectStreamField")), accessFlags := 26, slot := 2, constantValue := 0 }, { name := "REPL", type := .char, accessFlags := 26, slot := 3, constantValue := 0 }, { name := "CASE_INSENSITIVE_ORDER", type := (.object "java/util/Comparator"), accessFlags := 25, slot := 4, constantValue := 0 }, { name := "LATIN1", type := .byte, accessFlags := 24, slot := 5, constantValue := 0 }, { name := "UTF16", type := .byte, accessFlags := 24, slot := 6, constantValue := 0 }]
  methods := #[k7m0, k7m1, k7m2, k7m3, k7m4, k7m5, k7m6, k7m7, k7m8]
  instanceTypes := #[(.array .byte), .byte, .int, .boolean]
  staticTypes := #[.long, .boolean, (.array (.object "java/io/ObjectStreamField")), .char, (.object "java/util/Comparator"), .byte, .byte]
  resolved := Array.replicate 1451 none
  statics := some 0 }

def pool8 : Array CpInfo := pool [(6, .class_ 8), (1, u "java/lang/Object"), (0, u "<init>"), (0, u "()V"), (1, .class_ 14), (1, u "java/lang/StringUTF16"), (31, u "$assertionsDisabled"), (0, u "Z"), (13, u "HI_BYTE_SHIFT"), (0, u "I"), (2, u "LO_BYTE_SHIFT"), (49, .methodref 12 116), (0, .nameAndType 117 118), (0, u "compress"), (0, u "([CI[BII)I"), (3, u "([CII)[B"), (138, u "coderFromArrayLen"), (0, u "([BI)B"), (106, .class_ 371), (1, u "java/lang/StringUTF16$LinesSpliterator"), (58, u "MAX_LENGTH"), (196, .class_ 628), (0, u "java/lang/StringUTF16$CodePointsSpliterator"), (0, .class_ 630), (0, u "java/lang/StringUTF16$CharsSpliterator")] 4

def k8m0 : Method := { name := "<init>", desc := "()V", sig := { parameters := [], returnType := none }, accessFlags := 0, code := none }
def k8c1 : Code := { maxStack := 2, maxLocals := 2, code := jdk_52_method_15_code, exceptionTable := #[], attributes := #[] }
def k8m1 : Method := { name := "coderFromArrayLen", desc := "([BI)B", sig := { parameters := [(.array .byte), .int], returnType := some .byte }, accessFlags := 8, code := some k8c1 }
def k8c2 : Code := { maxStack := 5, maxLocals := 6, code := jdk_52_method_16_code, exceptionTable := #[], attributes := #[] }
def k8m2 : Method := { name := "compress", desc := "([CII)[B", sig := { parameters := [(.array .char), .int, .int], returnType := some (.array .byte) }, accessFlags := 9, code := some k8c2 }
def k8c3 : Code := { maxStack := 3, maxLocals := 7, code := jdk_52_method_21_code, exceptionTable := #[], attributes := #[] }
def k8m3 : Method := { name := "compress", desc := "([CI[BII)I", sig := { parameters := [(.array .char), .int, (.array .byte), .int, .int], returnType := some .int }, accessFlags := 9, code := some k8c3 }
/-- java/lang/StringUTF16 -/
def k8 : Class := { plain "java/lang/StringUTF16" (some 0) with
  accessFlags := 48
  interfaces := #[]
  cf := some (fileOf pool8 12 #[.nestMembers #[627, 629, 369]] #[{ accessFlags := 0, nameIndex := 9, descriptorIndex := 10, attributes := #[] }, { accessFlags := 8, nameIndex := 261, descriptorIndex := 262, attributes := #[] }, { accessFlags := 9, nameIndex := 117, descriptorIndex := 122, attributes := #[] }, { accessFlags := 9, nameIndex := 117, descriptorIndex := 118, attributes := #[] }] 48 6 #[] #[{ accessFlags := 26, nameIndex := 61, descriptorIndex := 62, attributes := #[] }, { accessFlags := 26, nameIndex := 65, descriptorIndex := 62, attributes := #[] }, { accessFlags := 24, nameIndex := 430, descriptorIndex := 62, attributes := #[] }, { accessFlags := 4120, nameIndex := 46, descriptorIndex := 47, attributes := #[] }])
  fields := #[{ name := "HI_BYTE_SHIFT", type := .int, accessFlags := 26, slot := 0, constantValue := 0 }, { name := "LO_BYTE_SHIFT", type := .int, accessFlags := 26, slot := 1, constantValue := 0 }, { name := "MAX_LENGTH", type := .int, accessFlags := 24, slot := 2, constantValue := 0 }, { name := "$assertionsDisabled", type := .boolean, accessFlags := 4120, slot := 3, constantValue := 0 }]
  methods := #[k8m0, k8m1, k8m2, k8m3]
  instanceTypes := #[]
  staticTypes := #[.int, .int, .int, .boolean]
  resolved := Array.replicate 635 none
  statics := none }

def pool9 : Array CpInfo := pool [(1, .methodref 2 3), (0, .class_ 4), (0, .nameAndType 5 6), (0, u "java/lang/Object"), (0, u "<init>"), (0, u "()V"), (0, .fieldref 8 9), (0, .class_ 10), (0, .nameAndType 11 12), (0, u "com/example/tukda/tukda/cli/Command$Option"), (0, u "name"), (0, u "Ljava/lang/String;"), (0, .fieldref 8 14), (0, .nameAndType 15 12), (0, u "placeholder"), (0, .fieldref 8 17), (0, .nameAndType 18 19), (0, u "required"), (0, u "Z"), (0, .fieldref 8 21), (0, .nameAndType 22 19), (0, u "repeated"), (0, .methodref 8 24), (0, .nameAndType 5 25), (0, u "(Ljava/lang/String;Ljava/lang/String;ZZ)V"), (0, .methodref 8 27), (0, .nameAndType 28 29), (0, u "takesValue"), (0, u "()Z"), (0, .class_ 31), (0, u "java/lang/StringBuilder"), (0, .methodref 30 3), (0, .methodref 30 34), (0, .nameAndType 35 36), (0, u "append"), (0, u "(Ljava/lang/String;)Ljava/lang/StringBuilder;"), (2, .methodref 30 40), (0, .nameAndType 41 42), (0, u "toString"), (0, u "()Ljava/lang/String;"), (4, .string 48), (0, u "["), (0, .string 50), (0, u "]"), (4, u "flag"), (0, u "(Ljava/lang/String;)Lcom/example/tukda/tukda/cli/Command$Option;"), (1, u "isRequired"), (0, u "isRepeated"), (0, u "usage"), (5, .class_ 67), (0, u "com/example/tukda/tukda/cli/Command")] 2

def k9c0 : Code := { maxStack := 2, maxLocals := 5, code := prog_4_method_1_code, exceptionTable := #[], attributes := #[] }
def k9m0 : Method := { name := "<init>", desc := "(Ljava/lang/String;Ljava/lang/String;ZZ)V", sig := { parameters := [(.object "java/lang/String"), (.object "java/lang/String"), .boolean, .boolean], returnType := none }, accessFlags := 2, code := some k9c0 }
def k9c1 : Code := { maxStack := 6, maxLocals := 1, code := prog_4_method_4_code, exceptionTable := #[], attributes := #[] }
def k9m1 : Method := { name := "flag", desc := "(Ljava/lang/String;)Lcom/example/tukda/tukda/cli/Command$Option;", sig := { parameters := [(.object "java/lang/String")], returnType := some (.object "com/example/tukda/tukda/cli/Command$Option") }, accessFlags := 8, code := some k9c1 }
def k9c2 : Code := { maxStack := 1, maxLocals := 1, code := prog_4_method_6_code, exceptionTable := #[], attributes := #[] }
def k9m2 : Method := { name := "name", desc := "()Ljava/lang/String;", sig := { parameters := [], returnType := some (.object "java/lang/String") }, accessFlags := 0, code := some k9c2 }
def k9c3 : Code := { maxStack := 1, maxLocals := 1, code := prog_4_method_7_code, exceptionTable := #[], attributes := #[] }
def k9m3 : Method := { name := "takesValue", desc := "()Z", sig := { parameters := [], returnType := some .boolean }, accessFlags := 0, code := some k9c3 }
def k9c4 : Code := { maxStack := 1, maxLocals := 1, code := prog_4_method_8_code, exceptionTable := #[], attributes := #[] }
def k9m4 : Method := { name := "isRequired", desc := "()Z", sig := { parameters := [], returnType := some .boolean }, accessFlags := 0, code := some k9c4 }
def k9c5 : Code := { maxStack := 1, maxLocals := 1, code := prog_4_method_9_code, exceptionTable := #[], attributes := #[] }
def k9m5 : Method := { name := "isRepeated", desc := "()Z", sig := { parameters := [], returnType := some .boolean }, accessFlags := 0, code := some k9c5 }
def k9c6 : Code := { maxStack := 2, maxLocals := 3, code := prog_4_method_10_code, exceptionTable := #[], attributes := #[] }
def k9m6 : Method := { name := "usage", desc := "()Ljava/lang/String;", sig := { parameters := [], returnType := some (.object "java/lang/String") }, accessFlags := 0, code := some k9c6 }
/-- com/example/tukda/tukda/cli/Command$Option -/
def k9 : Class := { plain "com/example/tukda/tukda/cli/Command$Option" (some 0) with
  accessFlags := 48
  interfaces := #[]
  cf := some (fileOf pool9 8 #[.nestHost 66] #[{ accessFlags := 2, nameIndex := 5, descriptorIndex := 25, attributes := #[] }, { accessFlags := 8, nameIndex := 55, descriptorIndex := 56, attributes := #[] }, { accessFlags := 0, nameIndex := 11, descriptorIndex := 42, attributes := #[] }, { accessFlags := 0, nameIndex := 28, descriptorIndex := 29, attributes := #[] }, { accessFlags := 0, nameIndex := 58, descriptorIndex := 29, attributes := #[] }, { accessFlags := 0, nameIndex := 59, descriptorIndex := 29, attributes := #[] }, { accessFlags := 0, nameIndex := 60, descriptorIndex := 42, attributes := #[] }] 48 2 #[] #[{ accessFlags := 18, nameIndex := 11, descriptorIndex := 12, attributes := #[] }, { accessFlags := 18, nameIndex := 15, descriptorIndex := 12, attributes := #[] }, { accessFlags := 18, nameIndex := 18, descriptorIndex := 19, attributes := #[] }, { accessFlags := 18, nameIndex := 22, descriptorIndex := 19, attributes := #[] }])
  fields := #[{ name := "name", type := (.object "java/lang/String"), accessFlags := 18, slot := 0, constantValue := 0 }, { name := "placeholder", type := (.object "java/lang/String"), accessFlags := 18, slot := 1, constantValue := 0 }, { name := "required", type := .boolean, accessFlags := 18, slot := 2, constantValue := 0 }, { name := "repeated", type := .boolean, accessFlags := 18, slot := 3, constantValue := 0 }]
  methods := #[k9m0, k9m1, k9m2, k9m3, k9m4, k9m5, k9m6]
  instanceTypes := #[(.object "java/lang/String"), (.object "java/lang/String"), .boolean, .boolean]
  staticTypes := #[]
  resolved := Array.replicate 70 none
  statics := none }

def pool10 : Array CpInfo := pool [(1, .class_ 2), (0, u "java/lang/Appendable"), (0, .class_ 4), (0, u "java/lang/Object")] 9

/-- java/lang/Appendable -/
def k10 : Class := { plain "java/lang/Appendable" (some 0) with
  accessFlags := 1537
  interfaces := #[]
  cf := some (fileOf pool10 1 #[] #[] 1537 3 #[] #[])
  fields := #[]
  methods := #[]
  instanceTypes := #[]
  staticTypes := #[]
  resolved := Array.replicate 14 none
  statics := none }

def pool11 : Array CpInfo := pool [(1, .class_ 2), (0, u "java/lang/String"), (0, .methodref 4 5), (0, .class_ 6), (0, .nameAndType 7 8), (0, u "java/lang/Object"), (0, u "<init>"), (0, u "()V"), (1, .class_ 12), (1, u "java/lang/AbstractStringBuilder"), (0, u "EMPTYVALUE"), (0, u "[B"), (0, .fieldref 10 16), (0, .nameAndType 17 14), (0, u "value"), (0, .fieldref 1 19), (0, .nameAndType 20 21), (0, u "COMPACT_STRINGS"), (0, u "Z"), (0, .fieldref 10 23), (0, .nameAndType 24 25), (0, u "coder"), (0, u "B"), (6, .methodref 1 33), (0, .nameAndType 34 35), (0, u "length"), (0, u "()I"), (4, .methodref 1 41), (0, .nameAndType 24 42), (0, u "()B"), (2, u "append"), (0, u "(Ljava/lang/String;)Ljava/lang/AbstractStringBuilder;"), (1, .class_ 49), (0, u "java/lang/CharSequence"), (19, u "(Ljava/lang/String;)V"), (5, u "maybeLatin1"), (3, .fieldref 10 80), (0, .nameAndType 81 82), (0, u "count"), (0, u "I"), (2, u "isLatin1"), (0, u "()Z"), (13, .methodref 10 101), (0, .nameAndType 102 103), (0, u "ensureCapacityInternal"), (0, u "(I)V"), (104, .methodref 10 209), (0, .nameAndType 210 211), (0, u "putStringAt"), (0, u "(ILjava/lang/String;)V"), (5, u "inflateIfNeededFor"), (2, .nameAndType 221 222), (0, u "getBytes"), (0, u "([BIB)V"), (174, .methodref 10 398), (0, .nameAndType 217 69), (0, .methodref 1 220), (3, u "()[B"), (40, .class_ 445), (0, u "java/lang/Appendable"), (106, u "getValue")] 56

def k11m0 : Method := { name := "<init>", desc := "()V", sig := { parameters := [], returnType := none }, accessFlags := 0, code := none }
def k11c1 : Code := { maxStack := 2, maxLocals := 2, code := jdk_68_method_2_code, exceptionTable := #[], attributes := #[] }
def k11m1 : Method := { name := "<init>", desc := "(I)V", sig := { parameters := [.int], returnType := none }, accessFlags := 0, code := some k11c1 }
def k11c2 : Code := { maxStack := 1, maxLocals := 1, code := jdk_68_method_6_code, exceptionTable := #[], attributes := #[] }
def k11m2 : Method := { name := "length", desc := "()I", sig := { parameters := [], returnType := some .int }, accessFlags := 1, code := some k11c2 }
def k11c3 : Code := { maxStack := 4, maxLocals := 3, code := jdk_68_method_9_code, exceptionTable := #[], attributes := #[] }
def k11m3 : Method := { name := "ensureCapacityInternal", desc := "(I)V", sig := { parameters := [.int], returnType := none }, accessFlags := 2, code := some k11c3 }
def k11c4 : Code := { maxStack := 3, maxLocals := 3, code := jdk_68_method_22_code, exceptionTable := #[], attributes := #[] }
def k11m4 : Method := { name := "append", desc := "(Ljava/lang/String;)Ljava/lang/AbstractStringBuilder;", sig := { parameters := [(.object "java/lang/String")], returnType := some (.object "java/lang/AbstractStringBuilder") }, accessFlags := 1, code := some k11c4 }
def k11c5 : Code := { maxStack := 1, maxLocals := 1, code := jdk_68_method_64_code, exceptionTable := #[], attributes := #[] }
def k11m5 : Method := { name := "getValue", desc := "()[B", sig := { parameters := [], returnType := some (.array .byte) }, accessFlags := 16, code := some k11c5 }
def k11c6 : Code := { maxStack := 1, maxLocals := 1, code := jdk_68_method_68_code, exceptionTable := #[], attributes := #[] }
def k11m6 : Method := { name := "isLatin1", desc := "()Z", sig := { parameters := [], returnType := some .boolean }, accessFlags := 16, code := some k11c6 }
def k11c7 : Code := { maxStack := 2, maxLocals := 2, code := jdk_68_method_71_code, exceptionTable := #[], attributes := #[] }
def k11m7 : Method := { name := "inflateIfNeededFor", desc := "(Ljava/lang/String;)V", sig := { parameters := [(.object "java/lang/String")], returnType := none }, accessFlags := 2, code := some k11c7 }
def k11c8 : Code := { maxStack := 4, maxLocals := 3, code := jdk_68_method_73_code, exceptionTable := #[], attributes := #[] }
def k11m8 : Method := { name := "putStringAt", desc := "(ILjava/lang/String;)V", sig := { parameters := [.int, (.object "java/lang/String")], returnType := none }, accessFlags := 2, code := some k11c8 }
/-- java/lang/AbstractStringBuilder -/
def k11 : Class := { plain "java/lang/AbstractStringBuilder" (some 0) with
  accessFlags := 1056
  interfaces := #[10, 4]
  cf := some (fileOf pool11 10 #[] #[{ accessFlags := 0, nameIndex := 7, descriptorIndex := 8, attributes := #[] }, { accessFlags := 0, nameIndex := 7, descriptorIndex := 103, attributes := #[] }, { accessFlags := 1, nameIndex := 34, descriptorIndex := 35, attributes := #[] }, { accessFlags := 2, nameIndex := 102, descriptorIndex := 103, attributes := #[] }, { accessFlags := 1, nameIndex := 45, descriptorIndex := 46, attributes := #[] }, { accessFlags := 16, nameIndex := 552, descriptorIndex := 403, attributes := #[] }, { accessFlags := 16, nameIndex := 85, descriptorIndex := 86, attributes := #[] }, { accessFlags := 2, nameIndex := 217, descriptorIndex := 69, attributes := #[] }, { accessFlags := 2, nameIndex := 210, descriptorIndex := 211, attributes := #[] }] 1056 4 #[444, 48] #[{ accessFlags := 0, nameIndex := 17, descriptorIndex := 14, attributes := #[] }, { accessFlags := 0, nameIndex := 24, descriptorIndex := 25, attributes := #[] }, { accessFlags := 0, nameIndex := 75, descriptorIndex := 21, attributes := #[] }, { accessFlags := 0, nameIndex := 81, descriptorIndex := 82, attributes := #[] }, { accessFlags := 26, nameIndex := 13, descriptorIndex := 14, attributes := #[] }])
  fields := #[{ name := "value", type := (.array .byte), accessFlags := 0, slot := 0, constantValue := 0 }, { name := "coder", type := .byte, accessFlags := 0, slot := 1, constantValue := 0 }, { name := "maybeLatin1", type := .boolean, accessFlags := 0, slot := 2, constantValue := 0 }, { name := "count", type := .int, accessFlags := 0, slot := 3, constantValue := 0 }, { name := "EMPTYVALUE", type := (.array .byte), accessFlags := 26, slot := 0, constantValue := 0 }]
  methods := #[k11m0, k11m1, k11m2, k11m3, k11m4, k11m5, k11m6, k11m7, k11m8]
  instanceTypes := #[(.array .byte), .byte, .boolean, .int]
  staticTypes := #[(.array .byte)]
  resolved := Array.replicate 609 none
  statics := none }

def pool12 : Array CpInfo := pool [(1, .methodref 2 3), (0, .class_ 4), (0, .nameAndType 5 6), (0, u "java/lang/AbstractStringBuilder"), (0, u "<init>"), (0, u "(I)V"), (11, .class_ 20), (1, u "java/lang/String"), (3, .class_ 26), (1, u "java/lang/StringBuilder"), (0, u "append"), (0, u "(Ljava/lang/String;)Ljava/lang/StringBuilder;"), (0, .methodref 2 30), (0, .nameAndType 27 31), (0, u "(Ljava/lang/String;)Ljava/lang/AbstractStringBuilder;"), (105, .methodref 18 138), (0, .nameAndType 5 139), (0, u "(Ljava/lang/StringBuilder;)V"), (5, u "()V"), (10, u "()I"), (186, .methodref 2 344), (0, .nameAndType 345 156), (0, u "length"), (3, .class_ 350), (0, u "java/lang/Appendable"), (0, .class_ 352), (0, u "java/io/Serializable"), (0, .class_ 354), (0, u "java/lang/Comparable"), (0, .class_ 356), (0, u "java/lang/CharSequence"), (0, u "serialVersionUID"), (0, u "J"), (40, u "toString"), (0, u "()Ljava/lang/String;")] 21

def k12c0 : Code := { maxStack := 2, maxLocals := 1, code := jdk_67_method_1_code, exceptionTable := #[], attributes := #[] }
def k12m0 : Method := { name := "<init>", desc := "()V", sig := { parameters := [], returnType := none }, accessFlags := 1, code := some k12c0 }
def k12c1 : Code := { maxStack := 2, maxLocals := 2, code := jdk_67_method_7_code, exceptionTable := #[], attributes := #[] }
def k12m1 : Method := { name := "append", desc := "(Ljava/lang/String;)Ljava/lang/StringBuilder;", sig := { parameters := [(.object "java/lang/String")], returnType := some (.object "java/lang/StringBuilder") }, accessFlags := 1, code := some k12c1 }
def k12c2 : Code := { maxStack := 3, maxLocals := 1, code := jdk_67_method_42_code, exceptionTable := #[], attributes := #[] }
def k12m2 : Method := { name := "toString", desc := "()Ljava/lang/String;", sig := { parameters := [], returnType := some (.object "java/lang/String") }, accessFlags := 1, code := some k12c2 }
def k12c3 : Code := { maxStack := 1, maxLocals := 1, code := jdk_67_method_93_code, exceptionTable := #[], attributes := #[] }
def k12m3 : Method := { name := "length", desc := "()I", sig := { parameters := [], returnType := some .int }, accessFlags := 4161, code := some k12c3 }
/-- java/lang/StringBuilder -/
def k12 : Class := { plain "java/lang/StringBuilder" (some 11) with
  accessFlags := 49
  interfaces := #[10, 2, 3, 4]
  cf := some (fileOf pool12 24 #[] #[{ accessFlags := 1, nameIndex := 5, descriptorIndex := 145, attributes := #[] }, { accessFlags := 1, nameIndex := 27, descriptorIndex := 28, attributes := #[] }, { accessFlags := 1, nameIndex := 399, descriptorIndex := 400, attributes := #[] }, { accessFlags := 4161, nameIndex := 345, descriptorIndex := 156, attributes := #[] }] 49 2 #[349, 351, 353, 355] #[{ accessFlags := 24, nameIndex := 357, descriptorIndex := 358, attributes := #[] }])
  fields := #[{ name := "serialVersionUID", type := .long, accessFlags := 24, slot := 0, constantValue := 0 }]
  methods := #[k12m0, k12m1, k12m2, k12m3]
  instanceTypes := #[(.array .byte), .byte, .boolean, .int]
  staticTypes := #[.long]
  resolved := Array.replicate 422 none
  statics := none }

def pool13 : Array CpInfo := pool [(2, .class_ 4), (1, u "java/lang/Object"), (0, u "<init>"), (0, u "()V"), (1, .class_ 10), (1, u "java/lang/System"), (0, u "allowSecurityManager"), (0, u "I"), (16, u "cons"), (0, u "Ljava/io/Console;"), (77, .class_ 110), (1, u "java/lang/System$CallersHolder"), (43, u "initialErrStream"), (0, u "Ljava/io/PrintStream;"), (19, u "security"), (0, u "Ljava/lang/SecurityManager;"), (31, .class_ 209), (0, u "java/lang/System$1"), (7, u "props"), (0, u "Ljava/util/Properties;"), (2, u "lineSeparator"), (0, u "Ljava/lang/String;"), (96, .class_ 321), (1, u "java/lang/System$LoggerFinder"), (5, .class_ 328), (0, u "java/lang/System$Logger"), (67, u "err"), (2, u "out"), (91, u "notSupportedJnuEncoding"), (15, u "in"), (17, u "initialIn"), (0, u "Ljava/io/InputStream;"), (35, u "bootLayer"), (0, u "Ljava/lang/ModuleLayer;"), (99, .class_ 664), (0, u "java/lang/System$2"), (9, u "NEVER"), (2, u "MAYBE"), (49, u "arraycopy"), (0, u "(Ljava/lang/Object;ILjava/lang/Object;II)V"), (72, .class_ 802), (0, u "java/lang/System$Logger$Level")] 31

def k13m0 : Method := { name := "<init>", desc := "()V", sig := { parameters := [], returnType := none }, accessFlags := 2, code := none }
def k13m1 : Method := { name := "arraycopy", desc := "(Ljava/lang/Object;ILjava/lang/Object;II)V", sig := { parameters := [(.object "java/lang/Object"), .int, (.object "java/lang/Object"), .int, .int], returnType := none }, accessFlags := 265, code := none }
/-- java/lang/System -/
def k13 : Class := { plain "java/lang/System" (some 0) with
  accessFlags := 49
  interfaces := #[]
  cf := some (fileOf pool13 8 #[.nestMembers #[319, 327, 801, 108, 663, 208]] #[{ accessFlags := 2, nameIndex := 5, descriptorIndex := 6, attributes := #[] }, { accessFlags := 265, nameIndex := 727, descriptorIndex := 728, attributes := #[] }] 49 2 #[] #[{ accessFlags := 25, nameIndex := 507, descriptorIndex := 526, attributes := #[] }, { accessFlags := 25, nameIndex := 399, descriptorIndex := 155, attributes := #[] }, { accessFlags := 25, nameIndex := 396, descriptorIndex := 155, attributes := #[] }, { accessFlags := 10, nameIndex := 525, descriptorIndex := 526, attributes := #[] }, { accessFlags := 26, nameIndex := 674, descriptorIndex := 12, attributes := #[] }, { accessFlags := 26, nameIndex := 677, descriptorIndex := 12, attributes := #[] }, { accessFlags := 10, nameIndex := 11, descriptorIndex := 12, attributes := #[] }, { accessFlags := 74, nameIndex := 175, descriptorIndex := 176, attributes := #[] }, { accessFlags := 10, nameIndex := 491, descriptorIndex := 222, attributes := #[] }, { accessFlags := 74, nameIndex := 29, descriptorIndex := 30, attributes := #[] }, { accessFlags := 74, nameIndex := 154, descriptorIndex := 155, attributes := #[] }, { accessFlags := 10, nameIndex := 217, descriptorIndex := 218, attributes := #[] }, { accessFlags := 10, nameIndex := 221, descriptorIndex := 222, attributes := #[] }, { accessFlags := 8, nameIndex := 562, descriptorIndex := 563, attributes := #[] }])
  fields := #[{ name := "in", type := (.object "java/io/InputStream"), accessFlags := 25, slot := 0, constantValue := 0 }, { name := "out", type := (.object "java/io/PrintStream"), accessFlags := 25, slot := 1, constantValue := 0 }, { name := "err", type := (.object "java/io/PrintStream"), accessFlags := 25, slot := 2, constantValue := 0 }, { name := "initialIn", type := (.object "java/io/InputStream"), accessFlags := 10, slot := 3, constantValue := 0 }, { name := "NEVER", type := .int, accessFlags := 26, slot := 4, constantValue := 0 }, { name := "MAYBE", type := .int, accessFlags := 26, slot := 5, constantValue := 0 }, { name := "allowSecurityManager", type := .int, accessFlags := 10, slot := 6, constantValue := 0 }, { name := "security", type := (.object "java/lang/SecurityManager"), accessFlags := 74, slot := 7, constantValue := 0 }, { name := "notSupportedJnuEncoding", type := (.object "java/lang/String"), accessFlags := 10, slot := 8, constantValue := 0 }, { name := "cons", type := (.object "java/io/Console"), accessFlags := 74, slot := 9, constantValue := 0 }, { name := "initialErrStream", type := (.object "java/io/PrintStream"), accessFlags := 74, slot := 10, constantValue := 0 }, { name := "props", type := (.object "java/util/Properties"), accessFlags := 10, slot := 11, constantValue := 0 }, { name := "lineSeparator", type := (.object "java/lang/String"), accessFlags := 10, slot := 12, constantValue := 0 }, { name := "bootLayer", type := (.object "java/lang/ModuleLayer"), accessFlags := 8, slot := 13, constantValue := 0 }]
  methods := #[k13m0, k13m1]
  instanceTypes := #[]
  staticTypes := #[(.object "java/io/InputStream"), (.object "java/io/PrintStream"), (.object "java/io/PrintStream"), (.object "java/io/InputStream"), .int, .int, .int, (.object "java/lang/SecurityManager"), (.object "java/lang/String"), (.object "java/io/Console"), (.object "java/io/PrintStream"), (.object "java/util/Properties"), (.object "java/lang/String"), (.object "java/lang/ModuleLayer")]
  resolved := Array.replicate 834 none
  statics := none }

def pool14 : Array CpInfo := pool [(2, .class_ 4), (1, u "java/lang/Object"), (0, u "<init>"), (0, u "()V"), (7, .class_ 16), (1, u "java/util/Arrays"), (57, .class_ 76), (1, u "java/util/Arrays$NaturalOrder"), (36, .class_ 115), (1, u "java/util/Arrays$LegacyMergeSort"), (1, u "Z"), (21, u "copyOfRange"), (10, .methodref 151 152), (0, .class_ 153), (0, .nameAndType 154 155), (0, u "java/lang/System"), (0, u "arraycopy"), (0, u "(Ljava/lang/Object;ILjava/lang/Object;II)V"), (148, .methodref 305 306), (0, .class_ 307), (0, .nameAndType 308 309), (0, u "java/lang/Math"), (0, u "min"), (0, u "(II)I"), (29, .methodref 14 340), (0, .nameAndType 341 342), (0, u "copyOfRangeByte"), (0, u "([BII)[B"), (0, .methodref 14 344), (0, .nameAndType 345 346), (0, u "checkLength"), (0, u "(II)V"), (28, .class_ 376), (0, u "java/util/Arrays$ArrayList"), (68, u "$assertionsDisabled"), (269, u "MIN_ARRAY_SORT_GRAN"), (0, u "I"), (2, u "INSERTIONSORT_THRESHOLD"), (255, .class_ 976), (0, u "java/util/Arrays$ArrayItr")] 52

def k14m0 : Method := { name := "<init>", desc := "()V", sig := { parameters := [], returnType := none }, accessFlags := 2, code := none }
def k14c1 : Code := { maxStack := 4, maxLocals := 2, code := jdk_65_method_131_code, exceptionTable := #[], attributes := #[] }
def k14m1 : Method := { name := "checkLength", desc := "(II)V", sig := { parameters := [.int, .int], returnType := none }, accessFlags := 10, code := some k14c1 }
def k14c2 : Code := { maxStack := 3, maxLocals := 3, code := jdk_65_method_132_code, exceptionTable := #[], attributes := #[] }
def k14m2 : Method := { name := "copyOfRange", desc := "([BII)[B", sig := { parameters := [(.array .byte), .int, .int], returnType := some (.array .byte) }, accessFlags := 9, code := some k14c2 }
def k14c3 : Code := { maxStack := 6, maxLocals := 5, code := jdk_65_method_133_code, exceptionTable := #[], attributes := #[] }
def k14m3 : Method := { name := "copyOfRangeByte", desc := "([BII)[B", sig := { parameters := [(.array .byte), .int, .int], returnType := some (.array .byte) }, accessFlags := 10, code := some k14c3 }
/-- java/util/Arrays -/
def k14 : Class := { plain "java/util/Arrays" (some 0) with
  accessFlags := 49
  interfaces := #[]
  cf := some (fileOf pool14 14 #[.nestMembers #[975, 375, 113, 74]] #[{ accessFlags := 2, nameIndex := 5, descriptorIndex := 6, attributes := #[] }, { accessFlags := 10, nameIndex := 345, descriptorIndex := 346, attributes := #[] }, { accessFlags := 9, nameIndex := 139, descriptorIndex := 342, attributes := #[] }, { accessFlags := 10, nameIndex := 341, descriptorIndex := 342, attributes := #[] }] 49 2 #[] #[{ accessFlags := 26, nameIndex := 715, descriptorIndex := 716, attributes := #[] }, { accessFlags := 26, nameIndex := 719, descriptorIndex := 716, attributes := #[] }, { accessFlags := 4120, nameIndex := 445, descriptorIndex := 117, attributes := #[] }])
  fields := #[{ name := "MIN_ARRAY_SORT_GRAN", type := .int, accessFlags := 26, slot := 0, constantValue := 0 }, { name := "INSERTIONSORT_THRESHOLD", type := .int, accessFlags := 26, slot := 1, constantValue := 0 }, { name := "$assertionsDisabled", type := .boolean, accessFlags := 4120, slot := 2, constantValue := 0 }]
  methods := #[k14m0, k14m1, k14m2, k14m3]
  instanceTypes := #[]
  staticTypes := #[.int, .int, .boolean]
  resolved := Array.replicate 1029 none
  statics := none }

def pool15 : Array CpInfo := pool [(1, .class_ 2), (0, u "java/lang/Math"), (1, .class_ 6), (1, u "java/lang/Object"), (0, u "<init>"), (0, u "()V"), (89, .class_ 100), (1, u "java/lang/Math$RandomNumberGeneratorHolder"), (71, u "negativeZeroFloatBits"), (0, u "J"), (2, u "negativeZeroDoubleBits"), (24, u "min"), (43, u "$assertionsDisabled"), (0, u "Z"), (88, u "(II)I"), (2, u "twoToTheDoubleScaleDown"), (0, u "D"), (4, u "twoToTheDoubleScaleUp"), (9, u "E"), (3, u "PI"), (2, u "TAU"), (2, u "DEGREES_TO_RADIANS"), (0, u "RADIANS_TO_DEGREES")] 94

def k15m0 : Method := { name := "<init>", desc := "()V", sig := { parameters := [], returnType := none }, accessFlags := 2, code := none }
def k15c1 : Code := { maxStack := 2, maxLocals := 2, code := jdk_29_method_69_code, exceptionTable := #[], attributes := #[] }
def k15m1 : Method := { name := "min", desc := "(II)I", sig := { parameters := [.int, .int], returnType := some .int }, accessFlags := 9, code := some k15c1 }
/-- java/lang/Math -/
def k15 : Class := { plain "java/lang/Math" (some 0) with
  accessFlags := 49
  interfaces := #[]
  cf := some (fileOf pool15 1 #[.nestMembers #[98]] #[{ accessFlags := 2, nameIndex := 7, descriptorIndex := 8, attributes := #[] }, { accessFlags := 9, nameIndex := 201, descriptorIndex := 335, attributes := #[] }] 49 4 #[] #[{ accessFlags := 25, nameIndex := 354, descriptorIndex := 339, attributes := #[] }, { accessFlags := 25, nameIndex := 358, descriptorIndex := 339, attributes := #[] }, { accessFlags := 25, nameIndex := 361, descriptorIndex := 339, attributes := #[] }, { accessFlags := 26, nameIndex := 364, descriptorIndex := 339, attributes := #[] }, { accessFlags := 26, nameIndex := 365, descriptorIndex := 339, attributes := #[] }, { accessFlags := 26, nameIndex := 172, descriptorIndex := 173, attributes := #[] }, { accessFlags := 26, nameIndex := 176, descriptorIndex := 173, attributes := #[] }, { accessFlags := 8, nameIndex := 344, descriptorIndex := 339, attributes := #[] }, { accessFlags := 8, nameIndex := 338, descriptorIndex := 339, attributes := #[] }, { accessFlags := 4120, nameIndex := 245, descriptorIndex := 246, attributes := #[] }])
  fields := #[{ name := "E", type := .double, accessFlags := 25, slot := 0, constantValue := 0 }, { name := "PI", type := .double, accessFlags := 25, slot := 1, constantValue := 0 }, { name := "TAU", type := .double, accessFlags := 25, slot := 2, constantValue := 0 }, { name := "DEGREES_TO_RADIANS", type := .double, accessFlags := 26, slot := 3, constantValue := 0 }, { name := "RADIANS_TO_DEGREES", type := .double, accessFlags := 26, slot := 4, constantValue := 0 }, { name := "negativeZeroFloatBits", type := .long, accessFlags := 26, slot := 5, constantValue := 0 }, { name := "negativeZeroDoubleBits", type := .long, accessFlags := 26, slot := 6, constantValue := 0 }, { name := "twoToTheDoubleScaleUp", type := .double, accessFlags := 8, slot := 7, constantValue := 0 }, { name := "twoToTheDoubleScaleDown", type := .double, accessFlags := 8, slot := 8, constantValue := 0 }, { name := "$assertionsDisabled", type := .boolean, accessFlags := 4120, slot := 9, constantValue := 0 }]
  methods := #[k15m0, k15m1]
  instanceTypes := #[]
  staticTypes := #[.double, .double, .double, .double, .double, .long, .long, .double, .double, .boolean]
  resolved := Array.replicate 460 none
  statics := none }

def pool16 : Array CpInfo := pool [(4, .class_ 6), (1, u "java/lang/Object"), (0, u "<init>"), (0, u "()V"), (5, .class_ 16), (1, u "java/lang/StringLatin1"), (104, u "$assertionsDisabled"), (0, u "Z"), (98, .class_ 223), (1, u "java/lang/StringLatin1$LinesSpliterator"), (57, u "equals"), (0, u "([B[B)Z"), (107, .class_ 391), (0, u "java/lang/StringLatin1$CharsSpliterator")] 3

def k16m0 : Method := { name := "<init>", desc := "()V", sig := { parameters := [], returnType := none }, accessFlags := 0, code := none }
def k16c1 : Code := { maxStack := 3, maxLocals := 3, code := jdk_43_method_13_code, exceptionTable := #[], attributes := #[] }
def k16m1 : Method := { name := "equals", desc := "([B[B)Z", sig := { parameters := [(.array .byte), (.array .byte)], returnType := some .boolean }, accessFlags := 9, code := some k16c1 }
/-- java/lang/StringLatin1 -/
def k16 : Class := { plain "java/lang/StringLatin1" (some 0) with
  accessFlags := 48
  interfaces := #[]
  cf := some (fileOf pool16 14 #[.nestMembers #[390, 221]] #[{ accessFlags := 0, nameIndex := 7, descriptorIndex := 8, attributes := #[] }, { accessFlags := 9, nameIndex := 281, descriptorIndex := 282, attributes := #[] }] 48 4 #[] #[{ accessFlags := 4120, nameIndex := 121, descriptorIndex := 122, attributes := #[] }])
  fields := #[{ name := "$assertionsDisabled", type := .boolean, accessFlags := 4120, slot := 0, constantValue := 0 }]
  methods := #[k16m0, k16m1]
  instanceTypes := #[]
  staticTypes := #[.boolean]
  resolved := Array.replicate 395 none
  statics := none }

def pool17 : Array CpInfo := pool [(2, .class_ 4), (1, u "java/lang/Object"), (0, u "<init>"), (0, u "()V"), (17, .class_ 26), (1, u "jdk/internal/util/Preconditions"), (28, .class_ 56), (0, u "jdk/internal/util/Preconditions$4"), (57, .class_ 115), (0, u "jdk/internal/util/Preconditions$1"), (7, u "SIOOBE_FORMATTER"), (0, u "Ljava/util/function/BiFunction;"), (0, .class_ 126), (0, u "jdk/internal/util/Preconditions$2"), (3, u "AIOOBE_FORMATTER"), (0, .class_ 132), (0, u "jdk/internal/util/Preconditions$3"), (3, u "IOOBE_FORMATTER")] 57

def k17m0 : Method := { name := "<init>", desc := "()V", sig := { parameters := [], returnType := none }, accessFlags := 1, code := none }
/-- jdk/internal/util/Preconditions -/
def k17 : Class := { plain "jdk/internal/util/Preconditions" (some 0) with
  accessFlags := 33
  interfaces := #[]
  cf := some (fileOf pool17 24 #[.nestMembers #[55, 131, 125, 114]] #[{ accessFlags := 1, nameIndex := 5, descriptorIndex := 6, attributes := #[] }] 33 2 #[] #[{ accessFlags := 25, nameIndex := 123, descriptorIndex := 124, attributes := #[] }, { accessFlags := 25, nameIndex := 130, descriptorIndex := 124, attributes := #[] }, { accessFlags := 25, nameIndex := 136, descriptorIndex := 124, attributes := #[] }])
  fields := #[{ name := "SIOOBE_FORMATTER", type := (.object "java/util/function/BiFunction"), accessFlags := 25, slot := 0, constantValue := 0 }, { name := "AIOOBE_FORMATTER", type := (.object "java/util/function/BiFunction"), accessFlags := 25, slot := 1, constantValue := 0 }, { name := "IOOBE_FORMATTER", type := (.object "java/util/function/BiFunction"), accessFlags := 25, slot := 2, constantValue := 0 }]
  methods := #[k17m0]
  instanceTypes := #[]
  staticTypes := #[(.object "java/util/function/BiFunction"), (.object "java/util/function/BiFunction"), (.object "java/util/function/BiFunction")]
  resolved := Array.replicate 194 none
  statics := some 1 }

def pool18 : Array CpInfo := pool [(9, u "<init>"), (6, .class_ 18), (1, u "java/lang/Object"), (0, u "()V"), (1, .class_ 23), (1, u "jdk/internal/util/ArraysSupport"), (0, u "LOG2_ARRAY_LONG_INDEX_SCALE"), (0, u "I"), (2, u "U"), (0, u "Ljdk/internal/misc/Unsafe;"), (8, u "BIG_ENDIAN"), (0, u "Z"), (8, u "LOG2_BYTE_BIT_SIZE"), (4, u "LOG2_ARRAY_INT_INDEX_SCALE"), (54, u "JLA"), (0, u "Ljdk/internal/access/JavaLangAccess;"), (11, u "LOG2_ARRAY_BOOLEAN_INDEX_SCALE"), (9, u "LOG2_ARRAY_BYTE_INDEX_SCALE"), (5, u "LOG2_ARRAY_CHAR_INDEX_SCALE"), (5, u "LOG2_ARRAY_SHORT_INDEX_SCALE"), (18, u "LOG2_ARRAY_FLOAT_INDEX_SCALE"), (24, u "LOG2_ARRAY_DOUBLE_INDEX_SCALE"), (89, u "T_BOOLEAN"), (2, u "T_CHAR"), (1, u "T_FLOAT"), (1, u "T_DOUBLE"), (1, u "T_BYTE"), (1, u "T_SHORT"), (1, u "T_INT"), (1, u "T_LONG"), (1, u "SOFT_MAX_ARRAY_LENGTH")] 83

def k18m0 : Method := { name := "<init>", desc := "()V", sig := { parameters := [], returnType := none }, accessFlags := 2, code := none }
/-- jdk/internal/util/ArraysSupport -/
def k18 : Class := { plain "jdk/internal/util/ArraysSupport" (some 0) with
  accessFlags := 33
  interfaces := #[]
  cf := some (fileOf pool18 21 #[] #[{ accessFlags := 2, nameIndex := 9, descriptorIndex := 19, attributes := #[] }] 33 16 #[] #[{ accessFlags := 24, nameIndex := 28, descriptorIndex := 29, attributes := #[] }, { accessFlags := 26, nameIndex := 38, descriptorIndex := 39, attributes := #[] }, { accessFlags := 25, nameIndex := 121, descriptorIndex := 25, attributes := #[] }, { accessFlags := 25, nameIndex := 131, descriptorIndex := 25, attributes := #[] }, { accessFlags := 25, nameIndex := 137, descriptorIndex := 25, attributes := #[] }, { accessFlags := 25, nameIndex := 143, descriptorIndex := 25, attributes := #[] }, { accessFlags := 25, nameIndex := 53, descriptorIndex := 25, attributes := #[] }, { accessFlags := 25, nameIndex := 24, descriptorIndex := 25, attributes := #[] }, { accessFlags := 25, nameIndex := 162, descriptorIndex := 25, attributes := #[] }, { accessFlags := 25, nameIndex := 187, descriptorIndex := 25, attributes := #[] }, { accessFlags := 26, nameIndex := 48, descriptorIndex := 25, attributes := #[] }, { accessFlags := 25, nameIndex := 277, descriptorIndex := 25, attributes := #[] }, { accessFlags := 25, nameIndex := 280, descriptorIndex := 25, attributes := #[] }, { accessFlags := 25, nameIndex := 282, descriptorIndex := 25, attributes := #[] }, { accessFlags := 25, nameIndex := 284, descriptorIndex := 25, attributes := #[] }, { accessFlags := 25, nameIndex := 286, descriptorIndex := 25, attributes := #[] }, { accessFlags := 25, nameIndex := 288, descriptorIndex := 25, attributes := #[] }, { accessFlags := 25, nameIndex := 290, descriptorIndex := 25, attributes := #[] }, { accessFlags := 25, nameIndex := 292, descriptorIndex := 25, attributes := #[] }, { accessFlags := 26, nameIndex := 108, descriptorIndex := 109, attributes := #[] }, { accessFlags := 25, nameIndex := 294, descriptorIndex := 25, attributes := #[] }])
  fields := #[{ name := "U", type := (.object "jdk/internal/misc/Unsafe"), accessFlags := 24, slot := 0, constantValue := 0 }, { name := "BIG_ENDIAN", type := .boolean, accessFlags := 26, slot := 1, constantValue := 0 }, { name := "LOG2_ARRAY_BOOLEAN_INDEX_SCALE", type := .int, accessFlags := 25, slot := 2, constantValue := 0 }, { name := "LOG2_ARRAY_BYTE_INDEX_SCALE", type := .int, accessFlags := 25, slot := 3, constantValue := 0 }, { name := "LOG2_ARRAY_CHAR_INDEX_SCALE", type := .int, accessFlags := 25, slot := 4, constantValue := 0 }, { name := "LOG2_ARRAY_SHORT_INDEX_SCALE", type := .int, accessFlags := 25, slot := 5, constantValue := 0 }, { name := "LOG2_ARRAY_INT_INDEX_SCALE", type := .int, accessFlags := 25, slot := 6, constantValue := 0 }, { name := "LOG2_ARRAY_LONG_INDEX_SCALE", type := .int, accessFlags := 25, slot := 7, constantValue := 0 }, { name := "LOG2_ARRAY_FLOAT_INDEX_SCALE", type := .int, accessFlags := 25, slot := 8, constantValue := 0 }, { name := "LOG2_ARRAY_DOUBLE_INDEX_SCALE", type := .int, accessFlags := 25, slot := 9, constantValue := 0 }, { name := "LOG2_BYTE_BIT_SIZE", type := .int, accessFlags := 26, slot := 10, constantValue := 0 }, { name := "T_BOOLEAN", type := .int, accessFlags := 25, slot := 11, constantValue := 0 }, { name := "T_CHAR", type := .int, accessFlags := 25, slot := 12, constantValue := 0 }, { name := "T_FLOAT", type := .int, accessFlags := 25, slot := 13, constantValue := 0 }, { name := "T_DOUBLE", type := .int, accessFlags := 25, slot := 14, constantValue := 0 }, { name := "T_BYTE", type := .int, accessFlags := 25, slot := 15, constantValue := 0 }, { name := "T_SHORT", type := .int, accessFlags := 25, slot := 16, constantValue := 0 }, { name := "T_INT", type := .int, accessFlags := 25, slot := 17, constantValue := 0 }, { name := "T_LONG", type := .int, accessFlags := 25, slot := 18, constantValue := 0 }, { name := "JLA", type := (.object "jdk/internal/access/JavaLangAccess"), accessFlags := 26, slot := 19, constantValue := 0 }, { name := "SOFT_MAX_ARRAY_LENGTH", type := .int, accessFlags := 25, slot := 20, constantValue := 0 }]
  methods := #[k18m0]
  instanceTypes := #[]
  staticTypes := #[(.object "jdk/internal/misc/Unsafe"), .boolean, .int, .int, .int, .int, .int, .int, .int, .int, .int, .int, .int, .int, .int, .int, .int, .int, .int, (.object "jdk/internal/access/JavaLangAccess"), .int]
  resolved := Array.replicate 378 none
  statics := none }

def pool19 : Array CpInfo := pool [(1, u "java/lang/Cloneable"), (0, .class_ 1), (0, u "java/lang/Object"), (0, .class_ 3)] 3

/-- java/lang/Cloneable -/
def k19 : Class := { plain "java/lang/Cloneable" (some 0) with
  accessFlags := 1537
  interfaces := #[]
  cf := some (fileOf pool19 2 #[] #[] 1537 4 #[] #[])
  fields := #[]
  methods := #[]
  instanceTypes := #[]
  staticTypes := #[]
  resolved := Array.replicate 8 none
  statics := none }

/-- the primitive byte -/
def k20 : Class := { plain "byte" none with kind := .primitive 'B', accessFlags := 0x411 }
/-- [B -/
def k21 : Class := { plain "[B" (some 0) with kind := .array 20 .byte, interfaces := #[19, 2], accessFlags := 1041 }

/-- the primitive char -/
def k22 : Class := { plain "char" none with kind := .primitive 'C', accessFlags := 0x411 }
/-- [C -/
def k23 : Class := { plain "[C" (some 0) with kind := .array 22 .char, interfaces := #[19, 2], accessFlags := 1041 }

def heap : Heap := #[{ cls := 7, slots := #[.long 0, .int 1, .null, .int 0, .null, .int 0, .int 0], vm := .statics 7 },
  { cls := 17, slots := #[.null, .null, .null], vm := .statics 17 }]
def classes : Array Class := #[k0, k1, k2, k3, k4, k5, k6, k7, k8, k9, k10, k11, k12, k13, k14, k15, k16, k17, k18, k19, k20, k21, k22, k23]
def interned : List (Array UInt16 × Addr) := []
def slotsUsed : Nat := 10
def theMethod : MethodId := ⟨1, 1⟩
def args0 : Array Value := #[.int 1, .int 5, .int 7, .int 9]
def aboutOver (below : List Frame) : State where
  vm := { classes := classes, interned := interned.toArray }
  heap := heap
  slotsUsed := slotsUsed
  threads := #[{ frames := .invoking theMethod args0 :: below }]
def below0 : List Frame := [.native { method := ⟨0, 0⟩, args := #[] }]
def about1 : State := aboutOver below0
def p0 : Program := .bare "" "" ""
def e0 : Env := launch0.env 0 0 0
theorem w_frames : about1.frames = Frame.invoking theMethod args0 :: below0 := rfl
set_option maxRecDepth 65536 in
theorem w_args : argsFit about1.vm theMethod args0 = true := by decide +kernel
set_option maxRecDepth 65536 in
theorem w_heap : heapFits about1 = true := by decide +kernel
set_option maxRecDepth 65536 in
theorem w_runnable : about1.curStatus? = some .runnable := by decide +kernel
set_option maxRecDepth 65536 in
theorem w_alone : about1.alone = true := by decide +kernel
set_option maxRecDepth 65536 in
theorem w_named : about1.methodNamed? x = some theMethod := by decide +kernel
set_option maxRecDepth 65536 in
theorem w_hears : about1.hears theMethod below0 = true := by decide +kernel
set_option maxRecDepth 65536 in
theorem w_ripe : about1.ripe theMethod args0 below0 = true := by decide +kernel
theorem w_running : about1.status = .running := rfl
set_option maxRecDepth 65536 in
theorem w_room : about1.hasRoom e0.platform room_1 = true :=
  launch0.hasRoom_least _ room_1 (by decide +kernel) (by decide +kernel) (by decide +kernel) (by decide +kernel) (by decide +kernel) (by decide +kernel)
theorem allAtoms_all (ts : List Jvm.Cond) (a : Array Jvm.Value) (st : Jvm.State) : (allAtoms ts).before a st = ts.all (fun c => c.before a st) := by
  induction ts with
  | nil => rfl
  | cons c t ih =>
    show (Jvm.Cond.and c (allAtoms t)).before a st = _
    rw [Jvm.Cond.before_and, ih, List.all_cons]
def words1 : List Jvm.Cond := Jvm.Cond.code x code maxLocals ret :: tables_1
/-- a 'code' word, met by the world's own term for the bytes: nothing is compared byte by byte -/
theorem code_word {y : MethodName} {bytes : ByteArray} {mx : Nat} {rt : Option FieldType} {a : Array Value} {s : State} {m : MethodId} {meth : Method} {c : Code} (h1 : s.methodNamed? y = some m) (h2 : s.vm.method? m = some meth) (h3 : meth.code = some c) (h4 : c.code = bytes)
    (h5 : (c.maxLocals == mx && c.exceptionTable.isEmpty && decide (c.maxStack ≤ mostOperands) && decide (meth.sig.returnType = rt) && !meth.locks && decide (parseMethodDescriptor y.desc = some meth.sig)) = true) : (Jvm.Cond.code y bytes mx rt).before a s = true := by
  simp only [Bool.and_eq_true, beq_iff_eq, Bool.not_eq_true', decide_eq_true_eq] at h5
  obtain ⟨⟨⟨⟨⟨g1, g2⟩, g3⟩, g4⟩, g5⟩, g6⟩ := h5
  simp [Cond.before, Cond.holds, Cond.value, h1, h2, h3, h4, g1, g2, g3, g4, g5, g6]
def isCode : Jvm.Cond → Bool
  | .code _ _ _ _ => true
  | _ => false
theorem all_split {L : List Jvm.Cond} {P : Jvm.Cond → Bool} (h1 : L.all (fun c => isCode c || P c) = true) (h2 : ∀ c ∈ L.filter isCode, P c = true) : L.all P = true := by
  refine List.all_eq_true.mpr fun c hc => ?_
  have h := List.all_eq_true.mp h1 c hc
  rcases Bool.eq_false_or_eq_true (isCode c) with hi | hi
  · exact h2 c (List.mem_filter.mpr ⟨hc, hi⟩)
  · simpa [hi] using h
set_option maxRecDepth 65536 in
theorem w_c0 : (Jvm.Cond.code x code maxLocals ret).before args0 about1 = true := code_word (m := ⟨1, 1⟩) (meth := k1m1) (c := k1c1) (by decide +kernel) rfl rfl rfl (by decide +kernel)
set_option maxRecDepth 65536 in
theorem w_c1 : (Jvm.Cond.code ({ cls := "com/example/tukda/tukda/cli/OptionFlagPinLaw", name := "plain", desc := "(ICCC)Ljava/lang/String;" } : Jvm.MethodName) method_3_code (4 : Nat) (Option.some (Jvm.ClassFile.FieldType.object "java/lang/String"))).before args0 about1 = true := code_word (m := ⟨1, 2⟩) (meth := k1m2) (c := k1c2) (by decide +kernel) rfl rfl rfl (by decide +kernel)
set_option maxRecDepth 65536 in
theorem w_c2 : (Jvm.Cond.code ({ cls := "java/lang/String", name := "<init>", desc := "([C)V" } : Jvm.MethodName) jdk_42_method_3_code (2 : Nat) (Option.none : Option Jvm.ClassFile.FieldType)).before args0 about1 = true := code_word (m := ⟨7, 1⟩) (meth := k7m1) (c := k7c1) (by decide +kernel) rfl rfl rfl (by decide +kernel)
set_option maxRecDepth 65536 in
theorem w_c3 : (Jvm.Cond.code ({ cls := "java/lang/String", name := "<init>", desc := "([CIILjava/lang/Void;)V" } : Jvm.MethodName) jdk_42_method_149_code (6 : Nat) (Option.none : Option Jvm.ClassFile.FieldType)).before args0 about1 = true := code_word (m := ⟨7, 6⟩) (meth := k7m6) (c := k7c6) (by decide +kernel) rfl rfl rfl (by decide +kernel)
set_option maxRecDepth 65536 in
theorem w_c4 : (Jvm.Cond.code ({ cls := "java/lang/Object", name := "<init>", desc := "()V" } : Jvm.MethodName) object_method_1_code (1 : Nat) (Option.none : Option Jvm.ClassFile.FieldType)).before args0 about1 = true := code_word (m := ⟨0, 0⟩) (meth := k0m0) (c := k0c0) (by decide +kernel) rfl rfl rfl (by decide +kernel)
set_option maxRecDepth 65536 in
theorem w_c5 : (Jvm.Cond.code ({ cls := "com/example/tukda/tukda/cli/OptionFlagPinLaw", name := "bracketed", desc := "(ICCC)Ljava/lang/String;" } : Jvm.MethodName) method_4_code (4 : Nat) (Option.some (Jvm.ClassFile.FieldType.object "java/lang/String"))).before args0 about1 = true := code_word (m := ⟨1, 3⟩) (meth := k1m3) (c := k1c3) (by decide +kernel) rfl rfl rfl (by decide +kernel)
set_option maxRecDepth 65536 in
theorem w_c6 : (Jvm.Cond.code ({ cls := "java/lang/StringUTF16", name := "compress", desc := "([CII)[B" } : Jvm.MethodName) jdk_52_method_16_code (6 : Nat) (Option.some (Jvm.ClassFile.FieldType.array Jvm.ClassFile.FieldType.byte))).before args0 about1 = true := code_word (m := ⟨8, 2⟩) (meth := k8m2) (c := k8c2) (by decide +kernel) rfl rfl rfl (by decide +kernel)
set_option maxRecDepth 65536 in
theorem w_c7 : (Jvm.Cond.code ({ cls := "java/lang/StringUTF16", name := "compress", desc := "([CI[BII)I" } : Jvm.MethodName) jdk_52_method_21_code (7 : Nat) (Option.some Jvm.ClassFile.FieldType.int)).before args0 about1 = true := code_word (m := ⟨8, 3⟩) (meth := k8m3) (c := k8c3) (by decide +kernel) rfl rfl rfl (by decide +kernel)
set_option maxRecDepth 65536 in
theorem w_c8 : (Jvm.Cond.code ({ cls := "java/lang/StringUTF16", name := "coderFromArrayLen", desc := "([BI)B" } : Jvm.MethodName) jdk_52_method_15_code (2 : Nat) (Option.some Jvm.ClassFile.FieldType.byte)).before args0 about1 = true := code_word (m := ⟨8, 1⟩) (meth := k8m1) (c := k8c1) (by decide +kernel) rfl rfl rfl (by decide +kernel)
set_option maxRecDepth 65536 in
theorem w_c9 : (Jvm.Cond.code ({ cls := "com/example/tukda/tukda/cli/Command$Option", name := "flag", desc := "(Ljava/lang/String;)Lcom/example/tukda/tukda/cli/Command$Option;" } : Jvm.MethodName) prog_4_method_4_code (1 : Nat) (Option.some (Jvm.ClassFile.FieldType.object "com/example/tukda/tukda/cli/Command$Option"))).before args0 about1 = true := code_word (m := ⟨9, 1⟩) (meth := k9m1) (c := k9c1) (by decide +kernel) rfl rfl rfl (by decide +kernel)
set_option maxRecDepth 65536 in
theorem w_c10 : (Jvm.Cond.code ({ cls := "com/example/tukda/tukda/cli/Command$Option", name := "<init>", desc := "(Ljava/lang/String;Ljava/lang/String;ZZ)V" } : Jvm.MethodName) prog_4_method_1_code (5 : Nat) (Option.none : Option Jvm.ClassFile.FieldType)).before args0 about1 = true := code_word (m := ⟨9, 0⟩) (meth := k9m0) (c := k9c0) (by decide +kernel) rfl rfl rfl (by decide +kernel)
set_option maxRecDepth 65536 in
theorem w_c11 : (Jvm.Cond.code ({ cls := "com/example/tukda/tukda/cli/Command$Option", name := "name", desc := "()Ljava/lang/String;" } : Jvm.MethodName) prog_4_method_6_code (1 : Nat) (Option.some (Jvm.ClassFile.FieldType.object "java/lang/String"))).before args0 about1 = true := code_word (m := ⟨9, 2⟩) (meth := k9m2) (c := k9c2) (by decide +kernel) rfl rfl rfl (by decide +kernel)
set_option maxRecDepth 65536 in
theorem w_c12 : (Jvm.Cond.code ({ cls := "java/lang/String", name := "equals", desc := "(Ljava/lang/Object;)Z" } : Jvm.MethodName) jdk_42_method_66_code (3 : Nat) (Option.some Jvm.ClassFile.FieldType.boolean)).before args0 about1 = true := code_word (m := ⟨7, 4⟩) (meth := k7m4) (c := k7c4) (by decide +kernel) rfl rfl rfl (by decide +kernel)
set_option maxRecDepth 65536 in
theorem w_c13 : (Jvm.Cond.code ({ cls := "com/example/tukda/tukda/cli/Command$Option", name := "takesValue", desc := "()Z" } : Jvm.MethodName) prog_4_method_7_code (1 : Nat) (Option.some Jvm.ClassFile.FieldType.boolean)).before args0 about1 = true := code_word (m := ⟨9, 3⟩) (meth := k9m3) (c := k9c3) (by decide +kernel) rfl rfl rfl (by decide +kernel)
set_option maxRecDepth 65536 in
theorem w_c14 : (Jvm.Cond.code ({ cls := "com/example/tukda/tukda/cli/Command$Option", name := "isRequired", desc := "()Z" } : Jvm.MethodName) prog_4_method_8_code (1 : Nat) (Option.some Jvm.ClassFile.FieldType.boolean)).before args0 about1 = true := code_word (m := ⟨9, 4⟩) (meth := k9m4) (c := k9c4) (by decide +kernel) rfl rfl rfl (by decide +kernel)
set_option maxRecDepth 65536 in
theorem w_c15 : (Jvm.Cond.code ({ cls := "com/example/tukda/tukda/cli/Command$Option", name := "isRepeated", desc := "()Z" } : Jvm.MethodName) prog_4_method_9_code (1 : Nat) (Option.some Jvm.ClassFile.FieldType.boolean)).before args0 about1 = true := code_word (m := ⟨9, 5⟩) (meth := k9m5) (c := k9c5) (by decide +kernel) rfl rfl rfl (by decide +kernel)
set_option maxRecDepth 65536 in
theorem w_c16 : (Jvm.Cond.code ({ cls := "com/example/tukda/tukda/cli/Command$Option", name := "usage", desc := "()Ljava/lang/String;" } : Jvm.MethodName) prog_4_method_10_code (3 : Nat) (Option.some (Jvm.ClassFile.FieldType.object "java/lang/String"))).before args0 about1 = true := code_word (m := ⟨9, 6⟩) (meth := k9m6) (c := k9c6) (by decide +kernel) rfl rfl rfl (by decide +kernel)
set_option maxRecDepth 65536 in
theorem w_c17 : (Jvm.Cond.code ({ cls := "java/lang/StringBuilder", name := "<init>", desc := "()V" } : Jvm.MethodName) jdk_67_method_1_code (1 : Nat) (Option.none : Option Jvm.ClassFile.FieldType)).before args0 about1 = true := code_word (m := ⟨12, 0⟩) (meth := k12m0) (c := k12c0) (by decide +kernel) rfl rfl rfl (by decide +kernel)
set_option maxRecDepth 65536 in
theorem w_c18 : (Jvm.Cond.code ({ cls := "java/lang/AbstractStringBuilder", name := "<init>", desc := "(I)V" } : Jvm.MethodName) jdk_68_method_2_code (2 : Nat) (Option.none : Option Jvm.ClassFile.FieldType)).before args0 about1 = true := code_word (m := ⟨11, 1⟩) (meth := k11m1) (c := k11c1) (by decide +kernel) rfl rfl rfl (by decide +kernel)
set_option maxRecDepth 65536 in
theorem w_c19 : (Jvm.Cond.code ({ cls := "java/lang/StringBuilder", name := "append", desc := "(Ljava/lang/String;)Ljava/lang/StringBuilder;" } : Jvm.MethodName) jdk_67_method_7_code (2 : Nat) (Option.some (Jvm.ClassFile.FieldType.object "java/lang/StringBuilder"))).before args0 about1 = true := code_word (m := ⟨12, 1⟩) (meth := k12m1) (c := k12c1) (by decide +kernel) rfl rfl rfl (by decide +kernel)
set_option maxRecDepth 65536 in
theorem w_c20 : (Jvm.Cond.code ({ cls := "java/lang/AbstractStringBuilder", name := "append", desc := "(Ljava/lang/String;)Ljava/lang/AbstractStringBuilder;" } : Jvm.MethodName) jdk_68_method_22_code (3 : Nat) (Option.some (Jvm.ClassFile.FieldType.object "java/lang/AbstractStringBuilder"))).before args0 about1 = true := code_word (m := ⟨11, 4⟩) (meth := k11m4) (c := k11c4) (by decide +kernel) rfl rfl rfl (by decide +kernel)
set_option maxRecDepth 65536 in
theorem w_c21 : (Jvm.Cond.code ({ cls := "java/lang/String", name := "length", desc := "()I" } : Jvm.MethodName) jdk_42_method_54_code (1 : Nat) (Option.some Jvm.ClassFile.FieldType.int)).before args0 about1 = true := code_word (m := ⟨7, 3⟩) (meth := k7m3) (c := k7c3) (by decide +kernel) rfl rfl rfl (by decide +kernel)
set_option maxRecDepth 65536 in
theorem w_c22 : (Jvm.Cond.code ({ cls := "java/lang/String", name := "coder", desc := "()B" } : Jvm.MethodName) jdk_42_method_152_code (1 : Nat) (Option.some Jvm.ClassFile.FieldType.byte)).before args0 about1 = true := code_word (m := ⟨7, 8⟩) (meth := k7m8) (c := k7c8) (by decide +kernel) rfl rfl rfl (by decide +kernel)
set_option maxRecDepth 65536 in
theorem w_c23 : (Jvm.Cond.code ({ cls := "java/lang/AbstractStringBuilder", name := "ensureCapacityInternal", desc := "(I)V" } : Jvm.MethodName) jdk_68_method_9_code (3 : Nat) (Option.none : Option Jvm.ClassFile.FieldType)).before args0 about1 = true := code_word (m := ⟨11, 3⟩) (meth := k11m3) (c := k11c3) (by decide +kernel) rfl rfl rfl (by decide +kernel)
set_option maxRecDepth 65536 in
theorem w_c24 : (Jvm.Cond.code ({ cls := "java/lang/AbstractStringBuilder", name := "putStringAt", desc := "(ILjava/lang/String;)V" } : Jvm.MethodName) jdk_68_method_73_code (3 : Nat) (Option.none : Option Jvm.ClassFile.FieldType)).before args0 about1 = true := code_word (m := ⟨11, 8⟩) (meth := k11m8) (c := k11c8) (by decide +kernel) rfl rfl rfl (by decide +kernel)
set_option maxRecDepth 65536 in
theorem w_c25 : (Jvm.Cond.code ({ cls := "java/lang/AbstractStringBuilder", name := "inflateIfNeededFor", desc := "(Ljava/lang/String;)V" } : Jvm.MethodName) jdk_68_method_71_code (2 : Nat) (Option.none : Option Jvm.ClassFile.FieldType)).before args0 about1 = true := code_word (m := ⟨11, 7⟩) (meth := k11m7) (c := k11c7) (by decide +kernel) rfl rfl rfl (by decide +kernel)
set_option maxRecDepth 65536 in
theorem w_c26 : (Jvm.Cond.code ({ cls := "java/lang/String", name := "getBytes", desc := "([BIB)V" } : Jvm.MethodName) jdk_42_method_147_code (4 : Nat) (Option.none : Option Jvm.ClassFile.FieldType)).before args0 about1 = true := code_word (m := ⟨7, 5⟩) (meth := k7m5) (c := k7c5) (by decide +kernel) rfl rfl rfl (by decide +kernel)
set_option maxRecDepth 65536 in
theorem w_c27 : (Jvm.Cond.code ({ cls := "java/lang/StringBuilder", name := "toString", desc := "()Ljava/lang/String;" } : Jvm.MethodName) jdk_67_method_42_code (1 : Nat) (Option.some (Jvm.ClassFile.FieldType.object "java/lang/String"))).before args0 about1 = true := code_word (m := ⟨12, 2⟩) (meth := k12m2) (c := k12c2) (by decide +kernel) rfl rfl rfl (by decide +kernel)
set_option maxRecDepth 65536 in
theorem w_c28 : (Jvm.Cond.code ({ cls := "java/lang/String", name := "<init>", desc := "(Ljava/lang/StringBuilder;)V" } : Jvm.MethodName) jdk_42_method_53_code (2 : Nat) (Option.none : Option Jvm.ClassFile.FieldType)).before args0 about1 = true := code_word (m := ⟨7, 2⟩) (meth := k7m2) (c := k7c2) (by decide +kernel) rfl rfl rfl (by decide +kernel)
set_option maxRecDepth 65536 in
theorem w_c29 : (Jvm.Cond.code ({ cls := "java/lang/String", name := "<init>", desc := "(Ljava/lang/AbstractStringBuilder;Ljava/lang/Void;)V" } : Jvm.MethodName) jdk_42_method_150_code (5 : Nat) (Option.none : Option Jvm.ClassFile.FieldType)).before args0 about1 = true := code_word (m := ⟨7, 7⟩) (meth := k7m7) (c := k7c7) (by decide +kernel) rfl rfl rfl (by decide +kernel)
set_option maxRecDepth 65536 in
theorem w_c30 : (Jvm.Cond.code ({ cls := "java/lang/AbstractStringBuilder", name := "getValue", desc := "()[B" } : Jvm.MethodName) jdk_68_method_64_code (1 : Nat) (Option.some (Jvm.ClassFile.FieldType.array Jvm.ClassFile.FieldType.byte))).before args0 about1 = true := code_word (m := ⟨11, 5⟩) (meth := k11m5) (c := k11c5) (by decide +kernel) rfl rfl rfl (by decide +kernel)
set_option maxRecDepth 65536 in
theorem w_c31 : (Jvm.Cond.code ({ cls := "java/lang/StringBuilder", name := "length", desc := "()I" } : Jvm.MethodName) jdk_67_method_93_code (1 : Nat) (Option.some Jvm.ClassFile.FieldType.int)).before args0 about1 = true := code_word (m := ⟨12, 3⟩) (meth := k12m3) (c := k12c3) (by decide +kernel) rfl rfl rfl (by decide +kernel)
set_option maxRecDepth 65536 in
theorem w_c32 : (Jvm.Cond.code ({ cls := "java/lang/AbstractStringBuilder", name := "length", desc := "()I" } : Jvm.MethodName) jdk_68_method_6_code (1 : Nat) (Option.some Jvm.ClassFile.FieldType.int)).before args0 about1 = true := code_word (m := ⟨11, 2⟩) (meth := k11m2) (c := k11c2) (by decide +kernel) rfl rfl rfl (by decide +kernel)
set_option maxRecDepth 65536 in
theorem w_c33 : (Jvm.Cond.code ({ cls := "java/lang/AbstractStringBuilder", name := "isLatin1", desc := "()Z" } : Jvm.MethodName) jdk_68_method_68_code (1 : Nat) (Option.some Jvm.ClassFile.FieldType.boolean)).before args0 about1 = true := code_word (m := ⟨11, 6⟩) (meth := k11m6) (c := k11c6) (by decide +kernel) rfl rfl rfl (by decide +kernel)
set_option maxRecDepth 65536 in
theorem w_c34 : (Jvm.Cond.code ({ cls := "java/util/Arrays", name := "copyOfRange", desc := "([BII)[B" } : Jvm.MethodName) jdk_65_method_132_code (3 : Nat) (Option.some (Jvm.ClassFile.FieldType.array Jvm.ClassFile.FieldType.byte))).before args0 about1 = true := code_word (m := ⟨14, 2⟩) (meth := k14m2) (c := k14c2) (by decide +kernel) rfl rfl rfl (by decide +kernel)
set_option maxRecDepth 65536 in
theorem w_c35 : (Jvm.Cond.code ({ cls := "java/util/Arrays", name := "copyOfRangeByte", desc := "([BII)[B" } : Jvm.MethodName) jdk_65_method_133_code (5 : Nat) (Option.some (Jvm.ClassFile.FieldType.array Jvm.ClassFile.FieldType.byte))).before args0 about1 = true := code_word (m := ⟨14, 3⟩) (meth := k14m3) (c := k14c3) (by decide +kernel) rfl rfl rfl (by decide +kernel)
set_option maxRecDepth 65536 in
theorem w_c36 : (Jvm.Cond.code ({ cls := "java/util/Arrays", name := "checkLength", desc := "(II)V" } : Jvm.MethodName) jdk_65_method_131_code (2 : Nat) (Option.none : Option Jvm.ClassFile.FieldType)).before args0 about1 = true := code_word (m := ⟨14, 1⟩) (meth := k14m1) (c := k14c1) (by decide +kernel) rfl rfl rfl (by decide +kernel)
set_option maxRecDepth 65536 in
theorem w_c37 : (Jvm.Cond.code ({ cls := "java/lang/Math", name := "min", desc := "(II)I" } : Jvm.MethodName) jdk_29_method_69_code (2 : Nat) (Option.some Jvm.ClassFile.FieldType.int)).before args0 about1 = true := code_word (m := ⟨15, 1⟩) (meth := k15m1) (c := k15c1) (by decide +kernel) rfl rfl rfl (by decide +kernel)
set_option maxRecDepth 65536 in
theorem w_c38 : (Jvm.Cond.code ({ cls := "java/lang/StringLatin1", name := "equals", desc := "([B[B)Z" } : Jvm.MethodName) jdk_43_method_13_code (3 : Nat) (Option.some Jvm.ClassFile.FieldType.boolean)).before args0 about1 = true := code_word (m := ⟨16, 1⟩) (meth := k16m1) (c := k16c1) (by decide +kernel) rfl rfl rfl (by decide +kernel)
def codes1 : List Jvm.Cond := [Jvm.Cond.code x code maxLocals ret, Jvm.Cond.code ({ cls := "com/example/tukda/tukda/cli/OptionFlagPinLaw", name := "plain", desc := "(ICCC)Ljava/lang/String;" } : Jvm.MethodName) method_3_code (4 : Nat) (Option.some (Jvm.ClassFile.FieldType.object "java/lang/String")), Jvm.Cond.code ({ cls := "java/lang/String", name := "<init>", desc := "([C)V" } : Jvm.MethodName) jdk_42_method_3_code (2 : Nat) (Option.none : Option Jvm.ClassFile.FieldType), Jvm.Cond.code ({ cls := "java/lang/String", name := "<init>", desc := "([CIILjava/lang/Void;)V" } : Jvm.MethodName) jdk_42_method_149_code (6 : Nat) (Option.none : Option Jvm.ClassFile.FieldType), Jvm.Cond.code ({ cls := "java/lang/Object", name := "<init>", desc := "()V" } : Jvm.MethodName) object_method_1_code (1 : Nat) (Option.none : Option Jvm.ClassFile.FieldType), Jvm.Cond.code ({ cls := "com/example/tukda/tukda/cli/OptionFlagPinLaw", name := "bracketed", desc := "(ICCC)Ljava/lang/String;" } : Jvm.MethodName) method_4_code (4 : Nat) (Option.some (Jvm.ClassFile.FieldType.object "java/lang/String")), Jvm.Cond.code ({ cls := "java/lang/StringUTF16", name := "compress", desc := "([CII)[B" } : Jvm.MethodName) jdk_52_method_16_code (6 : Nat) (Option.some (Jvm.ClassFile.FieldType.array Jvm.ClassFile.FieldType.byte)), Jvm.Cond.code ({ cls := "java/lang/StringUTF16", name := "compress", desc := "([CI[BII)I" } : Jvm.MethodName) jdk_52_method_21_code (7 : Nat) (Option.some Jvm.ClassFile.FieldType.int), Jvm.Cond.code ({ cls := "java/lang/StringUTF16", name := "coderFromArrayLen", desc := "([BI)B" } : Jvm.MethodName) jdk_52_method_15_code (2 : Nat) (Option.some Jvm.ClassFile.FieldType.byte), Jvm.Cond.code ({ cls := "com/example/tukda/tukda/cli/Command$Option", name := "flag", desc := "(Ljava/lang/String;)Lcom/example/tukda/tukda/cli/Command$Option;" } : Jvm.MethodName) prog_4_method_4_code (1 : Nat) (Option.some (Jvm.ClassFile.FieldType.object "com/example/tukda/tukda/cli/Command$Option")), Jvm.Cond.code ({ cls := "com/example/tukda/tukda/cli/Command$Option", name := "<init>", desc := "(Ljava/lang/String;Ljava/lang/String;ZZ)V" } : Jvm.MethodName) prog_4_method_1_code (5 : Nat) (Option.none : Option Jvm.ClassFile.FieldType), Jvm.Cond.code ({ cls := "com/example/tukda/tukda/cli/Command$Option", name := "name", desc := "()Ljava/lang/String;" } : Jvm.MethodName) prog_4_method_6_code (1 : Nat) (Option.some (Jvm.ClassFile.FieldType.object "java/lang/String")), Jvm.Cond.code ({ cls := "java/lang/String", name := "equals", desc := "(Ljava/lang/Object;)Z" } : Jvm.MethodName) jdk_42_method_66_code (3 : Nat) (Option.some Jvm.ClassFile.FieldType.boolean), Jvm.Cond.code ({ cls := "com/example/tukda/tukda/cli/Command$Option", name := "takesValue", desc := "()Z" } : Jvm.MethodName) prog_4_method_7_code (1 : Nat) (Option.some Jvm.ClassFile.FieldType.boolean), Jvm.Cond.code ({ cls := "com/example/tukda/tukda/cli/Command$Option", name := "isRequired", desc := "()Z" } : Jvm.MethodName) prog_4_method_8_code (1 : Nat) (Option.some Jvm.ClassFile.FieldType.boolean), Jvm.Cond.code ({ cls := "com/example/tukda/tukda/cli/Command$Option", name := "isRepeated", desc := "()Z" } : Jvm.MethodName) prog_4_method_9_code (1 : Nat) (Option.some Jvm.ClassFile.FieldType.boolean), Jvm.Cond.code ({ cls := "com/example/tukda/tukda/cli/Command$Option", name := "usage", desc := "()Ljava/lang/String;" } : Jvm.MethodName) prog_4_method_10_code (3 : Nat) (Option.some (Jvm.ClassFile.FieldType.object "java/lang/String")), Jvm.Cond.code ({ cls := "java/lang/StringBuilder", name := "<init>", desc := "()V" } : Jvm.MethodName) jdk_67_method_1_code (1 : Nat) (Option.none : Option Jvm.ClassFile.FieldType), Jvm.Cond.code ({ cls := "java/lang/AbstractStringBuilder", name := "<init>", desc := "(I)V" } : Jvm.MethodName) jdk_68_method_2_code (2 : Nat) (Option.none : Option Jvm.ClassFile.FieldType), Jvm.Cond.code ({ cls := "java/lang/StringBuilder", name := "append", desc := "(Ljava/lang/String;)Ljava/lang/StringBuilder;" } : Jvm.MethodName) jdk_67_method_7_code (2 : Nat) (Option.some (Jvm.ClassFile.FieldType.object "java/lang/StringBuilder")), Jvm.Cond.code ({ cls := "java/lang/AbstractStringBuilder", name := "append", desc := "(Ljava/lang/String;)Ljava/lang/AbstractStringBuilder;" } : Jvm.MethodName) jdk_68_method_22_code (3 : Nat) (Option.some (Jvm.ClassFile.FieldType.object "java/lang/AbstractStringBuilder")), Jvm.Cond.code ({ cls := "java/lang/String", name := "length", desc := "()I" } : Jvm.MethodName) jdk_42_method_54_code (1 : Nat) (Option.some Jvm.ClassFile.FieldType.int), Jvm.Cond.code ({ cls := "java/lang/String", name := "coder", desc := "()B" } : Jvm.MethodName) jdk_42_method_152_code (1 : Nat) (Option.some Jvm.ClassFile.FieldType.byte), Jvm.Cond.code ({ cls := "java/lang/AbstractStringBuilder", name := "ensureCapacityInternal", desc := "(I)V" } : Jvm.MethodName) jdk_68_method_9_code (3 : Nat) (Option.none : Option Jvm.ClassFile.FieldType), Jvm.Cond.code ({ cls := "java/lang/AbstractStringBuilder", name := "putStringAt", desc := "(ILjava/lang/String;)V" } : Jvm.MethodName) jdk_68_method_73_code (3 : Nat) (Option.none : Option Jvm.ClassFile.FieldType), Jvm.Cond.code ({ cls := "java/lang/AbstractStringBuilder", name := "inflateIfNeededFor", desc := "(Ljava/lang/String;)V" } : Jvm.MethodName) jdk_68_method_71_code (2 : Nat) (Option.none : Option Jvm.ClassFile.FieldType), Jvm.Cond.code ({ cls := "java/lang/String", name := "getBytes", desc := "([BIB)V" } : Jvm.MethodName) jdk_42_method_147_code (4 : Nat) (Option.none : Option Jvm.ClassFile.FieldType), Jvm.Cond.code ({ cls := "java/lang/StringBuilder", name := "toString", desc := "()Ljava/lang/String;" } : Jvm.MethodName) jdk_67_method_42_code (1 : Nat) (Option.some (Jvm.ClassFile.FieldType.object "java/lang/String")), Jvm.Cond.code ({ cls := "java/lang/String", name := "<init>", desc := "(Ljava/lang/StringBuilder;)V" } : Jvm.MethodName) jdk_42_method_53_code (2 : Nat) (Option.none : Option Jvm.ClassFile.FieldType), Jvm.Cond.code ({ cls := "java/lang/String", name := "<init>", desc := "(Ljava/lang/AbstractStringBuilder;Ljava/lang/Void;)V" } : Jvm.MethodName) jdk_42_method_150_code (5 : Nat) (Option.none : Option Jvm.ClassFile.FieldType), Jvm.Cond.code ({ cls := "java/lang/AbstractStringBuilder", name := "getValue", desc := "()[B" } : Jvm.MethodName) jdk_68_method_64_code (1 : Nat) (Option.some (Jvm.ClassFile.FieldType.array Jvm.ClassFile.FieldType.byte)), Jvm.Cond.code ({ cls := "java/lang/StringBuilder", name := "length", desc := "()I" } : Jvm.MethodName) jdk_67_method_93_code (1 : Nat) (Option.some Jvm.ClassFile.FieldType.int), Jvm.Cond.code ({ cls := "java/lang/AbstractStringBuilder", name := "length", desc := "()I" } : Jvm.MethodName) jdk_68_method_6_code (1 : Nat) (Option.some Jvm.ClassFile.FieldType.int), Jvm.Cond.code ({ cls := "java/lang/AbstractStringBuilder", name := "isLatin1", desc := "()Z" } : Jvm.MethodName) jdk_68_method_68_code (1 : Nat) (Option.some Jvm.ClassFile.FieldType.boolean), Jvm.Cond.code ({ cls := "java/util/Arrays", name := "copyOfRange", desc := "([BII)[B" } : Jvm.MethodName) jdk_65_method_132_code (3 : Nat) (Option.some (Jvm.ClassFile.FieldType.array Jvm.ClassFile.FieldType.byte)), Jvm.Cond.code ({ cls := "java/util/Arrays", name := "copyOfRangeByte", desc := "([BII)[B" } : Jvm.MethodName) jdk_65_method_133_code (5 : Nat) (Option.some (Jvm.ClassFile.FieldType.array Jvm.ClassFile.FieldType.byte)), Jvm.Cond.code ({ cls := "java/util/Arrays", name := "checkLength", desc := "(II)V" } : Jvm.MethodName) jdk_65_method_131_code (2 : Nat) (Option.none : Option Jvm.ClassFile.FieldType), Jvm.Cond.code ({ cls := "java/lang/Math", name := "min", desc := "(II)I" } : Jvm.MethodName) jdk_29_method_69_code (2 : Nat) (Option.some Jvm.ClassFile.FieldType.int), Jvm.Cond.code ({ cls := "java/lang/StringLatin1", name := "equals", desc := "([B[B)Z" } : Jvm.MethodName) jdk_43_method_13_code (3 : Nat) (Option.some Jvm.ClassFile.FieldType.boolean)]
set_option maxRecDepth 65536 in
theorem codes_eq : words1.filter isCode = codes1 := rfl
theorem w_codes : ∀ c ∈ words1.filter isCode, c.before args0 about1 = true := by
  rw [codes_eq]
  intro c hc
  simp only [codes1, List.mem_cons, List.not_mem_nil, or_false] at hc
  rcases hc with rfl | rfl | rfl | rfl | rfl | rfl | rfl | rfl | rfl | rfl | rfl | rfl | rfl | rfl | rfl | rfl | rfl | rfl | rfl | rfl | rfl | rfl | rfl | rfl | rfl | rfl | rfl | rfl | rfl | rfl | rfl | rfl | rfl | rfl | rfl | rfl | rfl | rfl | rfl
  · exact w_c0
  · exact w_c1
  · exact w_c2
  · exact w_c3
  · exact w_c4
  · exact w_c5
  · exact w_c6
  · exact w_c7
  · exact w_c8
  · exact w_c9
  · exact w_c10
  · exact w_c11
  · exact w_c12
  · exact w_c13
  · exact w_c14
  · exact w_c15
  · exact w_c16
  · exact w_c17
  · exact w_c18
  · exact w_c19
  · exact w_c20
  · exact w_c21
  · exact w_c22
  · exact w_c23
  · exact w_c24
  · exact w_c25
  · exact w_c26
  · exact w_c27
  · exact w_c28
  · exact w_c29
  · exact w_c30
  · exact w_c31
  · exact w_c32
  · exact w_c33
  · exact w_c34
  · exact w_c35
  · exact w_c36
  · exact w_c37
  · exact w_c38
set_option maxRecDepth 65536 in
theorem w_t1 : (words1.take 24).all (fun c => isCode c || c.before args0 about1) = true := by decide +kernel
set_option maxRecDepth 65536 in
theorem w_t2 : ((words1.drop 24).take 24).all (fun c => isCode c || c.before args0 about1) = true := by decide +kernel
set_option maxRecDepth 65536 in
theorem w_t3 : (((words1.drop 24).drop 24).take 24).all (fun c => isCode c || c.before args0 about1) = true := by decide +kernel
set_option maxRecDepth 65536 in
theorem w_t4 : ((((words1.drop 24).drop 24).drop 24).take 24).all (fun c => isCode c || c.before args0 about1) = true := by decide +kernel
set_option maxRecDepth 65536 in
theorem w_t5 : (((((words1.drop 24).drop 24).drop 24).drop 24).take 24).all (fun c => isCode c || c.before args0 about1) = true := by decide +kernel
set_option maxRecDepth 65536 in
theorem w_t6 : ((((((words1.drop 24).drop 24).drop 24).drop 24).drop 24).take 24).all (fun c => isCode c || c.before args0 about1) = true := by decide +kernel
set_option maxRecDepth 65536 in
theorem w_t7 : (((((((words1.drop 24).drop 24).drop 24).drop 24).drop 24).drop 24).take 24).all (fun c => isCode c || c.before args0 about1) = true := by decide +kernel
set_option maxRecDepth 65536 in
theorem w_t8 : ((((((((words1.drop 24).drop 24).drop 24).drop 24).drop 24).drop 24).drop 24).take 24).all (fun c => isCode c || c.before args0 about1) = true := by decide +kernel
set_option maxRecDepth 65536 in
theorem w_t9 : ((((((((words1.drop 24).drop 24).drop 24).drop 24).drop 24).drop 24).drop 24).drop 24).all (fun c => isCode c || c.before args0 about1) = true := by decide +kernel
theorem w_tables : (allAtoms (Jvm.Cond.code x code maxLocals ret :: tables_1)).before args0 about1 = true := by
  rw [allAtoms_all]
  show words1.all (fun c => c.before args0 about1) = true
  refine all_split ?_ w_codes
  rw [← List.take_append_drop 24 words1, List.all_append, w_t1, ← List.take_append_drop 24 (words1.drop 24), List.all_append, w_t2, ← List.take_append_drop 24 ((words1.drop 24).drop 24), List.all_append, w_t3, ← List.take_append_drop 24 (((words1.drop 24).drop 24).drop 24), List.all_append, w_t4, ← List.take_append_drop 24 ((((words1.drop 24).drop 24).drop 24).drop 24), List.all_append, w_t5, ← List.take_append_drop 24 (((((words1.drop 24).drop 24).drop 24).drop 24).drop 24), List.all_append, w_t6, ← List.take_append_drop 24 ((((((words1.drop 24).drop 24).drop 24).drop 24).drop 24).drop 24), List.all_append, w_t7, ← List.take_append_drop 24 (((((((words1.drop 24).drop 24).drop 24).drop 24).drop 24).drop 24).drop 24), List.all_append, w_t8, w_t9]
  rfl
set_option maxRecDepth 65536 in
theorem w_rest : rest_1_c.before args0 about1 = true := by decide +kernel
set_option maxRecDepth 65536 in
theorem w_case : (Jvm.Cond.and given_1 narrow_1).before args0 about1 = true := by decide +kernel
set_option maxRecDepth 65536 in
theorem w_consts : constsHeld consts_1 about1 := Jvm.Lit.constsHeldB_iff.mp (by decide +kernel)
theorem w_applies : (headSpec (Jvm.Cond.code x code maxLocals ret :: tables_1) room_1).applies x e0.platform about1 = true :=
  (Spec.applies_iff w_frames).mpr ⟨w_running, w_runnable, w_alone, w_named, w_hears, w_ripe, w_room, w_tables⟩
theorem atStart : AtStart classFile x code maxLocals ret World_1 tables_1 room_1 Calls_1 rest_1 Pre_1 launch0 p0 e0 about1 theMethod args0 below0 :=
  ⟨lists_1, trivial, launch0.admits_env _ _ _, launch0.least_env, fairChoices_fair.cas, fairChoices_fair.clock, w_frames, w_args, w_heap, w_applies, ⟨w_consts, trivial⟩, w_rest, w_case⟩
end start1
theorem witness_1 : WitnessClaimed_1 := ⟨start1.p0, start1.e0, start1.about1, start1.theMethod, start1.args0, start1.below0, start1.atStart⟩
end Jvm.Pilot.@@N@@
