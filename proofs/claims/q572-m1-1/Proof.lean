import JvmDerived
import JvmDerived.Pilot.@@N@@Statement
import JvmDerived.Pilot.@@N@@Code
set_option linter.unusedVariables false
set_option linter.unusedSimpArgs false
namespace Jvm.Pilot.@@N@@
open Jvm Jvm.ClassFile Sem Op Lib Jvm.Free Jvm.Stand Jvm.LawKit Jvm.RoadKit Bundle Jvm.Pilot.@@N@@.Jvm.D
section OwnKit
open Jvm.FP Jvm.Free.Fl
variable {p : Program} {l : Launch} {e : Env} {R : Room} {s : State} {m : MethodId} {args : Array Value} {below : List Frame} {meth : Method} {c : Code} {T : State} {Z : State} {a0 : Array Value} {h : Heap} {n0 cells slots nc ns pc pc' : Nat} {Ls : Array Slot} {st rest : List Value} {Q : Option Value → Heap → Prop}
/-- a contract: the method returns, what it leaves is Q, and nothing below n0 is written -/
def Con (l : Launch) (Z : State) (n0 : Nat) (y : MethodName) (bytes : ByteArray) (ml : Nat) (ret : Option FieldType) (ws : List Jvm.Cond) (rm : Room) (as : Array Value) (h0 : Heap) (Q : Option Value → Heap → Prop) : Prop :=
  MetFree l y (head1 (Jvm.Cond.code y bytes ml ret :: ws) rm) (fun a U => a = as ∧ Z.Warmed39 U.vm ∧ U.heap = h0) (fun _ _ _ _ _ => True) (fun _ U o U' => ∃ v L, o = .returned v ∧ (Fr n0 L ∧ Q v U'.heap) ∧ FrameEnd U o U' L rm.cells rm.slots)
/-- where a walk stands, the places written kept to themselves -/
def Wk (p : Program) (l : Launch) (e : Env) (R : Room) (s : State) (m : MethodId) (args : Array Value) (below : List Frame) (meth : Method) (c : Code) (n0 : Nat) (T : State) (h : Heap) (cells slots : Nat) : Prop :=
  ∃ locs, Stand p l e R s m args below meth c T locs cells slots ∧ Fr n0 locs ∧ T.heap = h
/-- from t the run ends, and leaves Q -/
def Go (p : Program) (e : Env) (below : List Frame) (s : State) (n0 : Nat) (Q : Option Value → Heap → Prop) (nc ns : Nat) (t : State) : Prop :=
  ∃ s₂ o, Steps p.tables e below t s₂ ∧ s₂.status = .running ∧ Ended s₂ below o ∧ ∃ v L, o = .returned v ∧ (Fr n0 L ∧ Q v s₂.heap) ∧ FrameEnd s o s₂ L nc ns
theorem Wk.here (X : Wk p l e R s m args below meth c n0 T h cells slots) : At T m c below := by obtain ⟨_, X, -⟩ := X; exact X.here
theorem Wk.heap (X : Wk p l e R s m args below meth c n0 T h cells slots) : T.heap = h := by obtain ⟨_, -, -, q⟩ := X; exact q
theorem go_back {t t' : State} (b : ∀ target, Steps p.tables e below t' target → Steps p.tables e below t target) (k : Go p e below s n0 Q nc ns t') : Go p e below s n0 Q nc ns t := by
  obtain ⟨u, o, h1, r⟩ := k
  exact ⟨u, o, b u h1, r⟩
theorem con_start {y : MethodName} {bytes : ByteArray} {ml : Nat} {ret : Option FieldType} {ws : List Jvm.Cond} {rm : Room} {as : Array Value} {h0 : Heap} (hpl : plainFor y = true) {fr0 : MethodId → JFrame} (hfr : ∀ m, entryFrame m as ml = fr0 m)
    (k : ∀ (p : Program) (e : Env) (s : State) (m : MethodId) (below : List Frame) (meth : Method) (c : Code) (s₁ : State), p.tables.exec = Jvm.exec → Z.Warmed39 s.vm → c.code = bytes → c.maxLocals = ml → s.vm.findClass y.cls = some m.cls → meth.name = y.name → meth.sig.returnType = ret → meth.locks = false →
      Wk p l e rm s m as below meth c n0 s₁ h0 0 0 → Go p e below s n0 Q rm.cells rm.slots (s₁.setTop (fr0 m))) : Con l Z n0 y bytes ml ret ws rm as h0 Q := by
  refine MetFree.of_bodySF hpl hisR ?_
  intro p e s m args below meth c s₁ Bd hml0 hP hK
  obtain ⟨rfl, hZ, hh⟩ := hP
  rw [hfr]
  exact k p e s m below meth c s₁ Bd.exec hZ Bd.bytes hml0 (findClass_of_methodNamed Bd.named) (name_of_methodNamed Bd.named Bd.method).1 Bd.returns Bd.notSynchronized ⟨[], Stand.of_body Bd, Fr.nil n0, by rw [← hh, Bd.state]; rfl⟩
/-- what an int branch asks -/
def cP : ClassFile.Cond → Int32 → Int32 → Prop
  | .eq, x, y => x = y
  | .ne, x, y => ¬ x = y
  | .lt, x, y => x < y
  | .ge, x, y => ¬ x < y
  | .gt, x, y => y < x
  | .le, x, y => ¬ y < x
theorem cP_yes {cd : ClassFile.Cond} {x y : Int32} (q : cP cd x y) : if_icmp.holds cd x y = true := by
  cases cd
  · exact (teq q).1
  · exact (feq q).2
  · exact (tlt q).1
  · exact (flt q).2.1
  · exact (tlt q).2.2.1
  · exact (flt q).2.2.2
theorem cP_no {cd : ClassFile.Cond} {x y : Int32} (q : ¬ cP cd x y) : if_icmp.holds cd x y = false := by
  cases cd
  · exact (feq q).1
  · exact (teq (Classical.not_not.mp q)).2
  · exact (flt q).1
  · exact (tlt (Classical.not_not.mp q)).2.1
  · exact (flt q).2.2.1
  · exact (tlt (Classical.not_not.mp q)).2.2.2
theorem g_iload (X : Wk p l e R s m args below meth c n0 T h cells slots) (hx : p.tables.exec = Jvm.exec) {k : Nat} {v : Int32} (hp : pc + 2 = pc') (hd : decode c.code pc = .ok (.iload k, 2)) (hl : Ls[k]? = some (.val (.int v))) (k : Go p e below s n0 Q nc ns (T.setTop (mkF m pc' Ls (.int v :: st)))) : Go p e below s n0 Q nc ns (T.setTop (mkF m pc Ls (st))) := by
  subst hp; exact go_back (fun _ j => XS.iload X.here hx rfl hd hl j) k
theorem g_iloadN (X : Wk p l e R s m args below meth c n0 T h cells slots) (hx : p.tables.exec = Jvm.exec) {k : Fin 4} {v : Int32} (hp : pc + 1 = pc') (hd : decode c.code pc = .ok (.iload_n k, 1)) (hl : Ls[k.val]? = some (.val (.int v))) (k : Go p e below s n0 Q nc ns (T.setTop (mkF m pc' Ls (.int v :: st)))) : Go p e below s n0 Q nc ns (T.setTop (mkF m pc Ls (st))) := by
  subst hp; exact go_back (fun _ j => XS.iloadN X.here hx rfl hd hl j) k
theorem g_istore (X : Wk p l e R s m args below meth c n0 T h cells slots) (hx : p.tables.exec = Jvm.exec) {k : Nat} {x : Int32} {l' : Array Slot} (hp : pc + 2 = pc') (hd : decode c.code pc = .ok (.istore k, 2)) (hl : storeLocals Ls k (.int x) = some l') (k : Go p e below s n0 Q nc ns (T.setTop (mkF m pc' l' (rest)))) : Go p e below s n0 Q nc ns (T.setTop (mkF m pc Ls (.int x :: rest))) := by
  subst hp; exact go_back (fun _ j => XS.istore X.here hx rfl hd rfl hl j) k
theorem g_istoreN (X : Wk p l e R s m args below meth c n0 T h cells slots) (hx : p.tables.exec = Jvm.exec) {k : Fin 4} {x : Int32} {l' : Array Slot} (hp : pc + 1 = pc') (hd : decode c.code pc = .ok (.istore_n k, 1)) (hl : storeLocals Ls k.val (.int x) = some l') (k : Go p e below s n0 Q nc ns (T.setTop (mkF m pc' l' (rest)))) : Go p e below s n0 Q nc ns (T.setTop (mkF m pc Ls (.int x :: rest))) := by
  subst hp; exact go_back (fun _ j => XS.istoreN X.here hx rfl hd rfl hl j) k
theorem g_absI {x : Int32} (k : ∀ z : Int32, z = x → Go p e below s n0 Q nc ns (T.setTop (mkF m pc Ls (.int z :: rest)))) : Go p e below s n0 Q nc ns (T.setTop (mkF m pc Ls (.int x :: rest))) := k x rfl
theorem g_lload (X : Wk p l e R s m args below meth c n0 T h cells slots) (hx : p.tables.exec = Jvm.exec) {k : Nat} {v : Int64} (hp : pc + 2 = pc') (hd : decode c.code pc = .ok (.lload k, 2)) (hl : Ls[k]? = some (.val (.long v))) (k : Go p e below s n0 Q nc ns (T.setTop (mkF m pc' Ls (.long v :: st)))) : Go p e below s n0 Q nc ns (T.setTop (mkF m pc Ls (st))) := by
  subst hp; exact go_back (fun _ j => XS.lload X.here hx rfl hd hl j) k
theorem g_lloadN (X : Wk p l e R s m args below meth c n0 T h cells slots) (hx : p.tables.exec = Jvm.exec) {k : Fin 4} {v : Int64} (hp : pc + 1 = pc') (hd : decode c.code pc = .ok (.lload_n k, 1)) (hl : Ls[k.val]? = some (.val (.long v))) (k : Go p e below s n0 Q nc ns (T.setTop (mkF m pc' Ls (.long v :: st)))) : Go p e below s n0 Q nc ns (T.setTop (mkF m pc Ls (st))) := by
  subst hp; exact go_back (fun _ j => XS.lloadN X.here hx rfl hd hl j) k
theorem g_lstore (X : Wk p l e R s m args below meth c n0 T h cells slots) (hx : p.tables.exec = Jvm.exec) {k : Nat} {x : Int64} {l' : Array Slot} (hp : pc + 2 = pc') (hd : decode c.code pc = .ok (.lstore k, 2)) (hl : storeLocals Ls k (.long x) = some l') (k : Go p e below s n0 Q nc ns (T.setTop (mkF m pc' l' (rest)))) : Go p e below s n0 Q nc ns (T.setTop (mkF m pc Ls (.long x :: rest))) := by
  subst hp; exact go_back (fun _ j => XS.lstore X.here hx rfl hd rfl hl j) k
theorem g_lstoreN (X : Wk p l e R s m args below meth c n0 T h cells slots) (hx : p.tables.exec = Jvm.exec) {k : Fin 4} {x : Int64} {l' : Array Slot} (hp : pc + 1 = pc') (hd : decode c.code pc = .ok (.lstore_n k, 1)) (hl : storeLocals Ls k.val (.long x) = some l') (k : Go p e below s n0 Q nc ns (T.setTop (mkF m pc' l' (rest)))) : Go p e below s n0 Q nc ns (T.setTop (mkF m pc Ls (.long x :: rest))) := by
  subst hp; exact go_back (fun _ j => XS.lstoreN X.here hx rfl hd rfl hl j) k
theorem g_absL {x : Int64} (k : ∀ z : Int64, z = x → Go p e below s n0 Q nc ns (T.setTop (mkF m pc Ls (.long z :: rest)))) : Go p e below s n0 Q nc ns (T.setTop (mkF m pc Ls (.long x :: rest))) := k x rfl
theorem g_dload (X : Wk p l e R s m args below meth c n0 T h cells slots) (hx : p.tables.exec = Jvm.exec) {k : Nat} {v : UInt64} (hp : pc + 2 = pc') (hd : decode c.code pc = .ok (.dload k, 2)) (hl : Ls[k]? = some (.val (.double v))) (k : Go p e below s n0 Q nc ns (T.setTop (mkF m pc' Ls (.double v :: st)))) : Go p e below s n0 Q nc ns (T.setTop (mkF m pc Ls (st))) := by
  subst hp; exact go_back (fun _ j => XS.dload X.here hx rfl hd hl j) k
theorem g_dloadN (X : Wk p l e R s m args below meth c n0 T h cells slots) (hx : p.tables.exec = Jvm.exec) {k : Fin 4} {v : UInt64} (hp : pc + 1 = pc') (hd : decode c.code pc = .ok (.dload_n k, 1)) (hl : Ls[k.val]? = some (.val (.double v))) (k : Go p e below s n0 Q nc ns (T.setTop (mkF m pc' Ls (.double v :: st)))) : Go p e below s n0 Q nc ns (T.setTop (mkF m pc Ls (st))) := by
  subst hp; exact go_back (fun _ j => XS.dloadN X.here hx rfl hd hl j) k
theorem g_dstore (X : Wk p l e R s m args below meth c n0 T h cells slots) (hx : p.tables.exec = Jvm.exec) {k : Nat} {x : UInt64} {l' : Array Slot} (hp : pc + 2 = pc') (hd : decode c.code pc = .ok (.dstore k, 2)) (hl : storeLocals Ls k (.double x) = some l') (k : Go p e below s n0 Q nc ns (T.setTop (mkF m pc' l' (rest)))) : Go p e below s n0 Q nc ns (T.setTop (mkF m pc Ls (.double x :: rest))) := by
  subst hp; exact go_back (fun _ j => XS.dstore X.here hx rfl hd rfl hl j) k
theorem g_dstoreN (X : Wk p l e R s m args below meth c n0 T h cells slots) (hx : p.tables.exec = Jvm.exec) {k : Fin 4} {x : UInt64} {l' : Array Slot} (hp : pc + 1 = pc') (hd : decode c.code pc = .ok (.dstore_n k, 1)) (hl : storeLocals Ls k.val (.double x) = some l') (k : Go p e below s n0 Q nc ns (T.setTop (mkF m pc' l' (rest)))) : Go p e below s n0 Q nc ns (T.setTop (mkF m pc Ls (.double x :: rest))) := by
  subst hp; exact go_back (fun _ j => XS.dstoreN X.here hx rfl hd rfl hl j) k
theorem g_absD {x : UInt64} (k : ∀ z : UInt64, z = x → Go p e below s n0 Q nc ns (T.setTop (mkF m pc Ls (.double z :: rest)))) : Go p e below s n0 Q nc ns (T.setTop (mkF m pc Ls (.double x :: rest))) := k x rfl
theorem g_aload (X : Wk p l e R s m args below meth c n0 T h cells slots) (hx : p.tables.exec = Jvm.exec) {k : Nat} {v : Value} (hp : pc + 2 = pc') (hd : decode c.code pc = .ok (.aload k, 2)) (hl : Ls[k]? = some (.val v)) (hv : v.isRef = true) (k : Go p e below s n0 Q nc ns (T.setTop (mkF m pc' Ls (v :: st)))) : Go p e below s n0 Q nc ns (T.setTop (mkF m pc Ls (st))) := by
  subst hp; exact go_back (fun _ j => XS.aload X.here hx rfl hd hl hv j) k
theorem g_aloadN (X : Wk p l e R s m args below meth c n0 T h cells slots) (hx : p.tables.exec = Jvm.exec) {k : Fin 4} {v : Value} (hp : pc + 1 = pc') (hd : decode c.code pc = .ok (.aload_n k, 1)) (hl : Ls[k.val]? = some (.val v)) (hv : v.isRef = true) (k : Go p e below s n0 Q nc ns (T.setTop (mkF m pc' Ls (v :: st)))) : Go p e below s n0 Q nc ns (T.setTop (mkF m pc Ls (st))) := by
  subst hp; exact go_back (fun _ j => XS.aloadN X.here hx rfl hd hl hv j) k
theorem g_astore (X : Wk p l e R s m args below meth c n0 T h cells slots) (hx : p.tables.exec = Jvm.exec) {k : Nat} {x : Value} {l' : Array Slot} (hp : pc + 2 = pc') (hd : decode c.code pc = .ok (.astore k, 2)) (hv : x.isRef = true) (hl : storeLocals Ls k x = some l') (k : Go p e below s n0 Q nc ns (T.setTop (mkF m pc' l' (rest)))) : Go p e below s n0 Q nc ns (T.setTop (mkF m pc Ls (x :: rest))) := by
  subst hp; exact go_back (fun _ j => XS.astore X.here hx rfl hd rfl hv hl j) k
theorem g_astoreN (X : Wk p l e R s m args below meth c n0 T h cells slots) (hx : p.tables.exec = Jvm.exec) {k : Fin 4} {x : Value} {l' : Array Slot} (hp : pc + 1 = pc') (hd : decode c.code pc = .ok (.astore_n k, 1)) (hv : x.isRef = true) (hl : storeLocals Ls k.val x = some l') (k : Go p e below s n0 Q nc ns (T.setTop (mkF m pc' l' (rest)))) : Go p e below s n0 Q nc ns (T.setTop (mkF m pc Ls (x :: rest))) := by
  subst hp; exact go_back (fun _ j => XS.astoreN X.here hx rfl hd rfl hv hl j) k
theorem g_iconst (X : Wk p l e R s m args below meth c n0 T h cells slots) (hx : p.tables.exec = Jvm.exec) {i : Int} {z : Int32} (hp : pc + 1 = pc') (hd : decode c.code pc = .ok (.iconst i, 1)) (hz : Int32.ofInt i = z) (k : Go p e below s n0 Q nc ns (T.setTop (mkF m pc' Ls (.int z :: st)))) : Go p e below s n0 Q nc ns (T.setTop (mkF m pc Ls (st))) := by
  subst hp; exact go_back (fun _ j => XS.iconst X.here hx rfl hd (show Steps _ _ _ (T.setTop (mkF m (pc + 1) Ls (.int (Int32.ofInt i) :: st))) _ from hz ▸ j)) k
theorem g_bipush (X : Wk p l e R s m args below meth c n0 T h cells slots) (hx : p.tables.exec = Jvm.exec) {i : Int} {z : Int32} (hp : pc + 2 = pc') (hd : decode c.code pc = .ok (.bipush i, 2)) (hz : (Int8.ofInt i).toInt32 = z) (k : Go p e below s n0 Q nc ns (T.setTop (mkF m pc' Ls (.int z :: st)))) : Go p e below s n0 Q nc ns (T.setTop (mkF m pc Ls (st))) := by
  subst hp; exact go_back (fun _ j => XS.bipush X.here hx rfl hd (show Steps _ _ _ (T.setTop (mkF m (pc + 2) Ls (.int (Int8.ofInt i).toInt32 :: st))) _ from hz ▸ j)) k
theorem g_sipush (X : Wk p l e R s m args below meth c n0 T h cells slots) (hx : p.tables.exec = Jvm.exec) {i : Int} {z : Int32} (hp : pc + 3 = pc') (hd : decode c.code pc = .ok (.sipush i, 3)) (hz : (Int16.ofInt i).toInt32 = z) (k : Go p e below s n0 Q nc ns (T.setTop (mkF m pc' Ls (.int z :: st)))) : Go p e below s n0 Q nc ns (T.setTop (mkF m pc Ls (st))) := by
  subst hp; exact go_back (fun _ j => XS.sipush X.here hx rfl hd (show Steps _ _ _ (T.setTop (mkF m (pc + 3) Ls (.int (Int16.ofInt i).toInt32 :: st))) _ from hz ▸ j)) k
theorem g_lconst (X : Wk p l e R s m args below meth c n0 T h cells slots) (hx : p.tables.exec = Jvm.exec) {i : Fin 2} {z : Int64} (hp : pc + 1 = pc') (hd : decode c.code pc = .ok (.lconst i, 1)) (hz : Int64.ofNat i = z) (k : Go p e below s n0 Q nc ns (T.setTop (mkF m pc' Ls (.long z :: st)))) : Go p e below s n0 Q nc ns (T.setTop (mkF m pc Ls (st))) := by
  subst hp; exact go_back (fun _ j => XS.lconst X.here hx rfl hd (show Steps _ _ _ (T.setTop (mkF m (pc + 1) Ls (.long (Int64.ofNat i) :: st))) _ from hz ▸ j)) k
theorem g_dconst0 (X : Wk p l e R s m args below meth c n0 T h cells slots) (hx : p.tables.exec = Jvm.exec)  (hp : pc + 1 = pc') (hd : decode c.code pc = .ok (.dconst 0, 1))  (k : Go p e below s n0 Q nc ns (T.setTop (mkF m pc' Ls (.double 0 :: st)))) : Go p e below s n0 Q nc ns (T.setTop (mkF m pc Ls (st))) := by
  subst hp; exact go_back (fun _ j => XS.dconst0 X.here hx rfl hd rfl j) k
theorem g_dconst1 (X : Wk p l e R s m args below meth c n0 T h cells slots) (hx : p.tables.exec = Jvm.exec)  (hp : pc + 1 = pc') (hd : decode c.code pc = .ok (.dconst 1, 1))  (k : Go p e below s n0 Q nc ns (T.setTop (mkF m pc' Ls (.double 4607182418800017408 :: st)))) : Go p e below s n0 Q nc ns (T.setTop (mkF m pc Ls (st))) := by
  subst hp; exact go_back (fun _ j => XS.dconst1 X.here hx rfl hd rfl j) k
theorem g_aconst_null (X : Wk p l e R s m args below meth c n0 T h cells slots) (hx : p.tables.exec = Jvm.exec)  (hp : pc + 1 = pc') (hd : decode c.code pc = .ok (.aconst_null, 1))  (k : Go p e below s n0 Q nc ns (T.setTop (mkF m pc' Ls (.null :: st)))) : Go p e below s n0 Q nc ns (T.setTop (mkF m pc Ls (st))) := by
  subst hp; exact go_back (fun _ j => XS.aconstNull X.here hx rfl hd j) k
theorem g_iadd (X : Wk p l e R s m args below meth c n0 T h cells slots) (hx : p.tables.exec = Jvm.exec) {x y : Int32} (hp : pc + 1 = pc') (hd : decode c.code pc = .ok (.iadd, 1))  (k : Go p e below s n0 Q nc ns (T.setTop (mkF m pc' Ls (.int (x + y) :: rest)))) : Go p e below s n0 Q nc ns (T.setTop (mkF m pc Ls (.int y :: .int x :: rest))) := by
  subst hp; exact go_back (fun _ j => XS.iadd X.here hx rfl hd rfl j) k
theorem g_ladd (X : Wk p l e R s m args below meth c n0 T h cells slots) (hx : p.tables.exec = Jvm.exec) {x y : Int64} (hp : pc + 1 = pc') (hd : decode c.code pc = .ok (.ladd, 1))  (k : Go p e below s n0 Q nc ns (T.setTop (mkF m pc' Ls (.long (x + y) :: rest)))) : Go p e below s n0 Q nc ns (T.setTop (mkF m pc Ls (.long y :: .long x :: rest))) := by
  subst hp; exact go_back (fun _ j => XS.ladd X.here hx rfl hd rfl j) k
theorem g_isub (X : Wk p l e R s m args below meth c n0 T h cells slots) (hx : p.tables.exec = Jvm.exec) {x y : Int32} (hp : pc + 1 = pc') (hd : decode c.code pc = .ok (.isub, 1))  (k : Go p e below s n0 Q nc ns (T.setTop (mkF m pc' Ls (.int (x - y) :: rest)))) : Go p e below s n0 Q nc ns (T.setTop (mkF m pc Ls (.int y :: .int x :: rest))) := by
  subst hp; exact go_back (fun _ j => XS.isub X.here hx rfl hd rfl j) k
theorem g_lsub (X : Wk p l e R s m args below meth c n0 T h cells slots) (hx : p.tables.exec = Jvm.exec) {x y : Int64} (hp : pc + 1 = pc') (hd : decode c.code pc = .ok (.lsub, 1))  (k : Go p e below s n0 Q nc ns (T.setTop (mkF m pc' Ls (.long (x - y) :: rest)))) : Go p e below s n0 Q nc ns (T.setTop (mkF m pc Ls (.long y :: .long x :: rest))) := by
  subst hp; exact go_back (fun _ j => XS.lsub X.here hx rfl hd rfl j) k
theorem g_imul (X : Wk p l e R s m args below meth c n0 T h cells slots) (hx : p.tables.exec = Jvm.exec) {x y : Int32} (hp : pc + 1 = pc') (hd : decode c.code pc = .ok (.imul, 1))  (k : Go p e below s n0 Q nc ns (T.setTop (mkF m pc' Ls (.int (x * y) :: rest)))) : Go p e below s n0 Q nc ns (T.setTop (mkF m pc Ls (.int y :: .int x :: rest))) := by
  subst hp; exact go_back (fun _ j => XS.imul X.here hx rfl hd rfl j) k
theorem g_lmul (X : Wk p l e R s m args below meth c n0 T h cells slots) (hx : p.tables.exec = Jvm.exec) {x y : Int64} (hp : pc + 1 = pc') (hd : decode c.code pc = .ok (.lmul, 1))  (k : Go p e below s n0 Q nc ns (T.setTop (mkF m pc' Ls (.long (x * y) :: rest)))) : Go p e below s n0 Q nc ns (T.setTop (mkF m pc Ls (.long y :: .long x :: rest))) := by
  subst hp; exact go_back (fun _ j => XS.lmul X.here hx rfl hd rfl j) k
theorem g_iand (X : Wk p l e R s m args below meth c n0 T h cells slots) (hx : p.tables.exec = Jvm.exec) {x y : Int32} (hp : pc + 1 = pc') (hd : decode c.code pc = .ok (.iand, 1))  (k : Go p e below s n0 Q nc ns (T.setTop (mkF m pc' Ls (.int (x &&& y) :: rest)))) : Go p e below s n0 Q nc ns (T.setTop (mkF m pc Ls (.int y :: .int x :: rest))) := by
  subst hp; exact go_back (fun _ j => XS.iand X.here hx rfl hd rfl j) k
theorem g_land (X : Wk p l e R s m args below meth c n0 T h cells slots) (hx : p.tables.exec = Jvm.exec) {x y : Int64} (hp : pc + 1 = pc') (hd : decode c.code pc = .ok (.land, 1))  (k : Go p e below s n0 Q nc ns (T.setTop (mkF m pc' Ls (.long (x &&& y) :: rest)))) : Go p e below s n0 Q nc ns (T.setTop (mkF m pc Ls (.long y :: .long x :: rest))) := by
  subst hp; exact go_back (fun _ j => XS.land X.here hx rfl hd rfl j) k
theorem g_ior (X : Wk p l e R s m args below meth c n0 T h cells slots) (hx : p.tables.exec = Jvm.exec) {x y : Int32} (hp : pc + 1 = pc') (hd : decode c.code pc = .ok (.ior, 1))  (k : Go p e below s n0 Q nc ns (T.setTop (mkF m pc' Ls (.int (x ||| y) :: rest)))) : Go p e below s n0 Q nc ns (T.setTop (mkF m pc Ls (.int y :: .int x :: rest))) := by
  subst hp; exact go_back (fun _ j => XS.ior X.here hx rfl hd rfl j) k
theorem g_lor (X : Wk p l e R s m args below meth c n0 T h cells slots) (hx : p.tables.exec = Jvm.exec) {x y : Int64} (hp : pc + 1 = pc') (hd : decode c.code pc = .ok (.lor, 1))  (k : Go p e below s n0 Q nc ns (T.setTop (mkF m pc' Ls (.long (x ||| y) :: rest)))) : Go p e below s n0 Q nc ns (T.setTop (mkF m pc Ls (.long y :: .long x :: rest))) := by
  subst hp; exact go_back (fun _ j => XS.lor X.here hx rfl hd rfl j) k
theorem g_ixor (X : Wk p l e R s m args below meth c n0 T h cells slots) (hx : p.tables.exec = Jvm.exec) {x y : Int32} (hp : pc + 1 = pc') (hd : decode c.code pc = .ok (.ixor, 1))  (k : Go p e below s n0 Q nc ns (T.setTop (mkF m pc' Ls (.int (x ^^^ y) :: rest)))) : Go p e below s n0 Q nc ns (T.setTop (mkF m pc Ls (.int y :: .int x :: rest))) := by
  subst hp; exact go_back (fun _ j => XS.ixor X.here hx rfl hd rfl j) k
theorem g_lxor (X : Wk p l e R s m args below meth c n0 T h cells slots) (hx : p.tables.exec = Jvm.exec) {x y : Int64} (hp : pc + 1 = pc') (hd : decode c.code pc = .ok (.lxor, 1))  (k : Go p e below s n0 Q nc ns (T.setTop (mkF m pc' Ls (.long (x ^^^ y) :: rest)))) : Go p e below s n0 Q nc ns (T.setTop (mkF m pc Ls (.long y :: .long x :: rest))) := by
  subst hp; exact go_back (fun _ j => XS.lxor X.here hx rfl hd rfl j) k
theorem g_idiv (X : Wk p l e R s m args below meth c n0 T h cells slots) (hx : p.tables.exec = Jvm.exec) {x y : Int32} (hp : pc + 1 = pc') (hd : decode c.code pc = .ok (.idiv, 1)) (hy : y ≠ 0) (k : Go p e below s n0 Q nc ns (T.setTop (mkF m pc' Ls (.int (x / y) :: rest)))) : Go p e below s n0 Q nc ns (T.setTop (mkF m pc Ls (.int y :: .int x :: rest))) := by
  subst hp; exact go_back (fun _ j => XS.idiv X.here hx rfl hd rfl hy j) k
theorem g_irem (X : Wk p l e R s m args below meth c n0 T h cells slots) (hx : p.tables.exec = Jvm.exec) {x y : Int32} (hp : pc + 1 = pc') (hd : decode c.code pc = .ok (.irem, 1)) (hy : y ≠ 0) (k : Go p e below s n0 Q nc ns (T.setTop (mkF m pc' Ls (.int (x % y) :: rest)))) : Go p e below s n0 Q nc ns (T.setTop (mkF m pc Ls (.int y :: .int x :: rest))) := by
  subst hp; obtain ⟨_, X, -⟩ := X; exact go_back (fun _ j => iremM X hx (g := mkF m pc Ls (.int y :: .int x :: rest)) rfl hd rfl hy j) k
theorem g_ldiv (X : Wk p l e R s m args below meth c n0 T h cells slots) (hx : p.tables.exec = Jvm.exec) {x y : Int64} (hp : pc + 1 = pc') (hd : decode c.code pc = .ok (.ldiv, 1)) (hy : y ≠ 0) (k : Go p e below s n0 Q nc ns (T.setTop (mkF m pc' Ls (.long (x / y) :: rest)))) : Go p e below s n0 Q nc ns (T.setTop (mkF m pc Ls (.long y :: .long x :: rest))) := by
  subst hp; exact go_back (fun _ j => XS.ldiv X.here hx rfl hd rfl hy j) k
theorem g_lrem (X : Wk p l e R s m args below meth c n0 T h cells slots) (hx : p.tables.exec = Jvm.exec) {x y : Int64} (hp : pc + 1 = pc') (hd : decode c.code pc = .ok (.lrem, 1)) (hy : y ≠ 0) (k : Go p e below s n0 Q nc ns (T.setTop (mkF m pc' Ls (.long (x - (x / y) * y) :: rest)))) : Go p e below s n0 Q nc ns (T.setTop (mkF m pc Ls (.long y :: .long x :: rest))) := by
  subst hp; exact go_back (fun _ j => XS.lrem X.here hx rfl hd rfl hy j) k
theorem g_ishl (X : Wk p l e R s m args below meth c n0 T h cells slots) (hx : p.tables.exec = Jvm.exec) {x y : Int32} (hp : pc + 1 = pc') (hd : decode c.code pc = .ok (.ishl, 1))  (k : Go p e below s n0 Q nc ns (T.setTop (mkF m pc' Ls (.int (x <<< (y &&& 31)) :: rest)))) : Go p e below s n0 Q nc ns (T.setTop (mkF m pc Ls (.int y :: .int x :: rest))) := by
  subst hp; exact go_back (fun _ j => XS.ishl X.here hx rfl hd rfl j) k
theorem g_ishr (X : Wk p l e R s m args below meth c n0 T h cells slots) (hx : p.tables.exec = Jvm.exec) {x y : Int32} (hp : pc + 1 = pc') (hd : decode c.code pc = .ok (.ishr, 1))  (k : Go p e below s n0 Q nc ns (T.setTop (mkF m pc' Ls (.int (x >>> (y &&& 31)) :: rest)))) : Go p e below s n0 Q nc ns (T.setTop (mkF m pc Ls (.int y :: .int x :: rest))) := by
  subst hp; exact go_back (fun _ j => XS.ishr X.here hx rfl hd rfl j) k
theorem g_iushr (X : Wk p l e R s m args below meth c n0 T h cells slots) (hx : p.tables.exec = Jvm.exec) {x y : Int32} (hp : pc + 1 = pc') (hd : decode c.code pc = .ok (.iushr, 1))  (k : Go p e below s n0 Q nc ns (T.setTop (mkF m pc' Ls (.int ((x.toUInt32 >>> (y &&& 31).toUInt32).toInt32) :: rest)))) : Go p e below s n0 Q nc ns (T.setTop (mkF m pc Ls (.int y :: .int x :: rest))) := by
  subst hp; exact go_back (fun _ j => XS.iushr X.here hx rfl hd rfl j) k
theorem g_lshl (X : Wk p l e R s m args below meth c n0 T h cells slots) (hx : p.tables.exec = Jvm.exec) {x : Int64} {y : Int32} (hp : pc + 1 = pc') (hd : decode c.code pc = .ok (.lshl, 1))  (k : Go p e below s n0 Q nc ns (T.setTop (mkF m pc' Ls (.long (x <<< (y &&& 0x3f).toInt64) :: rest)))) : Go p e below s n0 Q nc ns (T.setTop (mkF m pc Ls (.int y :: .long x :: rest))) := by
  subst hp; exact go_back (fun _ j => XS.lshl X.here hx rfl hd rfl j) k
theorem g_lshr (X : Wk p l e R s m args below meth c n0 T h cells slots) (hx : p.tables.exec = Jvm.exec) {x : Int64} {y : Int32} (hp : pc + 1 = pc') (hd : decode c.code pc = .ok (.lshr, 1))  (k : Go p e below s n0 Q nc ns (T.setTop (mkF m pc' Ls (.long (x >>> (y &&& 0x3f).toInt64) :: rest)))) : Go p e below s n0 Q nc ns (T.setTop (mkF m pc Ls (.int y :: .long x :: rest))) := by
  subst hp; exact go_back (fun _ j => XS.lshr X.here hx rfl hd rfl j) k
theorem g_lushr (X : Wk p l e R s m args below meth c n0 T h cells slots) (hx : p.tables.exec = Jvm.exec) {x : Int64} {y : Int32} (hp : pc + 1 = pc') (hd : decode c.code pc = .ok (.lushr, 1))  (k : Go p e below s n0 Q nc ns (T.setTop (mkF m pc' Ls (.long ((x.toUInt64 >>> (y &&& 0x3f).toInt64.toUInt64).toInt64) :: rest)))) : Go p e below s n0 Q nc ns (T.setTop (mkF m pc Ls (.int y :: .long x :: rest))) := by
  subst hp; exact go_back (fun _ j => XS.lushr X.here hx rfl hd rfl j) k
theorem g_ineg (X : Wk p l e R s m args below meth c n0 T h cells slots) (hx : p.tables.exec = Jvm.exec) {x : Int32} (hp : pc + 1 = pc') (hd : decode c.code pc = .ok (.ineg, 1))  (k : Go p e below s n0 Q nc ns (T.setTop (mkF m pc' Ls (.int (-x) :: rest)))) : Go p e below s n0 Q nc ns (T.setTop (mkF m pc Ls (.int x :: rest))) := by
  subst hp; exact go_back (fun _ j => XS.ineg X.here hx rfl hd rfl j) k
theorem g_lneg (X : Wk p l e R s m args below meth c n0 T h cells slots) (hx : p.tables.exec = Jvm.exec) {x : Int64} (hp : pc + 1 = pc') (hd : decode c.code pc = .ok (.lneg, 1))  (k : Go p e below s n0 Q nc ns (T.setTop (mkF m pc' Ls (.long (-x) :: rest)))) : Go p e below s n0 Q nc ns (T.setTop (mkF m pc Ls (.long x :: rest))) := by
  subst hp; exact go_back (fun _ j => XS.lneg X.here hx rfl hd rfl j) k
theorem g_i2l (X : Wk p l e R s m args below meth c n0 T h cells slots) (hx : p.tables.exec = Jvm.exec) {x : Int32} (hp : pc + 1 = pc') (hd : decode c.code pc = .ok (.i2l, 1))  (k : Go p e below s n0 Q nc ns (T.setTop (mkF m pc' Ls (.long x.toInt64 :: rest)))) : Go p e below s n0 Q nc ns (T.setTop (mkF m pc Ls (.int x :: rest))) := by
  subst hp; exact go_back (fun _ j => XS.i2l X.here hx rfl hd rfl j) k
theorem g_l2i (X : Wk p l e R s m args below meth c n0 T h cells slots) (hx : p.tables.exec = Jvm.exec) {x : Int64} (hp : pc + 1 = pc') (hd : decode c.code pc = .ok (.l2i, 1))  (k : Go p e below s n0 Q nc ns (T.setTop (mkF m pc' Ls (.int x.toInt32 :: rest)))) : Go p e below s n0 Q nc ns (T.setTop (mkF m pc Ls (.long x :: rest))) := by
  subst hp; exact go_back (fun _ j => XS.l2i X.here hx rfl hd rfl j) k
theorem g_i2b (X : Wk p l e R s m args below meth c n0 T h cells slots) (hx : p.tables.exec = Jvm.exec) {x : Int32} (hp : pc + 1 = pc') (hd : decode c.code pc = .ok (.i2b, 1))  (k : Go p e below s n0 Q nc ns (T.setTop (mkF m pc' Ls (.int x.toInt8.toInt32 :: rest)))) : Go p e below s n0 Q nc ns (T.setTop (mkF m pc Ls (.int x :: rest))) := by
  subst hp; exact go_back (fun _ j => XS.i2b X.here hx rfl hd rfl j) k
theorem g_i2s (X : Wk p l e R s m args below meth c n0 T h cells slots) (hx : p.tables.exec = Jvm.exec) {x : Int32} (hp : pc + 1 = pc') (hd : decode c.code pc = .ok (.i2s, 1))  (k : Go p e below s n0 Q nc ns (T.setTop (mkF m pc' Ls (.int x.toInt16.toInt32 :: rest)))) : Go p e below s n0 Q nc ns (T.setTop (mkF m pc Ls (.int x :: rest))) := by
  subst hp; exact go_back (fun _ j => XS.i2s X.here hx rfl hd rfl j) k
theorem g_i2c (X : Wk p l e R s m args below meth c n0 T h cells slots) (hx : p.tables.exec = Jvm.exec) {x : Int32} (hp : pc + 1 = pc') (hd : decode c.code pc = .ok (.i2c, 1))  (k : Go p e below s n0 Q nc ns (T.setTop (mkF m pc' Ls (.int x.toUInt32.toUInt16.toUInt32.toInt32 :: rest)))) : Go p e below s n0 Q nc ns (T.setTop (mkF m pc Ls (.int x :: rest))) := by
  subst hp; exact go_back (fun _ j => XS.i2c X.here hx rfl hd rfl j) k
theorem g_lcmp (X : Wk p l e R s m args below meth c n0 T h cells slots) (hx : p.tables.exec = Jvm.exec) {x y : Int64} (hp : pc + 1 = pc') (hd : decode c.code pc = .ok (.lcmp, 1))  (k : Go p e below s n0 Q nc ns (T.setTop (mkF m pc' Ls (.int (lcmpW x y) :: rest)))) : Go p e below s n0 Q nc ns (T.setTop (mkF m pc Ls (.long y :: .long x :: rest))) := by
  subst hp; exact go_back (fun _ j => XS.lcmp X.here hx rfl hd rfl j) k
theorem g_i2d (X : Wk p l e R s m args below meth c n0 T h cells slots) (hx : p.tables.exec = Jvm.exec) {x : Int32} (hp : pc + 1 = pc') (hd : decode c.code pc = .ok (.i2d, 1))  (k : Go p e below s n0 Q nc ns (T.setTop (mkF m pc' Ls (.double (FP.i2d x) :: rest)))) : Go p e below s n0 Q nc ns (T.setTop (mkF m pc Ls (.int x :: rest))) := by
  subst hp; exact go_back (fun _ j => XS.i2dS X.here hx rfl hd rfl rfl j) k
theorem g_l2d (X : Wk p l e R s m args below meth c n0 T h cells slots) (hx : p.tables.exec = Jvm.exec) {x : Int64} (hp : pc + 1 = pc') (hd : decode c.code pc = .ok (.l2d, 1))  (k : Go p e below s n0 Q nc ns (T.setTop (mkF m pc' Ls (.double (FP.l2d x) :: rest)))) : Go p e below s n0 Q nc ns (T.setTop (mkF m pc Ls (.long x :: rest))) := by
  subst hp; exact go_back (fun _ j => XS.l2dS X.here hx rfl hd rfl rfl j) k
theorem g_dneg (X : Wk p l e R s m args below meth c n0 T h cells slots) (hx : p.tables.exec = Jvm.exec) {x : UInt64} (hp : pc + 1 = pc') (hd : decode c.code pc = .ok (.dneg, 1))  (k : Go p e below s n0 Q nc ns (T.setTop (mkF m pc' Ls (.double (FP.dneg x) :: rest)))) : Go p e below s n0 Q nc ns (T.setTop (mkF m pc Ls (.double x :: rest))) := by
  subst hp; exact go_back (fun _ j => XS.dnegS X.here hx rfl hd rfl rfl j) k
theorem g_dcmp (X : Wk p l e R s m args below meth c n0 T h cells slots) (hx : p.tables.exec = Jvm.exec) {o : CmpOp} {x y : UInt64} {z : Int32} (hp : pc + 1 = pc') (hd : decode c.code pc = .ok (.dcmp o, 1)) (hz : cmpValue (FP.dcmp x y) o = z) (k : Go p e below s n0 Q nc ns (T.setTop (mkF m pc' Ls (.int z :: rest)))) : Go p e below s n0 Q nc ns (T.setTop (mkF m pc Ls (.double y :: .double x :: rest))) := by
  subst hp; exact go_back (fun _ j => XS.dcmpS X.here hx rfl hd rfl hz j) k
theorem g_dadd (X : Wk p l e R s m args below meth c n0 T h cells slots) (hx : p.tables.exec = Jvm.exec) {x y z : UInt64} (hp : pc + 1 = pc') (hd : decode c.code pc = .ok (.dadd, 1)) (hn : NoNaN64 (FP.dadd x y)) (hz : FP.dadd x y = z) (k : Go p e below s n0 Q nc ns (T.setTop (mkF m pc' Ls (.double z :: rest)))) : Go p e below s n0 Q nc ns (T.setTop (mkF m pc Ls (.double y :: .double x :: rest))) := by
  subst hp; exact go_back (fun _ j => XS.daddS X.here hx rfl hd rfl hn hz j) k
theorem g_dsub (X : Wk p l e R s m args below meth c n0 T h cells slots) (hx : p.tables.exec = Jvm.exec) {x y z : UInt64} (hp : pc + 1 = pc') (hd : decode c.code pc = .ok (.dsub, 1)) (hn : NoNaN64 (FP.dsub x y)) (hz : FP.dsub x y = z) (k : Go p e below s n0 Q nc ns (T.setTop (mkF m pc' Ls (.double z :: rest)))) : Go p e below s n0 Q nc ns (T.setTop (mkF m pc Ls (.double y :: .double x :: rest))) := by
  subst hp; exact go_back (fun _ j => XS.dsubS X.here hx rfl hd rfl hn hz j) k
theorem g_dmul (X : Wk p l e R s m args below meth c n0 T h cells slots) (hx : p.tables.exec = Jvm.exec) {x y z : UInt64} (hp : pc + 1 = pc') (hd : decode c.code pc = .ok (.dmul, 1)) (hn : NoNaN64 (FP.dmul x y)) (hz : FP.dmul x y = z) (k : Go p e below s n0 Q nc ns (T.setTop (mkF m pc' Ls (.double z :: rest)))) : Go p e below s n0 Q nc ns (T.setTop (mkF m pc Ls (.double y :: .double x :: rest))) := by
  subst hp; exact go_back (fun _ j => XS.dmulS X.here hx rfl hd rfl hn hz j) k
theorem g_ddiv (X : Wk p l e R s m args below meth c n0 T h cells slots) (hx : p.tables.exec = Jvm.exec) {x y z : UInt64} (hp : pc + 1 = pc') (hd : decode c.code pc = .ok (.ddiv, 1)) (hn : NoNaN64 (FP.ddiv x y)) (hz : FP.ddiv x y = z) (k : Go p e below s n0 Q nc ns (T.setTop (mkF m pc' Ls (.double z :: rest)))) : Go p e below s n0 Q nc ns (T.setTop (mkF m pc Ls (.double y :: .double x :: rest))) := by
  subst hp; exact go_back (fun _ j => XS.ddivS X.here hx rfl hd rfl hn hz j) k
theorem g_dup (X : Wk p l e R s m args below meth c n0 T h cells slots) (hx : p.tables.exec = Jvm.exec) {x : Value} (hp : pc + 1 = pc') (hd : decode c.code pc = .ok (.dup, 1)) (hc : x.category = 1) (k : Go p e below s n0 Q nc ns (T.setTop (mkF m pc' Ls (x :: x :: rest)))) : Go p e below s n0 Q nc ns (T.setTop (mkF m pc Ls (x :: rest))) := by
  subst hp; exact go_back (fun _ j => XS.dup X.here hx rfl hd rfl hc j) k
theorem g_dup_x1 (X : Wk p l e R s m args below meth c n0 T h cells slots) (hx : p.tables.exec = Jvm.exec) {x y : Value} (hp : pc + 1 = pc') (hd : decode c.code pc = .ok (.dup_x1, 1)) (hc : x.category = 1) (hc' : y.category = 1) (k : Go p e below s n0 Q nc ns (T.setTop (mkF m pc' Ls (x :: y :: x :: rest)))) : Go p e below s n0 Q nc ns (T.setTop (mkF m pc Ls (x :: y :: rest))) := by
  subst hp; exact go_back (fun _ j => XS.dupX1 X.here hx rfl hd rfl hc hc' j) k
theorem g_pop (X : Wk p l e R s m args below meth c n0 T h cells slots) (hx : p.tables.exec = Jvm.exec) {x : Value} (hp : pc + 1 = pc') (hd : decode c.code pc = .ok (.pop, 1)) (hc : x.category = 1) (k : Go p e below s n0 Q nc ns (T.setTop (mkF m pc' Ls (rest)))) : Go p e below s n0 Q nc ns (T.setTop (mkF m pc Ls (x :: rest))) := by
  subst hp; exact go_back (fun _ j => XS.pop X.here hx rfl hd rfl hc j) k
theorem g_dup2 (X : Wk p l e R s m args below meth c n0 T h cells slots) (hx : p.tables.exec = Jvm.exec) {x y : Value} (hp : pc + 1 = pc') (hd : decode c.code pc = .ok (.dup2, 1)) (hc : x.category = 1) (hc' : y.category = 1) (k : Go p e below s n0 Q nc ns (T.setTop (mkF m pc' Ls (x :: y :: x :: y :: rest)))) : Go p e below s n0 Q nc ns (T.setTop (mkF m pc Ls (x :: y :: rest))) := by
  subst hp; exact go_back (fun _ j => Jvm.Free.XT.dup2 X.here hx rfl hd rfl hc hc' j) k
theorem g_iinc (X : Wk p l e R s m args below meth c n0 T h cells slots) (hx : p.tables.exec = Jvm.exec) {k : Nat} {cst : Int} {x : Int32} {l' : Array Slot} (hp : pc + 3 = pc') (hd : decode c.code pc = .ok (.iinc k cst, 3)) (hl : Ls[k]? = some (.val (.int x))) (hl' : storeLocals Ls k (.int (x + Int32.ofInt cst)) = some l') (q : Go p e below s n0 Q nc ns (T.setTop (mkF m pc' l' st))) : Go p e below s n0 Q nc ns (T.setTop (mkF m pc Ls st)) := by
  subst hp; exact go_back (fun _ j => XS.iinc X.here hx rfl hd hl hl' j) q
theorem g_goto (X : Wk p l e R s m args below meth c n0 T h cells slots) (hx : p.tables.exec = Jvm.exec) {o : Int} (hd : decode c.code pc = .ok (.goto o, 3)) (ho : 0 ≤ (pc : Int) + o) (hp : ((pc : Int) + o).toNat = pc') (k : Go p e below s n0 Q nc ns (T.setTop (mkF m pc' Ls st))) : Go p e below s n0 Q nc ns (T.setTop (mkF m pc Ls st)) :=
  go_back (fun _ j => XS.goto X.here hx rfl rfl hd ho hp j) k
theorem g_ifY (X : Wk p l e R s m args below meth c n0 T h cells slots) (hx : p.tables.exec = Jvm.exec) {cd : ClassFile.Cond} {o : Int} {x : Int32} {pcY : Nat} (hd : decode c.code pc = .ok (.ifCond cd o, 3)) (ho : 0 ≤ (pc : Int) + o) (hY : ((pc : Int) + o).toNat = pcY) (q : cP cd x 0) (k : Go p e below s n0 Q nc ns (T.setTop (mkF m pcY Ls rest))) : Go p e below s n0 Q nc ns (T.setTop (mkF m pc Ls (.int x :: rest))) :=
  go_back (fun _ j => XS.ifYes X.here hx rfl rfl hd rfl ((if0 _ _).trans (cP_yes q)) ho hY j) k
theorem g_ifN (X : Wk p l e R s m args below meth c n0 T h cells slots) (hx : p.tables.exec = Jvm.exec) {cd : ClassFile.Cond} {o : Int} {x : Int32} {pcN : Nat} (hd : decode c.code pc = .ok (.ifCond cd o, 3)) (hN : pc + 3 = pcN) (q : ¬ cP cd x 0) (k : Go p e below s n0 Q nc ns (T.setTop (mkF m pcN Ls rest))) : Go p e below s n0 Q nc ns (T.setTop (mkF m pc Ls (.int x :: rest))) := by
  subst hN; exact go_back (fun _ j => XS.ifNo X.here hx rfl hd rfl ((if0 _ _).trans (cP_no q)) j) k
theorem g_if (X : Wk p l e R s m args below meth c n0 T h cells slots) (hx : p.tables.exec = Jvm.exec) {cd : ClassFile.Cond} {o : Int} {x : Int32} {pcY pcN : Nat} (hd : decode c.code pc = .ok (.ifCond cd o, 3)) (ho : 0 ≤ (pc : Int) + o) (hY : ((pc : Int) + o).toNat = pcY) (hN : pc + 3 = pcN) (kY : cP cd x 0 → Go p e below s n0 Q nc ns (T.setTop (mkF m pcY Ls rest))) (kN : ¬ cP cd x 0 → Go p e below s n0 Q nc ns (T.setTop (mkF m pcN Ls rest))) : Go p e below s n0 Q nc ns (T.setTop (mkF m pc Ls (.int x :: rest))) := by
  by_cases q : cP cd x 0
  · exact g_ifY X hx hd ho hY q (kY q)
  · exact g_ifN X hx hd hN q (kN q)
theorem g_icmpY (X : Wk p l e R s m args below meth c n0 T h cells slots) (hx : p.tables.exec = Jvm.exec) {cd : ClassFile.Cond} {o : Int} {x y : Int32} {pcY : Nat} (hd : decode c.code pc = .ok (.if_icmp cd o, 3)) (ho : 0 ≤ (pc : Int) + o) (hY : ((pc : Int) + o).toNat = pcY) (q : cP cd x y) (k : Go p e below s n0 Q nc ns (T.setTop (mkF m pcY Ls rest))) : Go p e below s n0 Q nc ns (T.setTop (mkF m pc Ls (.int y :: .int x :: rest))) :=
  go_back (fun _ j => XS.icmpYes X.here hx rfl rfl hd rfl (cP_yes q) ho hY j) k
theorem g_icmpN (X : Wk p l e R s m args below meth c n0 T h cells slots) (hx : p.tables.exec = Jvm.exec) {cd : ClassFile.Cond} {o : Int} {x y : Int32} {pcN : Nat} (hd : decode c.code pc = .ok (.if_icmp cd o, 3)) (hN : pc + 3 = pcN) (q : ¬ cP cd x y) (k : Go p e below s n0 Q nc ns (T.setTop (mkF m pcN Ls rest))) : Go p e below s n0 Q nc ns (T.setTop (mkF m pc Ls (.int y :: .int x :: rest))) := by
  subst hN; exact go_back (fun _ j => XS.icmpNo X.here hx rfl hd rfl (cP_no q) j) k
theorem g_icmp (X : Wk p l e R s m args below meth c n0 T h cells slots) (hx : p.tables.exec = Jvm.exec) {cd : ClassFile.Cond} {o : Int} {x y : Int32} {pcY pcN : Nat} (hd : decode c.code pc = .ok (.if_icmp cd o, 3)) (ho : 0 ≤ (pc : Int) + o) (hY : ((pc : Int) + o).toNat = pcY) (hN : pc + 3 = pcN) (kY : cP cd x y → Go p e below s n0 Q nc ns (T.setTop (mkF m pcY Ls rest))) (kN : ¬ cP cd x y → Go p e below s n0 Q nc ns (T.setTop (mkF m pcN Ls rest))) : Go p e below s n0 Q nc ns (T.setTop (mkF m pc Ls (.int y :: .int x :: rest))) := by
  by_cases q : cP cd x y
  · exact g_icmpY X hx hd ho hY q (kY q)
  · exact g_icmpN X hx hd hN q (kN q)
theorem g_ifnullY (X : Wk p l e R s m args below meth c n0 T h cells slots) (hx : p.tables.exec = Jvm.exec) {o : Int} {pcY : Nat} (hd : decode c.code pc = .ok (.ifnull o, 3)) (ho : 0 ≤ (pc : Int) + o) (hY : ((pc : Int) + o).toNat = pcY) (k : Go p e below s n0 Q nc ns (T.setTop (mkF m pcY Ls rest))) : Go p e below s n0 Q nc ns (T.setTop (mkF m pc Ls (.null :: rest))) :=
  go_back (fun _ j => XS.ifnullYes X.here hx rfl rfl hd rfl ho hY j) k
theorem g_ifnullN (X : Wk p l e R s m args below meth c n0 T h cells slots) (hx : p.tables.exec = Jvm.exec) {o : Int} {b : Addr} {pcN : Nat} (hd : decode c.code pc = .ok (.ifnull o, 3)) (hN : pc + 3 = pcN) (k : Go p e below s n0 Q nc ns (T.setTop (mkF m pcN Ls rest))) : Go p e below s n0 Q nc ns (T.setTop (mkF m pc Ls (.ref b :: rest))) := by
  subst hN; exact go_back (fun _ j => XS.ifnullNo X.here hx rfl hd rfl j) k
theorem g_ifnonnullY (X : Wk p l e R s m args below meth c n0 T h cells slots) (hx : p.tables.exec = Jvm.exec) {o : Int} {b : Addr} {pcY : Nat} (hd : decode c.code pc = .ok (.ifnonnull o, 3)) (ho : 0 ≤ (pc : Int) + o) (hY : ((pc : Int) + o).toNat = pcY) (k : Go p e below s n0 Q nc ns (T.setTop (mkF m pcY Ls rest))) : Go p e below s n0 Q nc ns (T.setTop (mkF m pc Ls (.ref b :: rest))) :=
  go_back (fun _ j => XS.ifnonnullYes X.here hx rfl rfl hd rfl ho hY j) k
theorem g_ifnonnullN (X : Wk p l e R s m args below meth c n0 T h cells slots) (hx : p.tables.exec = Jvm.exec) {o : Int} {pcN : Nat} (hd : decode c.code pc = .ok (.ifnonnull o, 3)) (hN : pc + 3 = pcN) (k : Go p e below s n0 Q nc ns (T.setTop (mkF m pcN Ls rest))) : Go p e below s n0 Q nc ns (T.setTop (mkF m pc Ls (.null :: rest))) := by
  subst hN; exact go_back (fun _ j => XS.ifnonnullNo X.here hx rfl hd rfl j) k
theorem g_normI {x z : Int32} (hz : x = z) (k : Go p e below s n0 Q nc ns (T.setTop (mkF m pc Ls (.int z :: rest)))) : Go p e below s n0 Q nc ns (T.setTop (mkF m pc Ls (.int x :: rest))) := hz ▸ k
theorem g_iincC (X : Wk p l e R s m args below meth c n0 T h cells slots) (hx : p.tables.exec = Jvm.exec) {k : Nat} {cst : Int} {x z : Int32} {l' : Array Slot} (hp : pc + 3 = pc') (hd : decode c.code pc = .ok (.iinc k cst, 3)) (hl : Ls[k]? = some (.val (.int x))) (hz : x + Int32.ofInt cst = z) (hl' : storeLocals Ls k (.int z) = some l') (q : Go p e below s n0 Q nc ns (T.setTop (mkF m pc' l' st))) : Go p e below s n0 Q nc ns (T.setTop (mkF m pc Ls st)) := by
  subst hz; exact g_iinc X hx hp hd hl hl' q
theorem g_ldcI (X : Wk p l e R s m args below meth c n0 T h cells slots) (hx : p.tables.exec = Jvm.exec) (hZ : Z.Warmed39 s.vm) {own : String} {index : Nat} {v : Int32} (hown : s.vm.findClass own = some m.cls) (w : (Jvm.Cond.constant own index v).before a0 Z = true) (hp : pc + 2 = pc') (hd : decode c.code pc = .ok (.ldc index, 2))
    (k : Go p e below s n0 Q nc ns (T.setTop (mkF m pc' Ls (.int v :: st)))) : Go p e below s n0 Q nc ns (T.setTop (mkF m pc Ls st)) := by
  subst hp; obtain ⟨_, X, -⟩ := X
  exact go_back (X.ldcInt hx hown (mvT hZ w) (g := mkF m pc Ls st) rfl hd) k
theorem g_ldc2L (X : Wk p l e R s m args below meth c n0 T h cells slots) (hx : p.tables.exec = Jvm.exec) (hZ : Z.Warmed39 s.vm) {own : String} {index : Nat} {v : Int64} (hown : s.vm.findClass own = some m.cls) (w : (Jvm.Cond.constantLong own index v).before a0 Z = true) (hp : pc + 3 = pc') (hd : decode c.code pc = .ok (.ldc2_w index, 3))
    (k : Go p e below s n0 Q nc ns (T.setTop (mkF m pc' Ls (.long v :: st)))) : Go p e below s n0 Q nc ns (T.setTop (mkF m pc Ls st)) := by
  subst hp; obtain ⟨_, X, -⟩ := X
  exact go_back (X.ldc2Long hx hown (mvT hZ w) (g := mkF m pc Ls st) rfl hd) k
theorem g_ldc2D (X : Wk p l e R s m args below meth c n0 T h cells slots) (hx : p.tables.exec = Jvm.exec) (hZ : Z.Warmed39 s.vm) {own : String} {index : Nat} {v : UInt64} (hown : s.vm.findClass own = some m.cls) (w : (Jvm.Cond.constantDouble own index v).before a0 Z = true) (hp : pc + 3 = pc') (hd : decode c.code pc = .ok (.ldc2_w index, 3))
    (k : Go p e below s n0 Q nc ns (T.setTop (mkF m pc' Ls (.double v :: st)))) : Go p e below s n0 Q nc ns (T.setTop (mkF m pc Ls st)) := by
  subst hp; obtain ⟨_, X, -⟩ := X
  exact go_back (X.ldc2DoubleC hx hown (mvT hZ w) (g := mkF m pc Ls st) rfl hd) k
theorem g_getF (X : Wk p l e R s m args below meth c n0 T h cells slots) (hx : p.tables.exec = Jvm.exec) (hZ : Z.Warmed39 s.vm) {own R0 O n d : String} {index : Nat} (hown : s.vm.findClass own = some m.cls) (w : (Jvm.Cond.fieldLink own index R0 n d).before a0 Z = true) (via : Via Z R0 O n d) {a : Addr} {v : Value} (F : Fld Z h a O n d v) (hp : pc + 3 = pc') (hd : decode c.code pc = .ok (.getfield index, 3))
    (k : ∀ T', Wk p l e R s m args below meth c n0 T' h cells slots → Go p e below s n0 Q nc ns (T'.setTop (mkF m pc' Ls (v :: rest)))) : Go p e below s n0 Q nc ns (T.setTop (mkF m pc Ls (.ref a :: rest))) := by
  subst hp; obtain ⟨locs, X, N, eT⟩ := X
  obtain ⟨T', X', e', b⟩ := getF X hx hZ hown (host := "") (Or.inl w) via eT F (g := mkF m pc Ls (.ref a :: rest)) rfl rfl hd
  exact go_back b (k T' ⟨locs, X', N, e'⟩)
theorem g_getS (X : Wk p l e R s m args below meth c n0 T h cells slots) (hx : p.tables.exec = Jvm.exec) (hZ : Z.Warmed39 s.vm) {own R0 O n d : String} {index : Nat} (hown : s.vm.findClass own = some m.cls) (w : (Jvm.Cond.fieldLink own index R0 n d).before a0 Z = true) (via : Via Z R0 O n d) {v : Value} (F : Sta Z h O n d v) (hp : pc + 3 = pc') (hd : decode c.code pc = .ok (.getstatic index, 3))
    (k : ∀ T', Wk p l e R s m args below meth c n0 T' h cells slots → Go p e below s n0 Q nc ns (T'.setTop (mkF m pc' Ls (v :: st)))) : Go p e below s n0 Q nc ns (T.setTop (mkF m pc Ls st)) := by
  subst hp; obtain ⟨locs, X, N, eT⟩ := X
  obtain ⟨T', X', e', b⟩ := getS X hx hZ hown w via eT F (g := mkF m pc Ls st) rfl hd (host := "")
  exact go_back b (k T' ⟨locs, X', N, e'⟩)
theorem g_putF (X : Wk p l e R s m args below meth c n0 T h cells slots) (hx : p.tables.exec = Jvm.exec) (hZ : Z.Warmed39 s.vm) {own R0 O n d C : String} {index kk : Nat} {ty : FieldType} (hown : s.vm.findClass own = some m.cls) (w : (Jvm.Cond.fieldLink own index R0 n d).before a0 Z = true) (via : Via Z R0 O n d) {a : Addr} {v old : Value} (F : Fld Z h a O n d old) (E : Exa Z h a C)
    (L : (Jvm.Cond.lays C O n d).before a0 Z = true ∨ ((Jvm.Cond.laysFinal C O n d).before a0 Z = true ∧ own = O ∧ meth.name = "<init>")) (wi : (Jvm.Cond.instantiable C kk).before a0 Z = true) (hty : parseFieldDescriptor d = some ty) (hn : narrow ty v = v) (hf : fits ty v = true) (hna : n0 ≤ a) (hp : pc + 3 = pc') (hd : decode c.code pc = .ok (.putfield index, 3))
    (k : ∀ T' h', Wk p l e R s m args below meth c n0 T' h' cells slots → Wr h h' a (Jvm.RoadKit.slotOf Z O n d) v → Go p e below s n0 Q nc ns (T'.setTop (mkF m pc' Ls rest))) : Go p e below s n0 Q nc ns (T.setTop (mkF m pc Ls (v :: .ref a :: rest))) := by
  subst hp; obtain ⟨locs, X, N, eT⟩ := X
  obtain ⟨T', h', X', e', W', b⟩ := putF X hx hZ hown (host := "") (Or.inl w) via eT F E L wi hty hn hf (g := mkF m pc Ls (v :: .ref a :: rest)) rfl rfl hd
  exact go_back b (k T' h' ⟨_, X', Fr.snoc X' N hna, e'⟩ W')
theorem g_newO (X : Wk p l e R s m args below meth c n0 T h cells slots) (hx : p.tables.exec = Jvm.exec) (hZ : Z.Warmed39 s.vm) {own C : String} {index n : Nat} (hown : s.vm.findClass own = some m.cls) (w : (Jvm.Cond.classLink own index C).before a0 Z = true) (wi : (Jvm.Cond.instantiable C n).before a0 Z = true) (wz : (Jvm.Cond.initialized C).before a0 Z = true) (hp : pc + 3 = pc') (hd : decode c.code pc = .ok (.new index, 3)) (hc : cells + 1 ≤ R.cells) (hl : slots + n ≤ R.slots)
    (k : ∀ T' h' a, a = h.size → Wk p l e R s m args below meth c n0 T' h' (cells + 1) (slots + n) → Ext h h' → Exa Z h' a C → (∀ {O nm d : String} {ty : FieldType}, Laid Z a0 C O nm d → parseFieldDescriptor d = some ty → Fld Z h' a O nm d (defaultValue ty)) → Go p e below s n0 Q nc ns (T'.setTop (mkF m pc' Ls (.ref a :: st)))) : Go p e below s n0 Q nc ns (T.setTop (mkF m pc Ls st)) := by
  subst hp; obtain ⟨locs, X, N, eT⟩ := X
  obtain ⟨T', h', X', e', E', A', D', -, b⟩ := newO X hx hZ hown w wi wz eT (g := mkF m pc Ls st) rfl hd hc hl
  exact go_back b (k T' h' h.size rfl ⟨_, X', N, e'⟩ E' A' (fun L q => D' L q))
theorem g_initO (X : Wk p l e R s m args below meth c n0 T h cells slots) (hx : p.tables.exec = Jvm.exec) (hZ : Z.Warmed39 s.vm) {own : String} {index : Nat} (hown : s.vm.findClass own = some m.cls) (w1 : (Jvm.Cond.methodLink own index Lib.objectInit).before a0 Z = true) (w2 : (Jvm.Cond.instanceMethod Lib.objectInit).before a0 Z = true) (w3 : (Jvm.Cond.code Lib.objectInit ⟨#[0xb1]⟩ 1 none).before a0 Z = true) {a : Addr} (hsz : Ls.size = c.maxLocals) (hp : pc + 3 = pc') (hd : decode c.code pc = .ok (.invokespecial index, 3)) (hf : 1 ≤ R.frames) {W : Nat} (hW : 2 * 0 + (rest.map fun v => v.category).sum ≤ W) (hl : W + 12 ≤ R.locals)
    (k : ∀ T', Wk p l e R s m args below meth c n0 T' h cells slots → Go p e below s n0 Q nc ns (T'.setTop (mkF m pc' Ls rest))) : Go p e below s n0 Q nc ns (T.setTop (mkF m pc Ls (.ref a :: rest))) := by
  subst hp; obtain ⟨locs, X, N, eT⟩ := X
  obtain ⟨T', X', e', b⟩ := initO X hx hZ hown w1 w2 w3 eT (g := mkF m pc Ls (.ref a :: rest)) rfl hsz rfl hd hf hW hl
  exact go_back b (k T' ⟨_, X', N, e'⟩)
section Calls
variable {y z : MethodName} {bytes : ByteArray} {maxL : Nat} {ret : Option FieldType} {rm : Room} {as : Array Value} {Qc : Option Value → Heap → Prop} {own : String} {index W : Nat} {argsL : List Value} {ps : List FieldType} {r : Option FieldType}
theorem g_callS (X : Wk p l e R s m args below meth c n0 T h cells slots) (hx : p.tables.exec = Jvm.exec) (hZ : Z.Warmed39 s.vm) (hown : s.vm.findClass own = some m.cls) (w1 : (Jvm.Cond.methodLink own index y).before a0 Z = true) (w2 : (Jvm.Cond.static y).before a0 Z = true) (w3 : (Jvm.Cond.initialized y.cls).before a0 Z = true) (w4 : (Jvm.Cond.code y bytes maxL ret).before a0 Z = true)
    (hy : y.cls ≠ "java/lang/invoke/MethodHandle" ∧ y.cls ≠ "java/lang/invoke/VarHandle") (hM : Con l Z n0 y bytes maxL ret [] rm as h Qc) (hlen : parseMethodDescriptor y.desc = some ⟨ps, r⟩) (hl : argsL.length = ps.length) (has : as = argsL.toArray) (hsz : Ls.size = c.maxLocals) (hp : pc + 3 = pc') (hd : decode c.code pc = .ok (.invokestatic index, 3))
    (hst : st = argsL.reverse ++ rest) (hW : 2 * 0 + (rest.map fun v => v.category).sum ≤ W) (hf : rm.frames + 1 ≤ R.frames) (hlo : W + (maxL + 11) + rm.locals ≤ R.locals) (hc : cells + rm.cells ≤ R.cells) (hs : slots + rm.slots ≤ R.slots)
    (k : ∀ v T' h', Wk p l e R s m args below meth c n0 T' h' (cells + rm.cells) (slots + rm.slots) → Qc v h' → Go p e below s n0 Q nc ns (T'.setTop (mkF m pc' Ls (v.toList ++ rest)))) : Go p e below s n0 Q nc ns (T.setTop (mkF m pc Ls st)) := by
  subst hp; subst has; obtain ⟨locs, X, N, eT⟩ := X
  obtain ⟨v, vm1, ⟨U, L1, c1, s1⟩, -, X', ⟨Lc, hQ, l1, y1, z1⟩, b⟩ := Jvm.LawKit.callS X hx hown (mvT hZ w1) (mvT hZ w2) (mvT hZ w3) (mvT hZ w4) hy (backOf (W := W) (Q := fun v h L => Fr n0 L ∧ Qc v h) hM hZ w4 w3 hf hlo) (g := mkF m pc Ls st) rfl hsz (argsL := argsL) (rest := rest) (lenOf hlen hl) hst hW hd (fun _ _ => ⟨rfl, eT, hc, hs⟩)
  dsimp only [Pt.U, Pt.locs, Pt.cells, Pt.slots] at X' l1 y1 z1 b hQ
  subst l1 y1 z1
  exact go_back b (k v U U.heap ⟨_, X', Fr.app N hQ.1, rfl⟩ hQ.2)
theorem g_callI (X : Wk p l e R s m args below meth c n0 T h cells slots) (hx : p.tables.exec = Jvm.exec) (hZ : Z.Warmed39 s.vm) (hown : s.vm.findClass own = some m.cls) (hy1 : y.name = "<init>") (w1 : (Jvm.Cond.methodLink own index y).before a0 Z = true) (w2 : (Jvm.Cond.instanceMethod y).before a0 Z = true) (w3 : (Jvm.Cond.initialized y.cls).before a0 Z = true) (w4 : (Jvm.Cond.code y bytes maxL none).before a0 Z = true)
    (hy : y.cls ≠ "java/lang/invoke/MethodHandle" ∧ y.cls ≠ "java/lang/invoke/VarHandle") {a : Addr} (hM : Con l Z n0 y bytes maxL none [] rm as h Qc) (hlen : parseMethodDescriptor y.desc = some ⟨ps, r⟩) (hl : argsL.length = ps.length) (has : as = (Value.ref a :: argsL).toArray) (hsz : Ls.size = c.maxLocals) (hp : pc + 3 = pc') (hd : decode c.code pc = .ok (.invokespecial index, 3))
    (hst : st = argsL.reverse ++ .ref a :: rest) (hW : 2 * 0 + (rest.map fun v => v.category).sum ≤ W) (hf : rm.frames + 1 ≤ R.frames) (hlo : W + (maxL + 11) + rm.locals ≤ R.locals) (hc : cells + rm.cells ≤ R.cells) (hs : slots + rm.slots ≤ R.slots)
    (k : ∀ v T' h', Wk p l e R s m args below meth c n0 T' h' (cells + rm.cells) (slots + rm.slots) → Qc v h' → Go p e below s n0 Q nc ns (T'.setTop (mkF m pc' Ls (v.toList ++ rest)))) : Go p e below s n0 Q nc ns (T.setTop (mkF m pc Ls st)) := by
  subst hp; subst has; obtain ⟨locs, X, N, eT⟩ := X
  obtain ⟨v, vm1, ⟨U, L1, c1, s1⟩, -, X', ⟨Lc, hQ, l1, y1, z1⟩, b⟩ := X.specialBack hx hy1 hown (mvT hZ w1) (mvT hZ w2) (mvT hZ w4) hy (backOf (W := W) (Q := fun v h L => Fr n0 L ∧ Qc v h) hM hZ w4 w3 hf hlo) (g := mkF m pc Ls st) rfl hsz (Steps.refl _) (a := a) (argsL := argsL) (rest := rest) (lenOf hlen hl) hst hW hd (fun _ _ => ⟨rfl, eT, hc, hs⟩)
  dsimp only [Pt.U, Pt.locs, Pt.cells, Pt.slots] at X' l1 y1 z1 b hQ
  subst l1 y1 z1
  exact go_back (fun _ j => b.trans j) (k v U U.heap ⟨_, X', Fr.app N hQ.1, rfl⟩ hQ.2)
theorem g_callV (X : Wk p l e R s m args below meth c n0 T h cells slots) (hx : p.tables.exec = Jvm.exec) (hZ : Z.Warmed39 s.vm) (hown : s.vm.findClass own = some m.cls) {C : String} (w1 : (Jvm.Cond.methodLink own index y).before a0 Z = true) (w2 : (Jvm.Cond.declares y).before a0 Z = true) (w5 : (Jvm.Cond.selects C y y).before a0 Z = true) (w6 : (Jvm.Cond.instanceMethod y).before a0 Z = true) (w3 : (Jvm.Cond.initialized y.cls).before a0 Z = true) (w4 : (Jvm.Cond.code y bytes maxL ret).before a0 Z = true)
    (hy : y.cls ≠ "java/lang/invoke/MethodHandle" ∧ y.cls ≠ "java/lang/invoke/VarHandle") {a : Addr} (E : Exa Z h a C) (hM : Con l Z n0 y bytes maxL ret [] rm as h Qc) (hlen : parseMethodDescriptor y.desc = some ⟨ps, r⟩) (hl : argsL.length = ps.length) (has : as = (Value.ref a :: argsL).toArray) (hsz : Ls.size = c.maxLocals) (hp : pc + 3 = pc') (hd : decode c.code pc = .ok (.invokevirtual index, 3))
    (hst : st = argsL.reverse ++ .ref a :: rest) (hW : 2 * 0 + (rest.map fun v => v.category).sum ≤ W) (hf : rm.frames + 1 ≤ R.frames) (hlo : W + (maxL + 11) + rm.locals ≤ R.locals) (hc : cells + rm.cells ≤ R.cells) (hs : slots + rm.slots ≤ R.slots)
    (k : ∀ v T' h', Wk p l e R s m args below meth c n0 T' h' (cells + rm.cells) (slots + rm.slots) → Qc v h' → Go p e below s n0 Q nc ns (T'.setTop (mkF m pc' Ls (v.toList ++ rest)))) : Go p e below s n0 Q nc ns (T.setTop (mkF m pc Ls st)) := by
  subst hp; subst has; obtain ⟨locs, X, N, eT⟩ := X
  obtain ⟨cq, kq, qa, qb, qc⟩ := isOf hZ eT E
  obtain ⟨v, vm1, ⟨U, L1, c1, s1⟩, -, X', ⟨Lc, hQ, l1, y1, z1⟩, b⟩ := X.virtualBack hx (y := y) (z := y) hown (mvT hZ w1) (mvT hZ w2) (notFace_of_selects (args := #[]) (mvT hZ w5)) (mvT hZ w5) (mvT hZ w6) hy (backOf (W := W) (Q := fun v h L => Fr n0 L ∧ Qc v h) hM hZ w4 w3 hf hlo) qa qc (g := mkF m pc Ls st) rfl hsz (Steps.refl _) (argsL := argsL) (rest := rest) (lenOf hlen hl) hst hW hd (fun _ _ => ⟨rfl, eT, hc, hs⟩)
  dsimp only [Pt.U, Pt.locs, Pt.cells, Pt.slots] at X' l1 y1 z1 b hQ
  subst l1 y1 z1
  exact go_back (fun _ j => b.trans j) (k v U U.heap ⟨_, X', Fr.app N hQ.1, rfl⟩ hQ.2)
theorem g_nat (X : Wk p l e R s m args below meth c n0 T h cells slots) (hx : p.tables.exec = Jvm.exec) (hZ : Z.Warmed39 s.vm) (hown : s.vm.findClass own = some m.cls) (w1 : (Jvm.Cond.methodLink own index y).before a0 Z = true) (w2 : (Jvm.Cond.static y).before a0 Z = true) (w3 : (Jvm.Cond.initialized y.cls).before a0 Z = true) (w4 : (Jvm.Cond.code y bytes maxL ret).before a0 Z = true)
    (hy : y.cls ≠ "java/lang/invoke/MethodHandle" ∧ y.cls ≠ "java/lang/invoke/VarHandle") {F : Array Value → Prop} {val : Value} (hK : (Jvm.Cond.code y bytes maxL ret).before args s = true → Back l R p e below s args y 3 W (fun A a' => A.cells ≤ R.cells ∧ A.slots ≤ R.slots ∧ F a') (fun A _ v B => v = some val ∧ B = A)) (hlen : parseMethodDescriptor y.desc = some ⟨ps, r⟩) (hl : argsL.length = ps.length) (hsz : Ls.size = c.maxLocals) (hp : pc + 3 = pc') (hd : decode c.code pc = .ok (.invokestatic index, 3))
    (hst : st = argsL.reverse ++ rest) (hW : 2 * 0 + (rest.map fun v => v.category).sum ≤ W) (hc : cells ≤ R.cells) (hs : slots ≤ R.slots) (hF : F argsL.toArray)
    (k : ∀ T', Wk p l e R s m args below meth c n0 T' h cells slots → Go p e below s n0 Q nc ns (T'.setTop (mkF m pc' Ls (val :: rest)))) : Go p e below s n0 Q nc ns (T.setTop (mkF m pc Ls st)) := by
  subst hp; obtain ⟨locs, X, N, eT⟩ := X
  obtain ⟨T', X', e', b⟩ := natS X hx hZ hown w1 w2 w3 w4 hy eT hK (g := mkF m pc Ls st) rfl hsz (argsL := argsL) (rest := rest) (lenOf hlen hl) hst hW hd hc hs hF rfl
  exact go_back b (k T' ⟨_, X', N, e'⟩)
end Calls
theorem g_absD2 (X : Wk p l e R s m args below meth c n0 T h cells slots) (hx : p.tables.exec = Jvm.exec) (hZ : Z.Warmed39 s.vm) {own : String} {index W : Nat} (hown : s.vm.findClass own = some m.cls) (w1 : (Jvm.Cond.methodLink own index Jvm.Free.Fl.Abs.absDN).before a0 Z = true) (w2 : (Jvm.Cond.static Jvm.Free.Fl.Abs.absDN).before a0 Z = true) (w3 : (Jvm.Cond.initialized Jvm.Free.Fl.Abs.absDN.cls).before a0 Z = true) (w4 : (Jvm.Cond.code Jvm.Free.Fl.Abs.absDN Jvm.Free.Fl.Abs.absDCode 2 (some .double)).before a0 Z = true)
    {x : UInt64} (hn : NoNaN64 x) (hsz : Ls.size = c.maxLocals) (hp : pc + 3 = pc') (hd : decode c.code pc = .ok (.invokestatic index, 3)) (hW : 2 * 0 + (rest.map fun v => v.category).sum ≤ W) (hf : 1 ≤ R.frames) (hlo : W + 13 ≤ R.locals) (hc : cells ≤ R.cells) (hs : slots ≤ R.slots)
    (k : ∀ T', Wk p l e R s m args below meth c n0 T' h cells slots → Go p e below s n0 Q nc ns (T'.setTop (mkF m pc' Ls (.double (x &&& 0x7fffffffffffffff) :: rest)))) : Go p e below s n0 Q nc ns (T.setTop (mkF m pc Ls (.double x :: rest))) :=
  g_nat X hx hZ hown w1 w2 w3 w4 (by decide) (fun q => Jvm.Free.Fl.Abs.absD_pays x q hf hlo) (ps := [.double]) (r := some .double) (by decide +kernel) (argsL := [.double x]) rfl hsz hp hd rfl hW hc hs ⟨rfl, hn⟩ k
theorem g_ret (X : Wk p l e R s m args below meth c n0 T h cells slots) (hx : p.tables.exec = Jvm.exec) (hlk : meth.locks = false) {t : FieldType} {w : Value} {i : Instr} (hret : meth.sig.returnType = some t) (hn : narrow t w = w)
    (hi : (i = .ireturn ∧ (t = .int ∨ t = .boolean ∨ t = .byte ∨ t = .char ∨ t = .short) ∧ ∃ z, w = .int z) ∨ (i = .lreturn ∧ t = .long ∧ ∃ z, w = .long z) ∨ (i = .dreturn ∧ t = .double ∧ ∃ z, w = .double z) ∨ (i = .freturn ∧ t = .float ∧ ∃ z, w = .float z) ∨ (i = .areturn ∧ t.isReference = true ∧ w.isRef = true))
    (hd : decode c.code pc = .ok (i, 1)) (hc : cells ≤ nc) (hs : slots ≤ ns) (hQ : Q (some w) h) : Go p e below s n0 Q nc ns (T.setTop (mkF m pc Ls (w :: rest))) := by
  obtain ⟨locs, X, N, eT⟩ := X
  obtain ⟨fs, hr, hrun, hended, hW, hsame⟩ := X.leave (v := some w) (fun q => by rw [hret] at q; cases q) hlk
  exact ⟨_, _, retOut X hx hret hn hi hd hr, hrun, hended, _, _, rfl, ⟨N, by show Q (some w) T.heap; rw [eT]; exact hQ⟩, ⟨_, rfl⟩, hW, hsame.mono hc hs⟩
theorem g_retI (X : Wk p l e R s m args below meth c n0 T h cells slots) (hx : p.tables.exec = Jvm.exec) (hlk : meth.locks = false) {z : Int32} (hret : meth.sig.returnType = some .int) (hd : decode c.code pc = .ok (.ireturn, 1)) (hc : cells ≤ nc) (hs : slots ≤ ns) (hQ : Q (some (.int z)) h) : Go p e below s n0 Q nc ns (T.setTop (mkF m pc Ls (.int z :: rest))) :=
  g_ret X hx hlk hret rfl (Or.inl ⟨rfl, Or.inl rfl, z, rfl⟩) hd hc hs hQ
theorem g_retZ (X : Wk p l e R s m args below meth c n0 T h cells slots) (hx : p.tables.exec = Jvm.exec) (hlk : meth.locks = false) {z : Int32} (hret : meth.sig.returnType = some .boolean) (hz : z = 0 ∨ z = 1) (hd : decode c.code pc = .ok (.ireturn, 1)) (hc : cells ≤ nc) (hs : slots ≤ ns) (hQ : Q (some (.int z)) h) : Go p e below s n0 Q nc ns (T.setTop (mkF m pc Ls (.int z :: rest))) :=
  g_ret X hx hlk hret (by rcases hz with rfl | rfl <;> rfl) (Or.inl ⟨rfl, Or.inr (Or.inl rfl), z, rfl⟩) hd hc hs hQ
theorem g_retL (X : Wk p l e R s m args below meth c n0 T h cells slots) (hx : p.tables.exec = Jvm.exec) (hlk : meth.locks = false) {z : Int64} (hret : meth.sig.returnType = some .long) (hd : decode c.code pc = .ok (.lreturn, 1)) (hc : cells ≤ nc) (hs : slots ≤ ns) (hQ : Q (some (.long z)) h) : Go p e below s n0 Q nc ns (T.setTop (mkF m pc Ls (.long z :: rest))) :=
  g_ret X hx hlk hret rfl (Or.inr (Or.inl ⟨rfl, rfl, z, rfl⟩)) hd hc hs hQ
theorem g_retD (X : Wk p l e R s m args below meth c n0 T h cells slots) (hx : p.tables.exec = Jvm.exec) (hlk : meth.locks = false) {z : UInt64} (hret : meth.sig.returnType = some .double) (hd : decode c.code pc = .ok (.dreturn, 1)) (hc : cells ≤ nc) (hs : slots ≤ ns) (hQ : Q (some (.double z)) h) : Go p e below s n0 Q nc ns (T.setTop (mkF m pc Ls (.double z :: rest))) :=
  g_ret X hx hlk hret rfl (Or.inr (Or.inr (Or.inl ⟨rfl, rfl, z, rfl⟩))) hd hc hs hQ
theorem g_retV (X : Wk p l e R s m args below meth c n0 T h cells slots) (hx : p.tables.exec = Jvm.exec) (hlk : meth.locks = false) (hret : meth.sig.returnType = none) (hd : decode c.code pc = .ok (.return_, 1)) (hc : cells ≤ nc) (hs : slots ≤ ns) (hQ : Q none h) : Go p e below s n0 Q nc ns (T.setTop (mkF m pc Ls [])) := by
  obtain ⟨locs, X, N, eT⟩ := X
  obtain ⟨fs, hr, hrun, hended, hW, hsame⟩ := X.leave (v := none) (fun _ => rfl) hlk
  exact ⟨_, _, X.returnOut hx hret hd hr, hrun, hended, _, _, rfl, ⟨N, by show Q none T.heap; rw [eT]; exact hQ⟩, ⟨_, rfl⟩, hW, hsame.mono hc hs⟩
end OwnKit
theorem d1_0 : decode jdk_29_method_70_code 0 = .ok (.lload_n 0, 1) := by decide +kernel
theorem d1_1 : decode jdk_29_method_70_code 1 = .ok (.lload_n 2, 1) := by decide +kernel
theorem d1_2 : decode jdk_29_method_70_code 2 = .ok (.lcmp, 1) := by decide +kernel
theorem d1_3 : decode jdk_29_method_70_code 3 = .ok (.ifCond .gt 7, 3) := by decide +kernel
theorem d1_6 : decode jdk_29_method_70_code 6 = .ok (.lload_n 0, 1) := by decide +kernel
theorem d1_7 : decode jdk_29_method_70_code 7 = .ok (.goto 4, 3) := by decide +kernel
theorem d1_10 : decode jdk_29_method_70_code 10 = .ok (.lload_n 2, 1) := by decide +kernel
theorem d1_11 : decode jdk_29_method_70_code 11 = .ok (.lreturn, 1) := by decide +kernel
theorem d2_0 : decode prog_114_method_4_code 0 = .ok (.lload_n 0, 1) := by decide +kernel
theorem d2_1 : decode prog_114_method_4_code 1 = .ok (.lconst 0, 1) := by decide +kernel
theorem d2_2 : decode prog_114_method_4_code 2 = .ok (.lcmp, 1) := by decide +kernel
theorem d2_3 : decode prog_114_method_4_code 3 = .ok (.ifCond .le 25, 3) := by decide +kernel
theorem d2_6 : decode prog_114_method_4_code 6 = .ok (.ldc2_w 38, 3) := by decide +kernel
theorem d2_9 : decode prog_114_method_4_code 9 = .ok (.lload_n 0, 1) := by decide +kernel
theorem d2_10 : decode prog_114_method_4_code 10 = .ok (.l2d, 1) := by decide +kernel
theorem d2_11 : decode prog_114_method_4_code 11 = .ok (.dmul, 1) := by decide +kernel
theorem d2_12 : decode prog_114_method_4_code 12 = .ok (.ldc2_w 40, 3) := by decide +kernel
theorem d2_15 : decode prog_114_method_4_code 15 = .ok (.lload 4, 2) := by decide +kernel
theorem d2_17 : decode prog_114_method_4_code 17 = .ok (.l2d, 1) := by decide +kernel
theorem d2_18 : decode prog_114_method_4_code 18 = .ok (.dmul, 1) := by decide +kernel
theorem d2_19 : decode prog_114_method_4_code 19 = .ok (.lload_n 2, 1) := by decide +kernel
theorem d2_20 : decode prog_114_method_4_code 20 = .ok (.l2d, 1) := by decide +kernel
theorem d2_21 : decode prog_114_method_4_code 21 = .ok (.dadd, 1) := by decide +kernel
theorem d2_22 : decode prog_114_method_4_code 22 = .ok (.ddiv, 1) := by decide +kernel
theorem d2_23 : decode prog_114_method_4_code 23 = .ok (.dstore 6, 2) := by decide +kernel
theorem d2_25 : decode prog_114_method_4_code 25 = .ok (.goto 25, 3) := by decide +kernel
theorem d2_28 : decode prog_114_method_4_code 28 = .ok (.lload_n 2, 1) := by decide +kernel
theorem d2_29 : decode prog_114_method_4_code 29 = .ok (.lconst 0, 1) := by decide +kernel
theorem d2_30 : decode prog_114_method_4_code 30 = .ok (.lcmp, 1) := by decide +kernel
theorem d2_31 : decode prog_114_method_4_code 31 = .ok (.ifCond .ne 16, 3) := by decide +kernel
theorem d2_34 : decode prog_114_method_4_code 34 = .ok (.lload 4, 2) := by decide +kernel
theorem d2_36 : decode prog_114_method_4_code 36 = .ok (.lconst 0, 1) := by decide +kernel
theorem d2_37 : decode prog_114_method_4_code 37 = .ok (.lcmp, 1) := by decide +kernel
theorem d2_38 : decode prog_114_method_4_code 38 = .ok (.ifCond .ne 9, 3) := by decide +kernel
theorem d2_41 : decode prog_114_method_4_code 41 = .ok (.dconst 1, 1) := by decide +kernel
theorem d2_42 : decode prog_114_method_4_code 42 = .ok (.dstore 6, 2) := by decide +kernel
theorem d2_44 : decode prog_114_method_4_code 44 = .ok (.goto 6, 3) := by decide +kernel
theorem d2_47 : decode prog_114_method_4_code 47 = .ok (.dconst 0, 1) := by decide +kernel
theorem d2_48 : decode prog_114_method_4_code 48 = .ok (.dstore 6, 2) := by decide +kernel
theorem d2_50 : decode prog_114_method_4_code 50 = .ok (.dload 6, 2) := by decide +kernel
theorem d2_52 : decode prog_114_method_4_code 52 = .ok (.dreturn, 1) := by decide +kernel
theorem pd_0 : parseMethodDescriptor "(JJ)J" = some ⟨[.long, .long], some .long⟩ := by decide +kernel
theorem pd_1 : parseMethodDescriptor "(JJJ)D" = some ⟨[.long, .long, .long], some .double⟩ := by decide +kernel
section OwnFP
open Jvm.FP Jvm.FP.Core Jvm.Free.Fl
/-- a double's value, counted in the format's least numbers (2^-1074) -/
def dv (x : UInt64) : Int := zval b64 (val64 x)
/-- what the whole number 1 counts -/
def oneU : Int := (one64 : Int)
/-- z least numbers are a finite double -/
def Rep (z : Int) : Prop := ∃ V : Datum, FP.Core.fits b64 V ∧ (∃ s c q, V = .fin s c q) ∧ zval b64 V = z
theorem oneU_pos : 0 < oneU := by have := one64_pos; unfold oneU; omega
theorem rep_neg {z : Int} (h : Rep z) : Rep (-z) := by
  obtain ⟨V, h1, ⟨s, c, q, rfl⟩, h3⟩ := h
  exact ⟨negate (.fin s c q), negate_fits h1, ⟨_, _, _, rfl⟩, by rw [zval_negate, h3]⟩
theorem rep_nat {c j : Nat} (hc : c < 2 ^ 53) (hj : j ≤ 2045) : Rep ((c * 2 ^ j : Nat) : Int) := by
  have hm : b64.qmax = 971 := by decide
  obtain ⟨c', q', h1, h2⟩ := round_exact good_b64 false (c := c) (q := -1074 + (j : Int)) hc (by rw [qmin_b64]; omega) (by rw [hm]; omega)
  refine ⟨round b64 (.fin false c (-1074 + (j : Int))), round_fits good_b64 _, ⟨_, _, _, h1⟩, ?_⟩
  rw [h1]
  show signed false (inUnits c' q' b64.qmin) = _
  rw [h2]
  show ((inUnits c (-1074 + (j : Int)) b64.qmin : Nat) : Int) = _
  unfold inUnits
  rw [qmin_b64, show (-1074 + (j : Int) - -1074).toNat = j by omega]
theorem rep_int {z : Int} {c j : Nat} (hc : c < 2 ^ 53) (hj : j ≤ 2045) (h : z.natAbs = c * 2 ^ j) : Rep z := by
  have q := rep_nat hc hj
  rw [← h] at q
  rcases Int.natAbs_eq z with e | e
  · rw [e]; exact q
  · rw [e]; exact rep_neg q
theorem rep_dv {x : UInt64} (h : DFin x) : Rep (dv x) := ⟨val64 x, val64_fits x, h, rfl⟩
theorem squeeze {d : Datum} (hf : FP.Core.fits b64 d) (hn : d ≠ .nan) {z : Int} (hr : Rep z) (h1 : ∀ V, FP.Core.fits b64 V → V ≠ .nan → zval b64 V = z → zval b64 d ≤ zval b64 V) (h2 : ∀ V, FP.Core.fits b64 V → V ≠ .nan → zval b64 V = z → zval b64 V ≤ zval b64 d) :
    (∃ s c q, d = .fin s c q) ∧ zval b64 d = z := by
  obtain ⟨V, v1, ⟨s, c, q, rfl⟩, v3⟩ := hr
  have e1 := h1 _ v1 (by simp) v3
  have e2 := h2 _ v1 (by simp) v3
  have e : zval b64 d = z := by omega
  refine ⟨?_, e⟩
  have ht := zmag_lt_top good_b64 v1
  cases d with
  | nan => exact absurd rfl hn
  | fin s' c' q' => exact ⟨_, _, _, rfl⟩
  | inf t =>
    exfalso
    rw [← v3] at e
    have a1 : (zval b64 (.inf t)).natAbs = b64.tails * 2 ^ (b64.exps - 2) := natAbs_signed _ _
    have a2 : (zval b64 (.fin s c q)).natAbs = inUnits c q b64.qmin := natAbs_signed _ _
    rw [e, a2] at a1
    omega
theorem add_le {x y : UInt64} (hx : DFin x) (hy : DFin y) {V : Datum} (fV : FP.Core.fits b64 V) (hV : V ≠ .nan) (h : dv x + dv y ≤ zval b64 V) : dv (FP.dadd x y) ≤ zval b64 V := by
  unfold dv; rw [val64_dadd]; exact sum_le good_b64 hx hy (val64_fits x) (val64_fits y) fV hV h
theorem add_ge {x y : UInt64} (hx : DFin x) (hy : DFin y) {V : Datum} (fV : FP.Core.fits b64 V) (hV : V ≠ .nan) (h : zval b64 V ≤ dv x + dv y) : zval b64 V ≤ dv (FP.dadd x y) := by
  unfold dv; rw [val64_dadd]; exact sum_ge good_b64 hx hy (val64_fits x) (val64_fits y) fV hV h
theorem add_exact {x y : UInt64} (hx : DFin x) (hy : DFin y) {z : Int} (h : dv x + dv y = z) (hr : Rep z) : DFin (FP.dadd x y) ∧ dv (FP.dadd x y) = z :=
  squeeze (val64_fits _) ((notNaN_iff _).mp (dadd_out hx.notNaN hy)) hr (fun V f n e => add_le hx hy f n (by omega)) (fun V f n e => add_ge hx hy f n (by omega))
theorem neg_fin {x : UInt64} (hx : DFin x) : DFin (FP.dneg x) ∧ dv (FP.dneg x) = -dv x := by
  obtain ⟨s, c, q, h⟩ := hx
  unfold dv DFin; rw [FP.val64_dneg, zval_negate, h]
  exact ⟨⟨_, _, _, rfl⟩, rfl⟩
theorem sub_dneg {x y : UInt64} (hy : DFin y) : FP.dsub x y = FP.dadd x (FP.dneg y) := by
  rw [FP.dneg_core hy.notNaN]; exact dsub_eq x y
theorem sub_exact {x y : UInt64} (hx : DFin x) (hy : DFin y) {z : Int} (h : dv x - dv y = z) (hr : Rep z) : DFin (FP.dsub x y) ∧ dv (FP.dsub x y) = z := by
  rw [sub_dneg hy]
  exact add_exact hx (neg_fin hy).1 (by rw [(neg_fin hy).2]; omega) hr
theorem mul_units {x y : UInt64} (hx : DFin x) (hy : DFin y) : ∃ s c q, exactProduct (val64 x) (val64 y) = .fin s c q ∧ 2 * b64.qmin ≤ q ∧ signed s (inUnits c q (2 * b64.qmin)) = dv x * dv y := by
  obtain ⟨s, c, q, h1⟩ := hx
  obtain ⟨t, d, r, h2⟩ := hy
  have f1 := val64_fits x
  have f2 := val64_fits y
  unfold dv
  rw [h1] at f1 ⊢
  rw [h2] at f2 ⊢
  obtain ⟨p1, p2, p3⟩ := product_units f1 f2
  refine ⟨_, _, _, p1, p2, ?_⟩
  rw [p3, signed_xor]
  rfl
theorem two_qmin : 2 ^ (b64.qmin - 2 * b64.qmin).toNat = one64 := by rw [← pow_qmin64]; congr 1
theorem mul_le {x y : UInt64} (hx : DFin x) (hy : DFin y) {V : Datum} (fV : FP.Core.fits b64 V) (hV : V ≠ .nan) (h : dv x * dv y ≤ zval b64 V * oneU) : dv (FP.dmul x y) ≤ zval b64 V := by
  obtain ⟨s, c, q, h1, h2, h3⟩ := mul_units hx hy
  show zval b64 (val64 (FP.dmul x y)) ≤ _
  rw [val64_dmul, h1]
  refine zval_round_le good_b64 fV hV (e0 := 2 * b64.qmin) (by rw [qmin_b64]; omega) h2 ?_
  rw [h3, two_qmin]; exact h
theorem mul_ge {x y : UInt64} (hx : DFin x) (hy : DFin y) {V : Datum} (fV : FP.Core.fits b64 V) (hV : V ≠ .nan) (h : zval b64 V * oneU ≤ dv x * dv y) : zval b64 V ≤ dv (FP.dmul x y) := by
  obtain ⟨s, c, q, h1, h2, h3⟩ := mul_units hx hy
  show _ ≤ zval b64 (val64 (FP.dmul x y))
  rw [val64_dmul, h1]
  refine zval_round_ge good_b64 fV hV (e0 := 2 * b64.qmin) (by rw [qmin_b64]; omega) h2 ?_
  rw [h3, two_qmin]; exact h
theorem mul_exact {x y : UInt64} (hx : DFin x) (hy : DFin y) {z : Int} (h : dv x * dv y = z * oneU) (hr : Rep z) : DFin (FP.dmul x y) ∧ dv (FP.dmul x y) = z :=
  squeeze (val64_fits _) ((notNaN_iff _).mp (dmul_out hx hy)) hr (fun V f n e => mul_le hx hy f n (by rw [e, h]; exact Int.le_refl _)) (fun V f n e => mul_ge hx hy f n (by rw [e, h]; exact Int.le_refl _))
theorem dv_zero_iff {x : UInt64} (hx : DFin x) : DZero x ↔ dv x = 0 := by
  obtain ⟨s, c, q, h⟩ := hx
  constructor
  · intro hz; exact hz.zval
  · intro hz; exact (zero_bits2 x).mpr ((zval_eq_zero (by rw [h]; simp)).mp hz)
theorem div_units {x y : UInt64} (hx : DFin x) (hy : DFin y) (h0 : dv y ≠ 0) : ∃ (s t : Bool) (c d : Nat) (q r : Int), val64 (FP.ddiv x y) = roundRatio b64 (s != t) c d (q - r) ∧ 0 < d ∧ b64.qmin ≤ q ∧ b64.qmin ≤ r ∧ dv x = signed s (inUnits c q b64.qmin) ∧ dv y = signed t (inUnits d r b64.qmin) := by
  obtain ⟨s, c, q, h1⟩ := hx
  obtain ⟨t, d, r, h2⟩ := hy
  have f1 := val64_fits x
  have f2 := val64_fits y
  have hd : d ≠ 0 := by
    intro e; apply h0; unfold dv; rw [h2, e]; show signed t (inUnits 0 r b64.qmin) = 0; unfold inUnits; rw [Nat.zero_mul, signed_zero]
  refine ⟨s, t, c, d, q, r, ?_, Nat.pos_of_ne_zero hd, ?_, ?_, ?_, ?_⟩
  · rw [val64_ddiv, h1, h2]; show (if d = 0 then _ else _) = _; rw [if_neg hd]
  · rw [h1] at f1; exact f1.2.1
  · rw [h2] at f2; exact f2.2.1
  · unfold dv; rw [h1]; rfl
  · unfold dv; rw [h2]; rfl
theorem div_scale {c d : Nat} {q r : Int} (h1 : b64.qmin ≤ q) (h2 : b64.qmin ≤ r) (v : Nat) :
    inUnits c (q - r) (2 * b64.qmin - r) = inUnits c q b64.qmin * one64 ∧ v * 2 ^ (b64.qmin - (2 * b64.qmin - r)).toNat * d = v * inUnits d r b64.qmin := by
  unfold inUnits
  rw [← pow_qmin64]
  rw [qmin_b64] at h1 h2 ⊢
  constructor
  · rw [show (q - r - (2 * -1074 - r)).toNat = (q - -1074).toNat + (- -1074 : Int).toNat by omega, Nat.pow_add, Nat.mul_assoc]
  · rw [show (-1074 - (2 * -1074 - r)).toNat = (r - -1074).toNat by omega, Nat.mul_assoc, Nat.mul_comm (2 ^ _) d]
/-- a quotient of two that are not below nought, by monotony -/
theorem div_le {x y : UInt64} (hx : DFin x) (hy : DFin y) (px : 0 ≤ dv x) (py : 0 < dv y) {V : Datum} (fV : FP.Core.fits b64 V) (hV : V ≠ .nan) (h : dv x * oneU ≤ zval b64 V * dv y) : dv (FP.ddiv x y) ≤ zval b64 V := by
  obtain ⟨s, t, c, d, q, r, e, hd, hq, hr, ex, ey⟩ := div_units hx hy (by omega)
  show zval b64 (val64 (FP.ddiv x y)) ≤ _
  rw [e]
  have nv : 0 ≤ zval b64 V := by
    rcases Int.lt_or_le (zval b64 V) 0 with g | g
    · have := oneU_pos
      have a1 : 0 ≤ dv x * oneU := Int.mul_nonneg px (by omega)
      have a2 : zval b64 V * dv y < 0 := Int.mul_neg_of_neg_of_pos g py
      omega
    · exact g
  obtain ⟨k1, k2⟩ := div_scale (c := c) (d := d) hq hr (zmag b64 V)
  have ax : dv x = (inUnits c q b64.qmin : Int) := by
    rw [ex] at px ⊢; unfold signed at px ⊢; split <;> rename_i g <;> simp only [g, if_true] at px <;> omega
  have ay : dv y = (inUnits d r b64.qmin : Int) := by
    rw [ey] at py ⊢; unfold signed at py ⊢; split <;> rename_i g <;> simp only [g, if_true] at py <;> omega
  have av : zval b64 V = (zmag b64 V : Int) := by
    unfold zval at nv ⊢; unfold signed at nv ⊢; split <;> rename_i g <;> simp only [g, if_true] at nv <;> omega
  have hz := zmag_roundRatio_le good_b64 (s := (s != t)) (A := c) (B := d) (e := q - r) (e0 := 2 * b64.qmin - r) hd fV hV (by omega) (by rw [qmin_b64] at hq ⊢; omega) (by
    rw [k1, k2]
    rw [ax, ay, av] at h
    unfold oneU at h
    exact_mod_cast h)
  rw [av]
  unfold zval signed
  split <;> omega
theorem div_ge {x y : UInt64} (hx : DFin x) (hy : DFin y) (px : 0 ≤ dv x) (py : 0 < dv y) (hs : ∀ s c q, val64 x = .fin s c q → s = false) (hs' : ∀ s c q, val64 y = .fin s c q → s = false) {V : Datum} (fV : FP.Core.fits b64 V) (h : zval b64 V * dv y ≤ dv x * oneU) : zval b64 V ≤ dv (FP.ddiv x y) := by
  obtain ⟨s, c, q, h1⟩ := hx
  obtain ⟨t, d, r, h2⟩ := hy
  have es := hs _ _ _ h1
  have et := hs' _ _ _ h2
  subst es et
  have f1 := val64_fits x
  have f2 := val64_fits y
  have ax : dv x = (inUnits c q b64.qmin : Int) := by unfold dv; rw [h1]; rfl
  have ay : dv y = (inUnits d r b64.qmin : Int) := by unfold dv; rw [h2]; rfl
  have hd : d ≠ 0 := by
    intro e; rw [ay, e] at py; unfold inUnits at py; rw [Nat.zero_mul] at py; exact absurd py (by decide)
  rw [h1] at f1
  rw [h2] at f2
  show _ ≤ zval b64 (val64 (FP.ddiv x y))
  rw [val64_ddiv, h1, h2]
  show _ ≤ zval b64 (if d = 0 then _ else _)
  rw [if_neg hd]
  obtain ⟨k1, k2⟩ := div_scale (c := c) (d := d) f1.2.1 f2.2.1 (zmag b64 V)
  have hz := fun g => zmag_roundRatio_ge good_b64 (s := (false != false)) (A := c) (B := d) (e := q - r) (e0 := 2 * b64.qmin - r) (V := V) (Nat.pos_of_ne_zero hd) fV (by have := f2.2.1; omega) (by have := f1.2.1; rw [qmin_b64] at this ⊢; omega) g
  have e : zval b64 (roundRatio b64 (false != false) c d (q - r)) = (zmag b64 (roundRatio b64 (false != false) c d (q - r)) : Int) := by
    unfold zval; rw [sgn_roundRatio]; rfl
  rw [e]
  rcases Int.lt_or_le (zval b64 V) 0 with g | g
  · omega
  · have av : zval b64 V = (zmag b64 V : Int) := by
      unfold zval at g ⊢; unfold signed at g ⊢; split <;> rename_i w <;> simp only [w, if_true] at g <;> omega
    rw [av] at h ⊢
    have := hz (by
      rw [k1, k2]
      rw [ax, ay] at h
      unfold oneU at h
      exact_mod_cast h)
    omega
theorem noNaN_of_fin {x : UInt64} (h : DFin x) : NoNaN64 x := (fin64_core.mpr h).noNaN
theorem dint_fin {i : Int} {x : UInt64} (h : DInt i x) : DFin x ∧ dv x = i * oneU := by
  refine ⟨?_, DInt_zval h⟩
  unfold DInt at h
  cases hv : val64 x with
  | nan => rw [hv] at h; exact h.elim
  | inf s => rw [hv] at h; exact h.elim
  | fin s c q => exact ⟨s, c, q, hv⟩
theorem cmp_dv {x y : UInt64} (hx : DFin x) (hy : DFin y) : FP.dcmp x y = some (compare (dv x) (dv y)) := dcmp_zval hx.ne_nan hy.ne_nan
end OwnFP
section OwnProb
open Jvm.FP Jvm.FP.Core Jvm.Free.Fl
theorem fin_of_bound {q : UInt64} (hn : FP.dIsNaN q = false) {s : Bool} {c : Nat} {e : Int} (fV : FP.Core.fits b64 (.fin s c e)) (h : (dv q).natAbs ≤ (zval b64 (.fin s c e)).natAbs) : DFin q := by
  have ht := zmag_lt_top good_b64 fV
  have hm := (notNaN_iff q).mp hn
  unfold dv at h
  unfold DFin
  cases hv : val64 q with
  | nan => exact absurd hv hm
  | fin s' c' q' => exact ⟨_, _, _, rfl⟩
  | inf t =>
    exfalso
    rw [hv] at h
    have a1 : (zval b64 (.inf t)).natAbs = b64.tails * 2 ^ (b64.exps - 2) := natAbs_signed _ _
    have a2 : (zval b64 (.fin s c e)).natAbs = inUnits c e b64.qmin := natAbs_signed _ _
    rw [a1, a2] at h
    omega
theorem i2d_sign {k : Int32} (h : 0 ≤ k.toInt) {s : Bool} {c : Nat} {q : Int} (e : val64 (FP.i2d k) = .fin s c q) : s = false := by
  obtain ⟨c', q', e'⟩ := l2d_shape k.toInt64
  rw [show FP.i2d k = FP.l2d k.toInt64 from i2d_l2d k] at e
  have e2 := e.symm.trans e'
  injection e2 with e3
  rw [e3]
  have := c_i2l k
  exact decide_eq_false (by omega)
theorem one_dv : DFin 4607182418800017408 ∧ dv 4607182418800017408 = oneU := by
  have h := dint_fin dint_one
  exact ⟨h.1, by rw [h.2]; omega⟩
theorem zero_dv : DFin 0 ∧ dv 0 = 0 := ⟨⟨_, _, _, val64_zero⟩, zval64_zero⟩
theorem own_one64 : 4294967296 ≤ oneU := by
  have h : 4294967296 ≤ one64 := Nat.le_trans (by decide : 4294967296 ≤ 2 ^ 32) (Nat.pow_le_pow_right (by decide) (by decide))
  have g : ∀ n : Nat, 4294967296 ≤ n → (4294967296 : Int) ≤ (n : Int) := fun n h => by omega
  exact g one64 h
theorem own_quot {k d : Int32} (h0 : 0 ≤ k.toInt) (h1 : k.toInt ≤ d.toInt) (h2 : 0 < d.toInt) :
    DFin (FP.ddiv (FP.i2d k) (FP.i2d d)) ∧ 0 ≤ dv (FP.ddiv (FP.i2d k) (FP.i2d d)) ∧ dv (FP.ddiv (FP.i2d k) (FP.i2d d)) ≤ oneU ∧ (0 < k.toInt → 0 < dv (FP.ddiv (FP.i2d k) (FP.i2d d))) ∧ (k.toInt = 0 → dv (FP.ddiv (FP.i2d k) (FP.i2d d)) = 0) := by
  obtain ⟨fx, ex⟩ : DFin (FP.i2d k) ∧ dv (FP.i2d k) = k.toInt * oneU := dint_fin (i2d_int k)
  obtain ⟨fy, ey⟩ : DFin (FP.i2d d) ∧ dv (FP.i2d d) = d.toInt * oneU := dint_fin (i2d_int d)
  have hU := own_one64
  have py : 0 < dv (FP.i2d d) := by rw [ey]; exact Int.mul_pos h2 (by omega)
  have px : 0 ≤ dv (FP.i2d k) := by rw [ex]; exact Int.mul_nonneg h0 (by omega)
  obtain ⟨⟨s1, c1, q1, v1⟩, w1⟩ := one_dv
  have f1 := val64_fits 4607182418800017408
  have z1 : zval b64 (val64 4607182418800017408) = oneU := w1
  have z0 : zval b64 (val64 0) = 0 := zero_dv.2
  have hn : FP.dIsNaN (FP.ddiv (FP.i2d k) (FP.i2d d)) = false := ddiv_out fx.notNaN fy (fun z => by rw [dv_zero_iff fy] at z; omega)
  have b1 : dv (FP.ddiv (FP.i2d k) (FP.i2d d)) ≤ oneU := by
    rw [← z1]
    refine div_le fx fy px py f1 (by rw [v1]; simp) ?_
    rw [z1, ex, ey, Int.mul_comm oneU]
    exact Int.mul_le_mul_of_nonneg_right (Int.mul_le_mul_of_nonneg_right h1 (by omega)) (by omega)
  have b0 : 0 ≤ dv (FP.ddiv (FP.i2d k) (FP.i2d d)) := by
    have := div_ge fx fy px py (fun _ _ _ e => i2d_sign h0 e) (fun _ _ _ e => i2d_sign (by omega) e) (val64_fits 0) (by rw [z0, Int.zero_mul]; exact Int.mul_nonneg px (by omega))
    rw [z0] at this; exact this
  refine ⟨?_, b0, b1, fun hk => ?_, fun hk => ?_⟩
  · rw [v1] at f1 z1
    refine fin_of_bound hn f1 ?_
    rw [z1]; omega
  · have z2 : zval b64 (val64 1) = 1 := by decide +kernel
    have := div_ge fx fy px py (fun _ _ _ e => i2d_sign h0 e) (fun _ _ _ e => i2d_sign (by omega) e) (val64_fits 1) (by
      rw [z2, Int.one_mul, ex, ey]
      have hd := rng32 d
      exact Int.mul_le_mul_of_nonneg_right (show d.toInt ≤ k.toInt * oneU by
        have : oneU ≤ k.toInt * oneU := by
          have := Int.mul_le_mul_of_nonneg_right (show (1 : Int) ≤ k.toInt by omega) (show 0 ≤ oneU by omega)
          omega
        omega) (by omega))
    rw [z2] at this; omega
  · have := div_le fx fy px py (val64_fits 0) (by rw [val64_zero]; simp) (by rw [z0, ex, hk]; omega)
    rw [z0] at this; omega
/-- what dcmp pushes, by the values -/
theorem cmpV_lt {x y : UInt64} (hx : DFin x) (hy : DFin y) (h : dv x < dv y) (op : CmpOp) : cmpValue (FP.dcmp x y) op = -1 := by rw [cmp_dv hx hy, (compare_lt_iff _ _).mpr h]; rfl
theorem cmpV_eq {x y : UInt64} (hx : DFin x) (hy : DFin y) (h : dv x = dv y) (op : CmpOp) : cmpValue (FP.dcmp x y) op = 0 := by rw [cmp_dv hx hy, (compare_eq_iff _ _).mpr h]; rfl
theorem cmpV_gt {x y : UInt64} (hx : DFin x) (hy : DFin y) (h : dv y < dv x) (op : CmpOp) : cmpValue (FP.dcmp x y) op = 1 := by rw [cmp_dv hx hy, (compare_gt_iff _ _).mpr h]; rfl
theorem cmpV_notlt {x y : UInt64} (hx : DFin x) (hy : DFin y) (h : dv y ≤ dv x) (op : CmpOp) : ¬ cmpValue (FP.dcmp x y) op < 0 := by
  rcases Int.lt_or_eq_of_le h with q | q
  · rw [cmpV_gt hx hy q]; decide
  · rw [cmpV_eq hx hy q.symm]; decide
theorem cmpV_notgt {x y : UInt64} (hx : DFin x) (hy : DFin y) (h : dv x ≤ dv y) (op : CmpOp) : ¬ (0 : Int32) < cmpValue (FP.dcmp x y) op := by
  rcases Int.lt_or_eq_of_le h with q | q
  · rw [cmpV_lt hx hy q]; decide
  · rw [cmpV_eq hx hy q]; decide
end OwnProb
section OwnDy
open Jvm.FP Jvm.FP.Core Jvm.Free.Fl
/-- 2^j, as an Int -/
def pw (j : Nat) : Int := ((2 ^ j : Nat) : Int)
theorem pw_mul (i j : Nat) : pw i * pw j = pw (i + j) := by unfold pw; rw [Nat.pow_add]; exact (Int.natCast_mul _ _).symm
theorem pw_pos (j : Nat) : 0 < pw j := by unfold pw; have := Nat.two_pow_pos j; omega
theorem pw_abs (j : Nat) : (pw j).natAbs = 2 ^ j := by unfold pw; exact Int.natAbs_natCast _
theorem oneU_pw : oneU = pw 1074 := rfl
/-- the double x is n * 2^j least numbers (n whole: j = 1074) -/
def Dy (n : Int) (j : Nat) (x : UInt64) : Prop := DFin x ∧ dv x = n * pw j
theorem dy_int {i : Int} {x : UInt64} (h : DInt i x) : Dy i 1074 x := by
  have q := dint_fin h
  exact ⟨q.1, by rw [q.2, oneU_pw]⟩
theorem rep_pw {n : Int} {j : Nat} (hn : n.natAbs < 2 ^ 53) (hj : j ≤ 2045) : Rep (n * pw j) := rep_int hn hj (by rw [Int.natAbs_mul, pw_abs])
theorem dy_add {n m : Int} {j : Nat} {x y : UInt64} (hx : Dy n j x) (hy : Dy m j y) (h : (n + m).natAbs < 2 ^ 53) (hj : j ≤ 2045) : Dy (n + m) j (FP.dadd x y) :=
  add_exact hx.1 hy.1 (by rw [hx.2, hy.2, Int.add_mul]) (rep_pw h hj)
theorem dy_sub {n m : Int} {j : Nat} {x y : UInt64} (hx : Dy n j x) (hy : Dy m j y) (h : (n - m).natAbs < 2 ^ 53) (hj : j ≤ 2045) : Dy (n - m) j (FP.dsub x y) :=
  sub_exact hx.1 hy.1 (by rw [hx.2, hy.2, Int.sub_mul]) (rep_pw h hj)
theorem dy_neg {n : Int} {j : Nat} {x : UInt64} (hx : Dy n j x) : Dy (-n) j (FP.dneg x) :=
  ⟨(neg_fin hx.1).1, by rw [(neg_fin hx.1).2, hx.2, Int.neg_mul]⟩
theorem dy_mul {n m : Int} {i j k : Nat} {x y : UInt64} (hx : Dy n i x) (hy : Dy m j y) (hk : i + j = k + 1074) (h : (n * m).natAbs < 2 ^ 53) (hj : k ≤ 2045) : Dy (n * m) k (FP.dmul x y) :=
  mul_exact hx.1 hy.1 (by
    have e : pw i * pw j = pw k * oneU := by rw [oneU_pw, pw_mul, pw_mul, hk]
    rw [hx.2, hy.2, Int.mul_assoc (n * m), ← e]
    ac_rfl) (rep_pw h hj)
theorem dy_shift {n : Int} {j : Nat} {x : UInt64} (t : Nat) (h : Dy n (j + t) x) : Dy (n * pw t) j x := by
  refine ⟨h.1, ?_⟩
  rw [h.2, ← pw_mul]
  ac_rfl
theorem compare_pw (n m : Int) (j : Nat) : compare (n * pw j) (m * pw j) = compare n m := compare_mul_pos _ _ _ (pw_pos j)
theorem dy_cmp {n m : Int} {j : Nat} {x y : UInt64} (hx : Dy n j x) (hy : Dy m j y) : FP.dcmp x y = some (compare n m) := by
  rw [cmp_dv hx.1 hy.1, hx.2, hy.2, compare_pw]
theorem signed_cases (s : Bool) (n : Nat) : signed s n = (n : Int) ∨ signed s n = -(n : Int) := by cases s <;> simp [signed]
/-- an exact quotient -/
theorem div_exact {x y : UInt64} (hx : DFin x) (hy : DFin y) (h0 : dv y ≠ 0) {z : Int} (h : dv x * oneU = z * dv y) (hr : Rep z) : DFin (FP.ddiv x y) ∧ dv (FP.ddiv x y) = z := by
  obtain ⟨s, t, c, d, q, r, e, hd, hq, hr1, ex, ey⟩ := div_units hx hy h0
  obtain ⟨V, fV, ⟨s', c', q', rfl⟩, hz⟩ := hr
  have az : zmag b64 (.fin s' c' q') = z.natAbs := by rw [← hz]; exact (natAbs_signed _ _).symm
  have ax : (dv x).natAbs = inUnits c q b64.qmin := by rw [ex, natAbs_signed]
  have ay : (dv y).natAbs = inUnits d r b64.qmin := by rw [ey, natAbs_signed]
  have ha : inUnits c q b64.qmin * one64 = z.natAbs * inUnits d r b64.qmin := by
    have := congrArg Int.natAbs h
    rw [Int.natAbs_mul, Int.natAbs_mul, ax, ay] at this
    exact this
  obtain ⟨k1, k2⟩ := div_scale (c := c) (d := d) hq hr1 (zmag b64 (.fin s' c' q'))
  have l1 := zmag_roundRatio_le good_b64 (s := (s != t)) (A := c) (B := d) (e := q - r) (e0 := 2 * b64.qmin - r) hd fV (by simp) (by omega) (by rw [qmin_b64] at hq ⊢; omega) (by rw [k1, k2, az, ha]; exact Nat.le_refl _)
  have l2 := zmag_roundRatio_ge good_b64 (s := (s != t)) (A := c) (B := d) (e := q - r) (e0 := 2 * b64.qmin - r) hd fV (by omega) (by rw [qmin_b64] at hq ⊢; omega) (by rw [k1, k2, az, ha]; exact Nat.le_refl _)
  have lz : zmag b64 (roundRatio b64 (s != t) c d (q - r)) = z.natAbs := by omega
  have ez : zval b64 (val64 (FP.ddiv x y)) = signed (s != t) z.natAbs := by
    rw [e]; unfold zval; rw [sgn_roundRatio, lz]
  have es : signed (s != t) z.natAbs = z := by
    by_cases hz0 : z = 0
    · rw [hz0]; exact signed_zero _
    · have hu := oneU_pos
      rw [ex, ey] at h
      have hc : 0 < inUnits c q b64.qmin := by
        rcases Nat.eq_zero_or_pos (inUnits c q b64.qmin) with w | w
        · rw [w, Nat.zero_mul] at ha
          have : 0 < z.natAbs * inUnits d r b64.qmin := Nat.mul_pos (by omega) (by unfold inUnits; exact Nat.mul_pos hd (Nat.two_pow_pos _))
          omega
        · exact w
      have hdd : 0 < inUnits d r b64.qmin := by unfold inUnits; exact Nat.mul_pos hd (Nat.two_pow_pos _)
      generalize inUnits c q b64.qmin = C at *
      generalize inUnits d r b64.qmin = D at *
      have p1 : (0 : Int) < (C : Int) * oneU := Int.mul_pos (by omega) hu
      cases s <;> cases t <;> simp only [signed, bne_self_eq_false, Bool.false_eq_true, if_false, if_true, Bool.true_bne, Bool.false_bne, Bool.not_false] at h ⊢
      · have : 0 < z := by
          rcases Int.lt_or_le 0 z with w | w
          · exact w
          · have := Int.mul_nonpos_of_nonpos_of_nonneg w (show (0 : Int) ≤ (D : Int) by omega); omega
        omega
      · have : z < 0 := by
          rcases Int.lt_or_le z 0 with w | w
          · exact w
          · have := Int.mul_nonneg w (show (0 : Int) ≤ (D : Int) by omega); rw [Int.mul_neg] at h; omega
        omega
      · have : z < 0 := by
          rcases Int.lt_or_le z 0 with w | w
          · exact w
          · have := Int.mul_nonneg w (show (0 : Int) ≤ (D : Int) by omega); rw [Int.neg_mul] at h; omega
        omega
      · have : 0 < z := by
          rcases Int.lt_or_le 0 z with w | w
          · exact w
          · have := Int.mul_nonpos_of_nonpos_of_nonneg w (show (0 : Int) ≤ (D : Int) by omega); rw [Int.neg_mul, Int.mul_neg] at h; omega
        omega
  refine ⟨?_, ez.trans es⟩
  have hn : FP.dIsNaN (FP.ddiv x y) = false := ddiv_out hx.notNaN hy (fun w => h0 ((dv_zero_iff hy).mp w))
  have ht := zmag_lt_top good_b64 fV
  unfold DFin
  cases hv : val64 (FP.ddiv x y) with
  | nan => exact absurd hv ((notNaN_iff _).mp hn)
  | fin s2 c2 q2 => exact ⟨_, _, _, rfl⟩
  | inf t2 =>
    exfalso
    rw [hv] at e
    rw [← e] at lz
    have a1 : zmag b64 (.inf t2) = b64.tails * 2 ^ (b64.exps - 2) := rfl
    have a2 : zmag b64 (.fin s' c' q') = inUnits c' q' b64.qmin := rfl
    rw [a1] at lz
    omega
theorem dy_div {n m q : Int} {i j k : Nat} {x y : UInt64} (hx : Dy n i x) (hy : Dy m j y) (hm : m ≠ 0) (hq : n = q * m) (hk : i + 1074 = k + j) (h : q.natAbs < 2 ^ 53) (hj : k ≤ 2045) : Dy q k (FP.ddiv x y) :=
  div_exact hx.1 hy.1 (by rw [hy.2]; exact Int.mul_ne_zero hm (Int.ne_of_gt (pw_pos j))) (by
    have e : pw i * oneU = pw k * pw j := by rw [oneU_pw, pw_mul, pw_mul, hk]
    rw [hx.2, hy.2, hq, Int.mul_assoc (q * m), e]
    ac_rfl) (rep_pw h hj)
theorem dy_noNaN {n : Int} {j : Nat} {x : UInt64} (h : Dy n j x) : NoNaN64 x := noNaN_of_fin h.1
/-- two quotients of the same ratio are one double -/
theorem div_congr {x y x' y' : UInt64} (hx : DFin x) (hy : DFin y) (hx' : DFin x') (hy' : DFin y') (px : 0 < dv x) (py : 0 < dv y) (px' : 0 < dv x') (py' : 0 < dv y') (h : dv x * dv y' = dv x' * dv y) : FP.ddiv x y = FP.ddiv x' y' := by
  have sg : ∀ {s : Bool} {n : Nat}, 0 < signed s n → s = false ∧ signed s n = (n : Int) := by
    intro s n q; cases s
    · exact ⟨rfl, rfl⟩
    · simp only [signed, if_true] at q; omega
  obtain ⟨s, t, c, d, q, r, e, hd, hq, hr, ex, ey⟩ := div_units hx hy (by omega)
  obtain ⟨s', t', c', d', q', r', e', hd', hq', hr', ex', ey'⟩ := div_units hx' hy' (by omega)
  rw [ex] at px; rw [ey] at py; rw [ex'] at px'; rw [ey'] at py'
  rw [ex, ey, ex', ey', (sg px).2, (sg py).2, (sg px').2, (sg py').2] at h
  have hn : val64 (FP.ddiv x y) ≠ .nan := by rw [e]; exact roundRatio_ne_nan _ _ _ _ _
  refine val64_inj hn ?_
  rw [e, e', (sg px).1, (sg py).1, (sg px').1, (sg py').1]
  refine roundRatio_congr hd hd' ?_
  have hN : inUnits c q b64.qmin * inUnits d' r' b64.qmin = inUnits c' q' b64.qmin * inUnits d r b64.qmin := by exact_mod_cast h
  unfold inUnits at hN
  generalize ha1 : (q - b64.qmin).toNat = a1 at hN
  generalize ha2 : (r' - b64.qmin).toNat = a2 at hN
  generalize ha3 : (q' - b64.qmin).toNat = a3 at hN
  generalize ha4 : (r - b64.qmin).toNat = a4 at hN
  have h1 : c * d' * 2 ^ (a1 + a2) = c' * d * 2 ^ (a3 + a4) := by
    rw [Nat.pow_add, Nat.pow_add]
    calc c * d' * (2 ^ a1 * 2 ^ a2) = c * 2 ^ a1 * (d' * 2 ^ a2) := by ac_rfl
      _ = c' * 2 ^ a3 * (d * 2 ^ a4) := hN
      _ = _ := by ac_rfl
  rcases Nat.le_total (a3 + a4) (a1 + a2) with w | w
  · obtain ⟨k, hk⟩ := Nat.le.dest w
    rw [← hk, Nat.pow_add 2 (a3 + a4) k, Nat.mul_comm (2 ^ (a3 + a4)), ← Nat.mul_assoc] at h1
    have h2 := Nat.eq_of_mul_eq_mul_right (Nat.two_pow_pos _) h1
    rw [show (q - r - (q' - r')).toNat = k by omega, show (q' - r' - (q - r)).toNat = 0 by omega, h2]; omega
  · obtain ⟨k, hk⟩ := Nat.le.dest w
    rw [← hk, Nat.pow_add 2 (a1 + a2) k, Nat.mul_comm (2 ^ (a1 + a2)), ← Nat.mul_assoc] at h1
    have h2 := Nat.eq_of_mul_eq_mul_right (Nat.two_pow_pos _) h1
    rw [show (q - r - (q' - r')).toNat = 0 by omega, show (q' - r' - (q - r)).toNat = k by omega, ← h2]; omega
end OwnDy
section
open Jvm.FP Jvm.FP.Core Jvm.Free.Fl
theorem own_ac (a b A B : Int) : a * A * (b * B) = a * B * (b * A) := by ac_rfl
theorem own_cross {a K W B D L : Int} (h : a * K ≤ L * D) (hW : 0 ≤ W) (hB : 0 ≤ B) : a * B * (K * W) ≤ L * W * (D * B) := by
  have e1 : a * B * (K * W) = a * K * (B * W) := by ac_rfl
  have e2 : L * W * (D * B) = L * D * (B * W) := by ac_rfl
  rw [e1, e2]
  exact Int.mul_le_mul_of_nonneg_right h (Int.mul_nonneg hB hW)
theorem own_l2d {v : Int64} (h : v.toInt.natAbs ≤ 2 ^ 53) : Dy v.toInt 1074 (FP.l2d v) := dy_int (l2d_int h)
theorem own_c125 : Dy 5 1072 4608308318706860032 := ⟨⟨_, _, _, (by decide +kernel : val64 4608308318706860032 = .fin false 5629499534213120 (-52))⟩, by decide +kernel⟩
theorem own_c025 : Dy 1 1072 4598175219545276416 := ⟨⟨_, _, _, (by decide +kernel : val64 4598175219545276416 = .fin false 4503599627370496 (-54))⟩, by decide +kernel⟩
theorem own_pw2 : pw 2 = 4 := rfl
theorem own_big : pw 53 = 9007199254740992 := by decide +kernel
theorem own_p53 : (2 : Nat) ^ 53 = 9007199254740992 := by decide +kernel
theorem own_below : Dy 9007199254740991 1021 4607182418800017407 := ⟨⟨_, _, _, (by decide +kernel : val64 4607182418800017407 = .fin false 9007199254740991 (-53))⟩, by decide +kernel⟩
theorem own_fs {m p g : Int64} (hm : 0 < m.toInt) (hp : m.toInt ≤ p.toInt) (hg : m.toInt ≤ g.toInt) (hp2 : p.toInt < 2147483648) (hg2 : g.toInt < 2147483648) : NoNaN64 (FP.dmul 4608308318706860032 (FP.l2d m)) ∧ NoNaN64 (FP.dmul 4598175219545276416 (FP.l2d g)) ∧ NoNaN64 (FP.dadd (FP.dmul 4598175219545276416 (FP.l2d g)) (FP.l2d p)) ∧ NoNaN64 (FP.ddiv (FP.dmul 4608308318706860032 (FP.l2d m)) (FP.dadd (FP.dmul 4598175219545276416 (FP.l2d g)) (FP.l2d p))) ∧ NoNaN64 (FP.ddiv (FP.l2d (5 * m)) (FP.l2d (g + 4 * p))) ∧ cmpValue (FP.dcmp (FP.ddiv (FP.dmul 4608308318706860032 (FP.l2d m)) (FP.dadd (FP.dmul 4598175219545276416 (FP.l2d g)) (FP.l2d p))) (FP.ddiv (FP.l2d (5 * m)) (FP.l2d (g + 4 * p)))) .l = 0 ∧ cmpValue (FP.dcmp (FP.ddiv (FP.dmul 4608308318706860032 (FP.l2d m)) (FP.dadd (FP.dmul 4598175219545276416 (FP.l2d g)) (FP.l2d p))) 0) .l = 1 ∧ ∃ z : Int32, cmpValue (FP.dcmp (FP.ddiv (FP.dmul 4608308318706860032 (FP.l2d m)) (FP.dadd (FP.dmul 4598175219545276416 (FP.l2d g)) (FP.l2d p))) 4607182418800017408) .l = z ∧ cmpValue (FP.dcmp (FP.ddiv (FP.dmul 4608308318706860032 (FP.l2d m)) (FP.dadd (FP.dmul 4598175219545276416 (FP.l2d g)) (FP.l2d p))) 4607182418800017408) .g = z ∧ (z = 0 ∨ z = -1) ∧ (z = 0 ↔ p = m ∧ g = m) := by
  have e5 : (5 * m).toInt = 5 * m.toInt := by
    have h1 := c_lmul 5 m; have h2 := rng64 (5 * m); have h3 : (5 : Int64).toInt = 5 := rfl
    rw [h3] at h1; omega
  have e4 : (4 * p).toInt = 4 * p.toInt := by
    have h1 := c_lmul 4 p; have h2 := rng64 (4 * p); have h3 : (4 : Int64).toInt = 4 := rfl
    rw [h3] at h1; omega
  have eg : (g + 4 * p).toInt = g.toInt + 4 * p.toInt := by
    have h1 := c_ladd g (4 * p); have h2 := rng64 (g + 4 * p)
    omega
  have b := own_p53
  have dm : Dy m.toInt 1074 (FP.l2d m) := own_l2d (by omega)
  have dg : Dy g.toInt 1074 (FP.l2d g) := own_l2d (by omega)
  have dp : Dy p.toInt 1074 (FP.l2d p) := own_l2d (by omega)
  have d5 : Dy (5 * m).toInt 1074 (FP.l2d (5 * m)) := own_l2d (by omega)
  have dd : Dy (g + 4 * p).toInt 1074 (FP.l2d (g + 4 * p)) := own_l2d (by omega)
  have x1 : Dy (5 * m.toInt) 1072 (FP.dmul 4608308318706860032 (FP.l2d m)) := dy_mul own_c125 dm (by decide) (by omega) (by decide)
  have x2 : Dy (1 * g.toInt) 1072 (FP.dmul 4598175219545276416 (FP.l2d g)) := dy_mul own_c025 dg (by decide) (by omega) (by decide)
  have x3 : Dy (p.toInt * pw 2) 1072 (FP.l2d p) := dy_shift 2 dp
  have x4 : Dy (1 * g.toInt + p.toInt * pw 2) 1072 (FP.dadd (FP.dmul 4598175219545276416 (FP.l2d g)) (FP.l2d p)) := dy_add x2 x3 (by rw [own_pw2]; omega) (by decide)
  rw [own_pw2] at x4
  have hu := pw_pos 1072
  have hu2 := pw_pos 1074
  have px : 0 < dv (FP.dmul 4608308318706860032 (FP.l2d m)) := by rw [x1.2]; exact Int.mul_pos (by omega) hu
  have py : 0 < dv (FP.dadd (FP.dmul 4598175219545276416 (FP.l2d g)) (FP.l2d p)) := by rw [x4.2]; exact Int.mul_pos (by omega) hu
  have px' : 0 < dv (FP.l2d (5 * m)) := by rw [d5.2]; exact Int.mul_pos (by omega) hu2
  have py' : 0 < dv (FP.l2d (g + 4 * p)) := by rw [dd.2]; exact Int.mul_pos (by omega) hu2
  have eqq : (FP.ddiv (FP.dmul 4608308318706860032 (FP.l2d m)) (FP.dadd (FP.dmul 4598175219545276416 (FP.l2d g)) (FP.l2d p))) = (FP.ddiv (FP.l2d (5 * m)) (FP.l2d (g + 4 * p))) := div_congr x1.1 x4.1 d5.1 dd.1 px py px' py' (by
    rw [x1.2, x4.2, d5.2, dd.2, e5, eg, show 1 * g.toInt + p.toInt * 4 = g.toInt + 4 * p.toInt by omega]; exact own_ac _ _ _ _)
  have s1 : ∀ s c q, val64 (FP.l2d (5 * m)) = .fin s c q → s = false := fun s c q hv => by
    obtain ⟨c', q', hv'⟩ := l2d_shape (5 * m)
    have := hv.symm.trans hv'; injection this with h3; rw [h3]; exact decide_eq_false (by omega)
  have s2 : ∀ s c q, val64 (FP.l2d (g + 4 * p)) = .fin s c q → s = false := fun s c q hv => by
    obtain ⟨c', q', hv'⟩ := l2d_shape (g + 4 * p)
    have := hv.symm.trans hv'; injection this with h3; rw [h3]; exact decide_eq_false (by omega)
  have nR : FP.dIsNaN (FP.ddiv (FP.l2d (5 * m)) (FP.l2d (g + 4 * p))) = false := ddiv_out d5.1.notNaN dd.1 (fun z => by rw [dv_zero_iff dd.1] at z; omega)
  obtain ⟨⟨sO, cO, qO, vO⟩, wO⟩ := one_dv
  have fO := val64_fits 4607182418800017408
  have zO : zval b64 (val64 4607182418800017408) = oneU := wO
  have z1 : zval b64 (val64 1) = 1 := by decide +kernel
  have le1 : dv (FP.ddiv (FP.l2d (5 * m)) (FP.l2d (g + 4 * p))) ≤ oneU := by
    rw [← zO]
    refine div_le d5.1 dd.1 (Int.le_of_lt px') py' fO (by rw [vO]; simp) ?_
    rw [zO, d5.2, dd.2, oneU_pw, Int.mul_comm (pw 1074)]
    exact Int.mul_le_mul_of_nonneg_right (Int.mul_le_mul_of_nonneg_right (by omega) (by omega)) (by omega)
  have ge1 : 1 ≤ dv (FP.ddiv (FP.l2d (5 * m)) (FP.l2d (g + 4 * p))) := by
    have h1 := div_ge d5.1 dd.1 (Int.le_of_lt px') py' s1 s2 (val64_fits 1) (by
      rw [z1, Int.one_mul, d5.2, dd.2]
      refine Int.mul_le_mul_of_nonneg_right ?_ (by omega)
      have h2 : 4294967296 ≤ pw 1074 := own_one64
      have h3 := Int.mul_le_mul_of_nonneg_right (show (5 : Int) ≤ (5 * m).toInt by omega) (show 0 ≤ pw 1074 by omega)
      omega)
    rw [z1] at h1; exact h1
  have fR : DFin (FP.ddiv (FP.l2d (5 * m)) (FP.l2d (g + 4 * p))) := by
    rw [vO] at fO zO
    refine fin_of_bound nR fO ?_
    rw [zO]; omega
  have hO := own_one64
  refine ⟨dy_noNaN x1, dy_noNaN x2, dy_noNaN x4, by rw [eqq]; exact noNaN_of_fin fR, noNaN_of_fin fR, by rw [eqq]; exact cmpV_eq fR fR rfl _, by rw [eqq]; exact cmpV_gt fR zero_dv.1 (by rw [zero_dv.2]; omega) _, ?_⟩
  rw [eqq]
  by_cases he : p = m ∧ g = m
  · refine ⟨0, ?_, ?_, Or.inl rfl, ⟨fun _ => he, fun _ => rfl⟩⟩
    all_goals
      refine cmpV_eq fR one_dv.1 ?_ _
      rw [one_dv.2]
      have h1 := div_ge d5.1 dd.1 (Int.le_of_lt px') py' s1 s2 (val64_fits 4607182418800017408) (by
        rw [zO, d5.2, dd.2, oneU_pw, Int.mul_comm (pw 1074), e5, eg, he.1, he.2]
        exact Int.mul_le_mul_of_nonneg_right (Int.mul_le_mul_of_nonneg_right (by omega) (by omega)) (by omega))
      rw [zO] at h1; omega
  · have hlt : 5 * m.toInt < g.toInt + 4 * p.toInt := by
      rcases Int.lt_or_le (5 * m.toInt) (g.toInt + 4 * p.toInt) with w | w
      · exact w
      · exact absurd ⟨Int64.toInt_inj.mp (by omega), Int64.toInt_inj.mp (by omega)⟩ he
    have hb : dv (FP.ddiv (FP.l2d (5 * m)) (FP.l2d (g + 4 * p))) ≤ 9007199254740991 * pw 1021 := by
      have zB : zval b64 (val64 4607182418800017407) = 9007199254740991 * pw 1021 := own_below.2
      rw [← zB]
      refine div_le d5.1 dd.1 (Int.le_of_lt px') py' (val64_fits _) own_below.1.ne_nan ?_
      rw [zB, d5.2, dd.2, e5, eg]
      have hs : oneU = 9007199254740992 * pw 1021 := by rw [oneU_pw, show (1074 : Nat) = 53 + 1021 from rfl, ← pw_mul, own_big]
      have hw := pw_pos 1021
      rw [hs]
      exact own_cross (by omega) (by omega) (by omega)
    have hs : oneU = 9007199254740992 * pw 1021 := by rw [oneU_pw, show (1074 : Nat) = 53 + 1021 from rfl, ← pw_mul, own_big]
    have hw := pw_pos 1021
    exact ⟨-1, cmpV_lt fR one_dv.1 (by rw [one_dv.2]; omega) _, cmpV_lt fR one_dv.1 (by rw [one_dv.2]; omega) _, Or.inr rfl, ⟨fun q => absurd q (by decide), fun q => absurd q he⟩⟩
end
theorem own_mask {x p : Int64} (h : p = x &&& 2147483647) : 0 ≤ p.toInt ∧ p.toInt < 2147483648 := by
  have := c_maskL x 2147483647 31 (by decide) (by decide)
  rw [← h] at this
  omega
theorem own_mask3 (x : Int64) : 0 ≤ (x &&& 3).toInt ∧ (x &&& 3).toInt < 2147483648 := by
  have := c_maskL x 3 2 (by decide) (by decide)
  omega
theorem own_ite {C : Prop} [Decidable C] {x a b : Int64} (h : x = if C then a else b) (P : Int64 → Prop) (ha : P a) (hb : P b) : P x := by
  rw [h]; split
  · exact ha
  · exact hb
theorem own_rem {x mn r : Int64} (hx : 0 ≤ x.toInt) (hm : 0 ≤ mn.toInt) (hm2 : mn.toInt < 2147483648) (h : r = x - (x / (mn + 1)) * (mn + 1)) : 0 ≤ r.toInt ∧ r.toInt ≤ mn.toInt := by
  have e1 : (mn + 1).toInt = mn.toInt + 1 := by
    have h1 := c_ladd mn 1; have h2 := rng64 (mn + 1); have h3 : (1 : Int64).toInt = 1 := rfl
    omega
  rw [lrem_mod] at h
  rw [h, Int64.toInt_mod, Int.tmod_eq_emod_of_nonneg hx, e1]
  have h1 := Int.emod_nonneg x.toInt (show mn.toInt + 1 ≠ 0 by omega)
  have h2 := Int.emod_lt_of_pos x.toInt (show 0 < mn.toInt + 1 by omega)
  omega
theorem own_nz {mn : Int64} (hm : 0 ≤ mn.toInt) (hm2 : mn.toInt < 2147483648) : mn + 1 ≠ 0 := fun q => by
  have h1 := c_ladd mn 1; have h3 : (1 : Int64).toInt = 1 := rfl
  rw [q, show (0 : Int64).toInt = 0 from rfl] at h1
  omega
theorem own_min (a b : Int64) : ∃ r : Int64, ((0 < lcmpW a b ∧ r = b) ∨ (¬ 0 < lcmpW a b ∧ r = a)) ∧ r.toInt ≤ a.toInt ∧ r.toInt ≤ b.toInt ∧ (r = a ∨ r = b) := by
  by_cases h : 0 < lcmpW a b
  · have q := (lw_gt a b).mp h
    rw [Int64.lt_iff_toInt_lt] at q
    exact ⟨b, Or.inl ⟨h, rfl⟩, by omega, by omega, Or.inr rfl⟩
  · have q : ¬ b < a := fun q => h ((lw_gt a b).mpr q)
    rw [Int64.lt_iff_toInt_lt] at q
    exact ⟨a, Or.inr ⟨h, rfl⟩, by omega, by omega, Or.inl rfl⟩
theorem own_z64 : (0 : Int64).toInt = 0 := rfl
set_option maxRecDepth 65536 in
set_option maxHeartbeats 40000000 in
theorem rm1 (l : Launch) (Z : State) (a0 : Array Value) (hw : ∀ d ∈ tables_1, d.before a0 Z = true) (ws : List Jvm.Cond) (n0 : Nat) (a b r : Int64) (h0 : Heap) (hn0 : n0 ≤ h0.size) (hr : (0 < lcmpW a b ∧ r = b) ∨ (¬ 0 < lcmpW a b ∧ r = a)) :
    Con l Z n0 (⟨"java/lang/Math", "min", "(JJ)J"⟩ : MethodName) jdk_29_method_70_code 4 (some .long) ws ({ frames := 0, cells := 0, slots := 0, locals := 0 } : Room) #[(.long a), (.long b)] h0 (fun v h => v = some (.long r) ∧ h = h0) := by
  refine con_start (Jvm.Free.JP.mathPlain rfl (by decide +kernel)) (fr0 := fun m => mkF m 0 #[.val (.long a), .second, .val (.long b), .second] []) (fun m => by first | (simp [entryFrame, mkF, argsToLocals, Value.category]; done) | rfl) ?_
  intro p e s m below meth c T0 hx hZ hby hml hown hnm hret hlk X0
  replace hown : s.vm.findClass "java/lang/Math" = some m.cls := hown
  replace hml : c.maxLocals = 4 := hml
  rcases hr with ⟨hc, er⟩ | ⟨hc, er⟩
  · skip
    refine g_lloadN X0 hx (pc' := 1) rfl (hb hby d1_0) rfl ?_
    refine g_lloadN X0 hx (pc' := 2) rfl (hb hby d1_1) rfl ?_
    refine g_lcmp X0 hx (pc' := 3) rfl (hb hby d1_2) ?_
    refine g_ifY X0 hx (pcY := 10) (hb hby d1_3) (by decide) (by decide) (show 0 < (lcmpW a b) from hc) ?_
    refine g_lloadN X0 hx (pc' := 11) rfl (hb hby d1_10) rfl ?_
    exact g_retL X0 hx hlk hret (hb hby d1_11) (by decide) (by decide) (⟨by rw [er], rfl⟩)
  · skip
    refine g_lloadN X0 hx (pc' := 1) rfl (hb hby d1_0) rfl ?_
    refine g_lloadN X0 hx (pc' := 2) rfl (hb hby d1_1) rfl ?_
    refine g_lcmp X0 hx (pc' := 3) rfl (hb hby d1_2) ?_
    refine g_ifN X0 hx (pcN := 6) (hb hby d1_3) rfl (show ¬ (0 < (lcmpW a b)) from hc) ?_
    refine g_lloadN X0 hx (pc' := 7) rfl (hb hby d1_6) rfl ?_
    refine g_goto X0 hx (pc' := 11) (hb hby d1_7) (by decide) (by decide) ?_
    exact g_retL X0 hx hlk hret (hb hby d1_11) (by decide) (by decide) (⟨by rw [er], rfl⟩)
set_option maxRecDepth 65536 in
set_option maxHeartbeats 40000000 in
theorem rm2 (l : Launch) (Z : State) (a0 : Array Value) (hw : ∀ d ∈ tables_1, d.before a0 Z = true) (ws : List Jvm.Cond) (n0 : Nat) (m' p' g' : Int64) (r : UInt64) (h0 : Heap) (hn0 : n0 ≤ h0.size) (hr : (0 < m' ∧ (Jvm.Free.Fl.NoNaN64 (FP.dmul 4608308318706860032 (FP.l2d m')) ∧ Jvm.Free.Fl.NoNaN64 (FP.dmul 4598175219545276416 (FP.l2d g')) ∧ Jvm.Free.Fl.NoNaN64 (FP.dadd (FP.dmul 4598175219545276416 (FP.l2d g')) (FP.l2d p')) ∧ Jvm.Free.Fl.NoNaN64 (FP.ddiv (FP.dmul 4608308318706860032 (FP.l2d m')) (FP.dadd (FP.dmul 4598175219545276416 (FP.l2d g')) (FP.l2d p'))) ∧ Jvm.Free.Fl.NoNaN64 (FP.ddiv (FP.l2d (5 * m')) (FP.l2d (g' + 4 * p'))) ∧ cmpValue (FP.dcmp (FP.ddiv (FP.dmul 4608308318706860032 (FP.l2d m')) (FP.dadd (FP.dmul 4598175219545276416 (FP.l2d g')) (FP.l2d p'))) (FP.ddiv (FP.l2d (5 * m')) (FP.l2d (g' + 4 * p')))) .l = 0 ∧ cmpValue (FP.dcmp (FP.ddiv (FP.dmul 4608308318706860032 (FP.l2d m')) (FP.dadd (FP.dmul 4598175219545276416 (FP.l2d g')) (FP.l2d p'))) 0) .l = 1 ∧ ∃ z : Int32, cmpValue (FP.dcmp (FP.ddiv (FP.dmul 4608308318706860032 (FP.l2d m')) (FP.dadd (FP.dmul 4598175219545276416 (FP.l2d g')) (FP.l2d p'))) 4607182418800017408) .l = z ∧ cmpValue (FP.dcmp (FP.ddiv (FP.dmul 4608308318706860032 (FP.l2d m')) (FP.dadd (FP.dmul 4598175219545276416 (FP.l2d g')) (FP.l2d p'))) 4607182418800017408) .g = z ∧ (z = 0 ∨ z = -1) ∧ (z = 0 ↔ p' = m' ∧ g' = m')) ∧ r = (FP.ddiv (FP.dmul 4608308318706860032 (FP.l2d m')) (FP.dadd (FP.dmul 4598175219545276416 (FP.l2d g')) (FP.l2d p')))) ∨ (¬ 0 < m' ∧ p' = 0 ∧ g' = 0 ∧ r = 4607182418800017408) ∨ (¬ 0 < m' ∧ ¬ p' = 0 ∧ r = 0) ∨ (¬ 0 < m' ∧ p' = 0 ∧ ¬ g' = 0 ∧ r = 0)) :
    Con l Z n0 (⟨"com/example/cold_grader/coldgrader/scores/M2Score", "fScore", "(JJJ)D"⟩ : MethodName) prog_114_method_4_code 8 (some .double) ws ({ frames := 0, cells := 0, slots := 0, locals := 0 } : Room) #[(.long m'), (.long p'), (.long g')] h0 (fun v h => v = some (.double r) ∧ h = h0) := by
  refine con_start (plainFor_of_name (by first | (simp [plainName, overriddenIn]; done) | decide +kernel)) (fr0 := fun m => mkF m 0 #[.val (.long m'), .second, .val (.long p'), .second, .val (.long g'), .second, .unset, .unset] []) (fun m => by first | (simp [entryFrame, mkF, argsToLocals, Value.category]; done) | rfl) ?_
  intro p e s m below meth c T0 hx hZ hby hml hown hnm hret hlk X0
  replace hown : s.vm.findClass "com/example/cold_grader/coldgrader/scores/M2Score" = some m.cls := hown
  replace hml : c.maxLocals = 8 := hml
  rcases hr with ⟨hm, hf, rfl⟩ | ⟨hm, hp, hg, rfl⟩ | ⟨hm, hp, rfl⟩ | ⟨hm, hp, hg, rfl⟩
  · skip
    refine g_lloadN X0 hx (pc' := 1) rfl (hb hby d2_0) rfl ?_
    refine g_lconst X0 hx (pc' := 2) (z := (0 : Int64)) rfl (hb hby d2_1) rfl ?_
    refine g_lcmp X0 hx (pc' := 3) rfl (hb hby d2_2) ?_
    refine g_ifN X0 hx (pcN := 6) (hb hby d2_3) rfl (show ¬ (¬ 0 < (lcmpW m' (0 : Int64))) from not_not_intro ((lw_gt _ _).mpr hm)) ?_
    refine g_ldc2D X0 hx hZ hown (hw _ (List.mem_of_getElem? (i := 9) rfl)) (pc' := 9) (v := (4608308318706860032 : UInt64)) rfl (hb hby d2_6) ?_
    refine g_lloadN X0 hx (pc' := 10) rfl (hb hby d2_9) rfl ?_
    refine g_l2d X0 hx (pc' := 11) rfl (hb hby d2_10) ?_
    refine g_dmul X0 hx (pc' := 12) (z := (FP.dmul (4608308318706860032 : UInt64) (FP.l2d m'))) rfl (hb hby d2_11) hf.1 rfl ?_
    refine g_ldc2D X0 hx hZ hown (hw _ (List.mem_of_getElem? (i := 10) rfl)) (pc' := 15) (v := (4598175219545276416 : UInt64)) rfl (hb hby d2_12) ?_
    refine g_lload X0 hx (pc' := 17) rfl (hb hby d2_15) rfl ?_
    refine g_l2d X0 hx (pc' := 18) rfl (hb hby d2_17) ?_
    refine g_dmul X0 hx (pc' := 19) (z := (FP.dmul (4598175219545276416 : UInt64) (FP.l2d g'))) rfl (hb hby d2_18) hf.2.1 rfl ?_
    refine g_lloadN X0 hx (pc' := 20) rfl (hb hby d2_19) rfl ?_
    refine g_l2d X0 hx (pc' := 21) rfl (hb hby d2_20) ?_
    refine g_dadd X0 hx (pc' := 22) (z := (FP.dadd (FP.dmul (4598175219545276416 : UInt64) (FP.l2d g')) (FP.l2d p'))) rfl (hb hby d2_21) hf.2.2.1 rfl ?_
    refine g_ddiv X0 hx (pc' := 23) (z := (FP.ddiv (FP.dmul (4608308318706860032 : UInt64) (FP.l2d m')) (FP.dadd (FP.dmul (4598175219545276416 : UInt64) (FP.l2d g')) (FP.l2d p')))) rfl (hb hby d2_22) hf.2.2.2.1 rfl ?_
    refine g_dstore X0 hx (pc' := 25) rfl (hb hby d2_23) (l' := #[.val (.long m'), .second, .val (.long p'), .second, .val (.long g'), .second, .val (.double (FP.ddiv (FP.dmul (4608308318706860032 : UInt64) (FP.l2d m')) (FP.dadd (FP.dmul (4598175219545276416 : UInt64) (FP.l2d g')) (FP.l2d p')))), .second]) rfl ?_
    refine g_goto X0 hx (pc' := 50) (hb hby d2_25) (by decide) (by decide) ?_
    refine g_dload X0 hx (pc' := 52) rfl (hb hby d2_50) rfl ?_
    exact g_retD X0 hx hlk hret (hb hby d2_52) (by decide) (by decide) (⟨rfl, rfl⟩)
  · skip
    refine g_lloadN X0 hx (pc' := 1) rfl (hb hby d2_0) rfl ?_
    refine g_lconst X0 hx (pc' := 2) (z := (0 : Int64)) rfl (hb hby d2_1) rfl ?_
    refine g_lcmp X0 hx (pc' := 3) rfl (hb hby d2_2) ?_
    refine g_ifY X0 hx (pcY := 28) (hb hby d2_3) (by decide) (by decide) (show ¬ 0 < (lcmpW m' (0 : Int64)) from fun q => hm ((lw_gt _ _).mp q)) ?_
    refine g_lloadN X0 hx (pc' := 29) rfl (hb hby d2_28) rfl ?_
    refine g_lconst X0 hx (pc' := 30) (z := (0 : Int64)) rfl (hb hby d2_29) rfl ?_
    refine g_lcmp X0 hx (pc' := 31) rfl (hb hby d2_30) ?_
    refine g_ifN X0 hx (pcN := 34) (hb hby d2_31) rfl (show ¬ (¬ (lcmpW p' (0 : Int64)) = 0) from not_not_intro ((lw_eq _ _).mpr hp)) ?_
    refine g_lload X0 hx (pc' := 36) rfl (hb hby d2_34) rfl ?_
    refine g_lconst X0 hx (pc' := 37) (z := (0 : Int64)) rfl (hb hby d2_36) rfl ?_
    refine g_lcmp X0 hx (pc' := 38) rfl (hb hby d2_37) ?_
    refine g_ifN X0 hx (pcN := 41) (hb hby d2_38) rfl (show ¬ (¬ (lcmpW g' (0 : Int64)) = 0) from not_not_intro ((lw_eq _ _).mpr hg)) ?_
    refine g_dconst1 X0 hx (pc' := 42) rfl (hb hby d2_41) ?_
    refine g_dstore X0 hx (pc' := 44) rfl (hb hby d2_42) (l' := #[.val (.long m'), .second, .val (.long p'), .second, .val (.long g'), .second, .val (.double (4607182418800017408 : UInt64)), .second]) rfl ?_
    refine g_goto X0 hx (pc' := 50) (hb hby d2_44) (by decide) (by decide) ?_
    refine g_dload X0 hx (pc' := 52) rfl (hb hby d2_50) rfl ?_
    exact g_retD X0 hx hlk hret (hb hby d2_52) (by decide) (by decide) (⟨rfl, rfl⟩)
  · skip
    refine g_lloadN X0 hx (pc' := 1) rfl (hb hby d2_0) rfl ?_
    refine g_lconst X0 hx (pc' := 2) (z := (0 : Int64)) rfl (hb hby d2_1) rfl ?_
    refine g_lcmp X0 hx (pc' := 3) rfl (hb hby d2_2) ?_
    refine g_ifY X0 hx (pcY := 28) (hb hby d2_3) (by decide) (by decide) (show ¬ 0 < (lcmpW m' (0 : Int64)) from fun q => hm ((lw_gt _ _).mp q)) ?_
    refine g_lloadN X0 hx (pc' := 29) rfl (hb hby d2_28) rfl ?_
    refine g_lconst X0 hx (pc' := 30) (z := (0 : Int64)) rfl (hb hby d2_29) rfl ?_
    refine g_lcmp X0 hx (pc' := 31) rfl (hb hby d2_30) ?_
    refine g_ifY X0 hx (pcY := 47) (hb hby d2_31) (by decide) (by decide) (show ¬ (lcmpW p' (0 : Int64)) = 0 from fun q => hp ((lw_eq _ _).mp q)) ?_
    refine g_dconst0 X0 hx (pc' := 48) rfl (hb hby d2_47) ?_
    refine g_dstore X0 hx (pc' := 50) rfl (hb hby d2_48) (l' := #[.val (.long m'), .second, .val (.long p'), .second, .val (.long g'), .second, .val (.double (0 : UInt64)), .second]) rfl ?_
    refine g_dload X0 hx (pc' := 52) rfl (hb hby d2_50) rfl ?_
    exact g_retD X0 hx hlk hret (hb hby d2_52) (by decide) (by decide) (⟨rfl, rfl⟩)
  · skip
    refine g_lloadN X0 hx (pc' := 1) rfl (hb hby d2_0) rfl ?_
    refine g_lconst X0 hx (pc' := 2) (z := (0 : Int64)) rfl (hb hby d2_1) rfl ?_
    refine g_lcmp X0 hx (pc' := 3) rfl (hb hby d2_2) ?_
    refine g_ifY X0 hx (pcY := 28) (hb hby d2_3) (by decide) (by decide) (show ¬ 0 < (lcmpW m' (0 : Int64)) from fun q => hm ((lw_gt _ _).mp q)) ?_
    refine g_lloadN X0 hx (pc' := 29) rfl (hb hby d2_28) rfl ?_
    refine g_lconst X0 hx (pc' := 30) (z := (0 : Int64)) rfl (hb hby d2_29) rfl ?_
    refine g_lcmp X0 hx (pc' := 31) rfl (hb hby d2_30) ?_
    refine g_ifN X0 hx (pcN := 34) (hb hby d2_31) rfl (show ¬ (¬ (lcmpW p' (0 : Int64)) = 0) from not_not_intro ((lw_eq _ _).mpr hp)) ?_
    refine g_lload X0 hx (pc' := 36) rfl (hb hby d2_34) rfl ?_
    refine g_lconst X0 hx (pc' := 37) (z := (0 : Int64)) rfl (hb hby d2_36) rfl ?_
    refine g_lcmp X0 hx (pc' := 38) rfl (hb hby d2_37) ?_
    refine g_ifY X0 hx (pcY := 47) (hb hby d2_38) (by decide) (by decide) (show ¬ (lcmpW g' (0 : Int64)) = 0 from fun q => hg ((lw_eq _ _).mp q)) ?_
    refine g_dconst0 X0 hx (pc' := 48) rfl (hb hby d2_47) ?_
    refine g_dstore X0 hx (pc' := 50) rfl (hb hby d2_48) (l' := #[.val (.long m'), .second, .val (.long p'), .second, .val (.long g'), .second, .val (.double (0 : UInt64)), .second]) rfl ?_
    refine g_dload X0 hx (pc' := 52) rfl (hb hby d2_50) rfl ?_
    exact g_retD X0 hx hlk hret (hb hby d2_52) (by decide) (by decide) (⟨rfl, rfl⟩)
set_option maxRecDepth 65536 in
set_option maxHeartbeats 40000000 in
theorem rm0 (l : Launch) (Z : State) (a0 : Array Value) (hw : ∀ d ∈ tables_1, d.before a0 Z = true) (ws : List Jvm.Cond) (n0 : Nat) (x0 x1 x2 : Int64) (x3 : Int32) (h0 : Heap) (hn0 : n0 ≤ h0.size)  :
    Con l Z n0 x code maxLocals ret ws room_1 #[(.long x0), (.long x1), (.long x2), (.int x3)] h0 (fun v h => v = some (.int 1)) := by
  refine con_start (plainFor_of_name (by first | (simp [plainName, overriddenIn]; done) | decide +kernel)) (fr0 := fun m => mkF m 0 #[.val (.long x0), .second, .val (.long x1), .second, .val (.long x2), .second, .val (.int x3), .unset, .unset, .unset, .unset, .unset, .unset, .unset, .unset, .unset, .unset, .unset, .unset, .unset] []) (fun m => by first | (simp [entryFrame, mkF, argsToLocals, Value.category, maxLocals]; done) | rfl) ?_
  intro p e s m below meth c T0 hx hZ hby hml hown hnm hret hlk X0
  replace hown : s.vm.findClass "com/example/cold_grader/coldgrader/scores/M2ScoreFScorePinLaw" = some m.cls := hown
  replace hml : c.maxLocals = 20 := hml
  refine g_lloadN X0 hx (pc' := 1) rfl (hb hby at_0) rfl ?_
  refine g_ldc2L X0 hx hZ hown (hw _ (List.mem_of_getElem? (i := 0) rfl)) (pc' := 4) (v := (2147483647 : Int64)) rfl (hb hby at_1) ?_
  refine g_land X0 hx (pc' := 5) rfl (hb hby at_4) ?_
  refine g_absL (fun p0 h_p0 => ?_)
  refine g_lstore X0 hx (pc' := 7) rfl (hb hby at_5) (l' := #[.val (.long x0), .second, .val (.long x1), .second, .val (.long x2), .second, .val (.int x3), .val (.long p0), .second, .unset, .unset, .unset, .unset, .unset, .unset, .unset, .unset, .unset, .unset, .unset]) rfl ?_
  refine g_lloadN X0 hx (pc' := 8) rfl (hb hby at_7) rfl ?_
  refine g_ldc2L X0 hx hZ hown (hw _ (List.mem_of_getElem? (i := 0) rfl)) (pc' := 11) (v := (2147483647 : Int64)) rfl (hb hby at_8) ?_
  refine g_land X0 hx (pc' := 12) rfl (hb hby at_11) ?_
  refine g_absL (fun g0 h_g0 => ?_)
  refine g_lstore X0 hx (pc' := 14) rfl (hb hby at_12) (l' := #[.val (.long x0), .second, .val (.long x1), .second, .val (.long x2), .second, .val (.int x3), .val (.long p0), .second, .val (.long g0), .second, .unset, .unset, .unset, .unset, .unset, .unset, .unset, .unset, .unset]) rfl ?_
  refine g_iload X0 hx (pc' := 16) rfl (hb hby at_14) rfl ?_
  refine g_iconst X0 hx (pc' := 17) (z := (1 : Int32)) rfl (hb hby at_16) rfl ?_
  refine g_iand X0 hx (pc' := 18) rfl (hb hby at_17) ?_
  suffices J18 : ∀ (p1 : Int64) (g1 : Int64), (p1 = (if (x3 &&& (1 : Int32)) = 0 then p0 else (p0 &&& (3 : Int64)))) → (g1 = (if (x3 &&& (1 : Int32)) = 0 then g0 else (g0 &&& (3 : Int64)))) → Go p e below s n0 (fun v h => v = some (.int 1)) room_1.cells room_1.slots (T0.setTop (mkF m 37 #[.val (.long x0), .second, .val (.long x1), .second, .val (.long x2), .second, .val (.int x3), .val (.long p1), .second, .val (.long g1), .second, .unset, .unset, .unset, .unset, .unset, .unset, .unset, .unset, .unset] [])) by
    refine g_if X0 hx (pcY := 37) (pcN := 21) (hb hby at_18) (by decide) (by decide) rfl (fun hc18 => ?_) (fun hc18 => ?_)
    · replace hc18 : (x3 &&& (1 : Int32)) = 0 := hc18
      exact J18 _ _ (by rw [if_pos hc18]) (by rw [if_pos hc18])
    · replace hc18 : ¬ (x3 &&& (1 : Int32)) = 0 := hc18
      refine g_lload X0 hx (pc' := 23) rfl (hb hby at_21) rfl ?_
      refine g_ldc2L X0 hx hZ hown (hw _ (List.mem_of_getElem? (i := 13) rfl)) (pc' := 26) (v := (3 : Int64)) rfl (hb hby at_23) ?_
      refine g_land X0 hx (pc' := 27) rfl (hb hby at_26) ?_
      refine g_lstore X0 hx (pc' := 29) rfl (hb hby at_27) (l' := #[.val (.long x0), .second, .val (.long x1), .second, .val (.long x2), .second, .val (.int x3), .val (.long (p0 &&& (3 : Int64))), .second, .val (.long g0), .second, .unset, .unset, .unset, .unset, .unset, .unset, .unset, .unset, .unset]) rfl ?_
      refine g_lload X0 hx (pc' := 31) rfl (hb hby at_29) rfl ?_
      refine g_ldc2L X0 hx hZ hown (hw _ (List.mem_of_getElem? (i := 13) rfl)) (pc' := 34) (v := (3 : Int64)) rfl (hb hby at_31) ?_
      refine g_land X0 hx (pc' := 35) rfl (hb hby at_34) ?_
      refine g_lstore X0 hx (pc' := 37) rfl (hb hby at_35) (l' := #[.val (.long x0), .second, .val (.long x1), .second, .val (.long x2), .second, .val (.int x3), .val (.long (p0 &&& (3 : Int64))), .second, .val (.long (g0 &&& (3 : Int64))), .second, .unset, .unset, .unset, .unset, .unset, .unset, .unset, .unset, .unset]) rfl ?_
      exact J18 _ _ (by rw [if_neg hc18]) (by rw [if_neg hc18])
  intro p1 g1 h_p1 h_g1
  refine g_iload X0 hx (pc' := 39) rfl (hb hby at_37) rfl ?_
  refine g_bipush X0 hx (pc' := 41) (z := (8 : Int32)) rfl (hb hby at_39) rfl ?_
  refine g_iand X0 hx (pc' := 42) rfl (hb hby at_41) ?_
  suffices J42 : ∀ (g2 : Int64), (g2 = (if (x3 &&& (8 : Int32)) = 0 then g1 else p1)) → Go p e below s n0 (fun v h => v = some (.int 1)) room_1.cells room_1.slots (T0.setTop (mkF m 49 #[.val (.long x0), .second, .val (.long x1), .second, .val (.long x2), .second, .val (.int x3), .val (.long p1), .second, .val (.long g2), .second, .unset, .unset, .unset, .unset, .unset, .unset, .unset, .unset, .unset] [])) by
    refine g_if X0 hx (pcY := 49) (pcN := 45) (hb hby at_42) (by decide) (by decide) rfl (fun hc42 => ?_) (fun hc42 => ?_)
    · replace hc42 : (x3 &&& (8 : Int32)) = 0 := hc42
      exact J42 _ (by rw [if_pos hc42])
    · replace hc42 : ¬ (x3 &&& (8 : Int32)) = 0 := hc42
      refine g_lload X0 hx (pc' := 47) rfl (hb hby at_45) rfl ?_
      refine g_lstore X0 hx (pc' := 49) rfl (hb hby at_47) (l' := #[.val (.long x0), .second, .val (.long x1), .second, .val (.long x2), .second, .val (.int x3), .val (.long p1), .second, .val (.long p1), .second, .unset, .unset, .unset, .unset, .unset, .unset, .unset, .unset, .unset]) rfl ?_
      exact J42 _ (by rw [if_neg hc42])
  intro g2 h_g2
  have bp0 := own_mask h_p0
  have bg0 := own_mask h_g0
  have bp1 : 0 ≤ p1.toInt ∧ p1.toInt < 2147483648 := own_ite h_p1 (fun z => 0 ≤ z.toInt ∧ z.toInt < 2147483648) bp0 (own_mask3 _)
  have bg1 : 0 ≤ g1.toInt ∧ g1.toInt < 2147483648 := own_ite h_g1 (fun z => 0 ≤ z.toInt ∧ z.toInt < 2147483648) bg0 (own_mask3 _)
  have bg2 : 0 ≤ g2.toInt ∧ g2.toInt < 2147483648 := own_ite h_g2 (fun z => 0 ≤ z.toInt ∧ z.toInt < 2147483648) bg1 bp1
  refine g_lload X0 hx (pc' := 51) rfl (hb hby at_49) rfl ?_
  refine g_lload X0 hx (pc' := 53) rfl (hb hby at_51) rfl ?_
  obtain ⟨mn, hmn, mn1, mn2, mn3⟩ := own_min p1 g2
  have bmn : 0 ≤ mn.toInt ∧ mn.toInt < 2147483648 := by rcases mn3 with q | q <;> rw [q] <;> omega
  refine g_callS X0 hx hZ hown (hw _ (List.mem_of_getElem? (i := 1) rfl)) (hw _ (List.mem_of_getElem? (i := 2) rfl)) (hw _ (List.mem_of_getElem? (i := 3) rfl)) (hw _ (List.mem_of_getElem? (i := 4) rfl)) (by decide) (rm1 l Z a0 hw [] n0 p1 g2 mn h0 hn0 hmn) pd_0 rfl rfl (by rw [hml]; rfl) (pc' := 56) rfl (hb hby at_53) (argsL := [(.long p1), (.long g2)]) (rest := []) rfl (W := 0) (Nat.le_of_eq rfl) (by decide) (by decide) (by decide) (by decide) (fun v1 T1 h1 X1 hQ1 => ?_)
  obtain ⟨rfl, he1⟩ := hQ1
  rw [he1] at X1
  show Go p e below s n0 _ _ _ (T1.setTop (mkF m 56 #[.val (.long x0), .second, .val (.long x1), .second, .val (.long x2), .second, .val (.int x3), .val (.long p1), .second, .val (.long g2), .second, .unset, .unset, .unset, .unset, .unset, .unset, .unset, .unset, .unset] [(.long mn)]))
  refine g_lstore X1 hx (pc' := 58) rfl (hb hby at_56) (l' := #[.val (.long x0), .second, .val (.long x1), .second, .val (.long x2), .second, .val (.int x3), .val (.long p1), .second, .val (.long g2), .second, .val (.long mn), .second, .unset, .unset, .unset, .unset, .unset, .unset, .unset]) rfl ?_
  refine g_lload X1 hx (pc' := 60) rfl (hb hby at_58) rfl ?_
  refine g_ldc2L X1 hx hZ hown (hw _ (List.mem_of_getElem? (i := 0) rfl)) (pc' := 63) (v := (2147483647 : Int64)) rfl (hb hby at_60) ?_
  refine g_land X1 hx (pc' := 64) rfl (hb hby at_63) ?_
  refine g_lload X1 hx (pc' := 66) rfl (hb hby at_64) rfl ?_
  refine g_lconst X1 hx (pc' := 67) (z := (1 : Int64)) rfl (hb hby at_66) rfl ?_
  refine g_ladd X1 hx (pc' := 68) rfl (hb hby at_67) ?_
  refine g_lrem X1 hx (pc' := 69) rfl (hb hby at_68) (own_nz bmn.1 bmn.2) ?_
  refine g_absL (fun m0 h_m0 => ?_)
  refine g_lstore X1 hx (pc' := 71) rfl (hb hby at_69) (l' := #[.val (.long x0), .second, .val (.long x1), .second, .val (.long x2), .second, .val (.int x3), .val (.long p1), .second, .val (.long g2), .second, .val (.long mn), .second, .val (.long m0), .second, .unset, .unset, .unset, .unset, .unset]) rfl ?_
  refine g_iload X1 hx (pc' := 73) rfl (hb hby at_71) rfl ?_
  refine g_iconst X1 hx (pc' := 74) (z := (2 : Int32)) rfl (hb hby at_73) rfl ?_
  refine g_iand X1 hx (pc' := 75) rfl (hb hby at_74) ?_
  suffices J75 : ∀ (m1 : Int64), (m1 = (if (x3 &&& (2 : Int32)) = 0 then m0 else (0 : Int64))) → Go p e below s n0 (fun v h => v = some (.int 1)) room_1.cells room_1.slots (T1.setTop (mkF m 81 #[.val (.long x0), .second, .val (.long x1), .second, .val (.long x2), .second, .val (.int x3), .val (.long p1), .second, .val (.long g2), .second, .val (.long mn), .second, .val (.long m1), .second, .unset, .unset, .unset, .unset, .unset] [])) by
    refine g_if X1 hx (pcY := 81) (pcN := 78) (hb hby at_75) (by decide) (by decide) rfl (fun hc75 => ?_) (fun hc75 => ?_)
    · replace hc75 : (x3 &&& (2 : Int32)) = 0 := hc75
      exact J75 _ (by rw [if_pos hc75])
    · replace hc75 : ¬ (x3 &&& (2 : Int32)) = 0 := hc75
      refine g_lconst X1 hx (pc' := 79) (z := (0 : Int64)) rfl (hb hby at_78) rfl ?_
      refine g_lstore X1 hx (pc' := 81) rfl (hb hby at_79) (l' := #[.val (.long x0), .second, .val (.long x1), .second, .val (.long x2), .second, .val (.int x3), .val (.long p1), .second, .val (.long g2), .second, .val (.long mn), .second, .val (.long (0 : Int64)), .second, .unset, .unset, .unset, .unset, .unset]) rfl ?_
      exact J75 _ (by rw [if_neg hc75])
  intro m1 h_m1
  refine g_iload X1 hx (pc' := 83) rfl (hb hby at_81) rfl ?_
  refine g_iconst X1 hx (pc' := 84) (z := (4 : Int32)) rfl (hb hby at_83) rfl ?_
  refine g_iand X1 hx (pc' := 85) rfl (hb hby at_84) ?_
  suffices J85 : ∀ (m2 : Int64), (m2 = (if (x3 &&& (4 : Int32)) = 0 then m1 else mn)) → Go p e below s n0 (fun v h => v = some (.int 1)) room_1.cells room_1.slots (T1.setTop (mkF m 92 #[.val (.long x0), .second, .val (.long x1), .second, .val (.long x2), .second, .val (.int x3), .val (.long p1), .second, .val (.long g2), .second, .val (.long mn), .second, .val (.long m2), .second, .unset, .unset, .unset, .unset, .unset] [])) by
    refine g_if X1 hx (pcY := 92) (pcN := 88) (hb hby at_85) (by decide) (by decide) rfl (fun hc85 => ?_) (fun hc85 => ?_)
    · replace hc85 : (x3 &&& (4 : Int32)) = 0 := hc85
      exact J85 _ (by rw [if_pos hc85])
    · replace hc85 : ¬ (x3 &&& (4 : Int32)) = 0 := hc85
      refine g_lload X1 hx (pc' := 90) rfl (hb hby at_88) rfl ?_
      refine g_lstore X1 hx (pc' := 92) rfl (hb hby at_90) (l' := #[.val (.long x0), .second, .val (.long x1), .second, .val (.long x2), .second, .val (.int x3), .val (.long p1), .second, .val (.long g2), .second, .val (.long mn), .second, .val (.long mn), .second, .unset, .unset, .unset, .unset, .unset]) rfl ?_
      exact J85 _ (by rw [if_neg hc85])
  intro m2 h_m2
  have bm0 := own_rem (own_mask rfl).1 bmn.1 bmn.2 h_m0
  have bm1 : 0 ≤ m1.toInt ∧ m1.toInt ≤ mn.toInt := own_ite h_m1 (fun z => 0 ≤ z.toInt ∧ z.toInt ≤ mn.toInt) bm0 (by rw [own_z64]; omega)
  have bm2 : 0 ≤ m2.toInt ∧ m2.toInt ≤ mn.toInt := own_ite h_m2 (fun z => 0 ≤ z.toInt ∧ z.toInt ≤ mn.toInt) bm1 (by omega)
  rcases (show (0 < m2) ∨ (¬ 0 < m2 ∧ p1 = 0 ∧ g2 = 0) ∨ (¬ 0 < m2 ∧ ¬ p1 = 0) ∨ (¬ 0 < m2 ∧ p1 = 0 ∧ ¬ g2 = 0) from by by_cases q1 : 0 < m2 <;> by_cases q2 : p1 = 0 <;> by_cases q3 : g2 = 0 <;> simp [q1, q2, q3]) with hm | ⟨hm, hp, hg⟩ | ⟨hm, hp⟩ | ⟨hm, hp, hg⟩
  · skip
    have hm' := hm
    rw [Int64.lt_iff_toInt_lt, own_z64] at hm'
    have hf := own_fs hm' (show m2.toInt ≤ p1.toInt by omega) (show m2.toInt ≤ g2.toInt by omega) bp1.2 bg2.2
    obtain ⟨z, z1, z2, z3, z4⟩ := hf.2.2.2.2.2.2.2
    refine g_lload X1 hx (pc' := 94) rfl (hb hby at_92) rfl ?_
    refine g_lload X1 hx (pc' := 96) rfl (hb hby at_94) rfl ?_
    refine g_lload X1 hx (pc' := 98) rfl (hb hby at_96) rfl ?_
    refine g_callS X1 hx hZ hown (hw _ (List.mem_of_getElem? (i := 5) rfl)) (hw _ (List.mem_of_getElem? (i := 6) rfl)) (hw _ (List.mem_of_getElem? (i := 7) rfl)) (hw _ (List.mem_of_getElem? (i := 8) rfl)) (by decide) (rm2 l Z a0 hw [] n0 m2 p1 g2 (FP.ddiv (FP.dmul 4608308318706860032 (FP.l2d m2)) (FP.dadd (FP.dmul 4598175219545276416 (FP.l2d g2)) (FP.l2d p1))) h0 hn0 (Or.inl ⟨hm, hf, rfl⟩)) pd_1 rfl rfl (by rw [hml]; rfl) (pc' := 101) rfl (hb hby at_98) (argsL := [(.long m2), (.long p1), (.long g2)]) (rest := []) rfl (W := 0) (Nat.le_of_eq rfl) (by decide) (by decide) (by decide) (by decide) (fun v2 T2 h2 X2 hQ2 => ?_)
    obtain ⟨rfl, he2⟩ := hQ2
    rw [he2] at X2
    show Go p e below s n0 _ _ _ (T2.setTop (mkF m 101 #[.val (.long x0), .second, .val (.long x1), .second, .val (.long x2), .second, .val (.int x3), .val (.long p1), .second, .val (.long g2), .second, .val (.long mn), .second, .val (.long m2), .second, .unset, .unset, .unset, .unset, .unset] [(.double (FP.ddiv (FP.dmul 4608308318706860032 (FP.l2d m2)) (FP.dadd (FP.dmul 4598175219545276416 (FP.l2d g2)) (FP.l2d p1))))]))
    refine g_dstore X2 hx (pc' := 103) rfl (hb hby at_101) (l' := #[.val (.long x0), .second, .val (.long x1), .second, .val (.long x2), .second, .val (.int x3), .val (.long p1), .second, .val (.long g2), .second, .val (.long mn), .second, .val (.long m2), .second, .val (.double (FP.ddiv (FP.dmul 4608308318706860032 (FP.l2d m2)) (FP.dadd (FP.dmul 4598175219545276416 (FP.l2d g2)) (FP.l2d p1)))), .second, .unset, .unset, .unset]) rfl ?_
    refine g_lload X2 hx (pc' := 105) rfl (hb hby at_103) rfl ?_
    refine g_lconst X2 hx (pc' := 106) (z := (0 : Int64)) rfl (hb hby at_105) rfl ?_
    refine g_lcmp X2 hx (pc' := 107) rfl (hb hby at_106) ?_
    refine g_ifY X2 hx (pcY := 150) (hb hby at_107) (by decide) (by decide) (show ¬ (lcmpW m2 (0 : Int64)) = 0 from fun q => absurd ((lw_eq _ _).mp q) (fun r => by rw [r, own_z64] at hm'; omega)) ?_
    refine g_ldc2L X2 hx hZ hown (hw _ (List.mem_of_getElem? (i := 11) rfl)) (pc' := 153) (v := (5 : Int64)) rfl (hb hby at_150) ?_
    refine g_lload X2 hx (pc' := 155) rfl (hb hby at_153) rfl ?_
    refine g_lmul X2 hx (pc' := 156) rfl (hb hby at_155) ?_
    refine g_l2d X2 hx (pc' := 157) rfl (hb hby at_156) ?_
    refine g_lload X2 hx (pc' := 159) rfl (hb hby at_157) rfl ?_
    refine g_ldc2L X2 hx hZ hown (hw _ (List.mem_of_getElem? (i := 12) rfl)) (pc' := 162) (v := (4 : Int64)) rfl (hb hby at_159) ?_
    refine g_lload X2 hx (pc' := 164) rfl (hb hby at_162) rfl ?_
    refine g_lmul X2 hx (pc' := 165) rfl (hb hby at_164) ?_
    refine g_ladd X2 hx (pc' := 166) rfl (hb hby at_165) ?_
    refine g_l2d X2 hx (pc' := 167) rfl (hb hby at_166) ?_
    refine g_ddiv X2 hx (pc' := 168) (z := (FP.ddiv (FP.l2d ((5 : Int64) * m2)) (FP.l2d (g2 + ((4 : Int64) * p1))))) rfl (hb hby at_167) hf.2.2.2.2.1 rfl ?_
    refine g_dstore X2 hx (pc' := 170) rfl (hb hby at_168) (l' := #[.val (.long x0), .second, .val (.long x1), .second, .val (.long x2), .second, .val (.int x3), .val (.long p1), .second, .val (.long g2), .second, .val (.long mn), .second, .val (.long m2), .second, .val (.double (FP.ddiv (FP.dmul 4608308318706860032 (FP.l2d m2)) (FP.dadd (FP.dmul 4598175219545276416 (FP.l2d g2)) (FP.l2d p1)))), .second, .val (.double (FP.ddiv (FP.l2d ((5 : Int64) * m2)) (FP.l2d (g2 + ((4 : Int64) * p1))))), .second, .unset]) rfl ?_
    refine g_lload X2 hx (pc' := 172) rfl (hb hby at_170) rfl ?_
    refine g_lload X2 hx (pc' := 174) rfl (hb hby at_172) rfl ?_
    refine g_lcmp X2 hx (pc' := 175) rfl (hb hby at_174) ?_
    suffices J175 : ∀ (one : Int32), (one = (if ¬ (lcmpW p1 m2) = 0 then (0 : Int32) else (if ¬ (lcmpW g2 m2) = 0 then (0 : Int32) else (1 : Int32)))) → Go p e below s n0 (fun v h => v = some (.int 1)) room_1.cells room_1.slots (T2.setTop (mkF m 191 #[.val (.long x0), .second, .val (.long x1), .second, .val (.long x2), .second, .val (.int x3), .val (.long p1), .second, .val (.long g2), .second, .val (.long mn), .second, .val (.long m2), .second, .val (.double (FP.ddiv (FP.dmul 4608308318706860032 (FP.l2d m2)) (FP.dadd (FP.dmul 4598175219545276416 (FP.l2d g2)) (FP.l2d p1)))), .second, .val (.double (FP.ddiv (FP.l2d ((5 : Int64) * m2)) (FP.l2d (g2 + ((4 : Int64) * p1))))), .second, .unset] [(.int one)])) by
      refine g_if X2 hx (pcY := 190) (pcN := 178) (hb hby at_175) (by decide) (by decide) rfl (fun hc175 => ?_) (fun hc175 => ?_)
      · replace hc175 : ¬ (lcmpW p1 m2) = 0 := hc175
        refine g_iconst X2 hx (pc' := 191) (z := (0 : Int32)) rfl (hb hby at_190) rfl ?_
        exact J175 _ (by rw [if_pos hc175])
      · replace hc175 : (lcmpW p1 m2) = 0 := Classical.not_not.mp hc175
        refine g_lload X2 hx (pc' := 180) rfl (hb hby at_178) rfl ?_
        refine g_lload X2 hx (pc' := 182) rfl (hb hby at_180) rfl ?_
        refine g_lcmp X2 hx (pc' := 183) rfl (hb hby at_182) ?_
        refine g_if X2 hx (pcY := 190) (pcN := 186) (hb hby at_183) (by decide) (by decide) rfl (fun hc183 => ?_) (fun hc183 => ?_)
        · replace hc183 : ¬ (lcmpW g2 m2) = 0 := hc183
          refine g_iconst X2 hx (pc' := 191) (z := (0 : Int32)) rfl (hb hby at_190) rfl ?_
          exact J175 _ (by rw [if_neg (fun q => q hc175), if_pos hc183])
        · replace hc183 : (lcmpW g2 m2) = 0 := Classical.not_not.mp hc183
          refine g_iconst X2 hx (pc' := 187) (z := (1 : Int32)) rfl (hb hby at_186) rfl ?_
          refine g_goto X2 hx (pc' := 191) (hb hby at_187) (by decide) (by decide) ?_
          exact J175 _ (by rw [if_neg (fun q => q hc175), if_neg (fun q => q hc183)])
    intro one h_one
    refine g_istore X2 hx (pc' := 193) rfl (hb hby at_191) (l' := #[.val (.long x0), .second, .val (.long x1), .second, .val (.long x2), .second, .val (.int x3), .val (.long p1), .second, .val (.long g2), .second, .val (.long mn), .second, .val (.long m2), .second, .val (.double (FP.ddiv (FP.dmul 4608308318706860032 (FP.l2d m2)) (FP.dadd (FP.dmul 4598175219545276416 (FP.l2d g2)) (FP.l2d p1)))), .second, .val (.double (FP.ddiv (FP.l2d ((5 : Int64) * m2)) (FP.l2d (g2 + ((4 : Int64) * p1))))), .second, .val (.int one)]) rfl ?_
    refine g_dload X2 hx (pc' := 195) rfl (hb hby at_193) rfl ?_
    refine g_dload X2 hx (pc' := 197) rfl (hb hby at_195) rfl ?_
    refine g_dcmp X2 hx (pc' := 198) (z := (0 : Int32)) rfl (hb hby at_197) hf.2.2.2.2.2.1 ?_
    refine g_ifN X2 hx (pcN := 201) (hb hby at_198) rfl (show ¬ (¬ (0 : Int32) = 0) from not_not_intro rfl) ?_
    refine g_dload X2 hx (pc' := 203) rfl (hb hby at_201) rfl ?_
    refine g_dconst0 X2 hx (pc' := 204) rfl (hb hby at_203) ?_
    refine g_dcmp X2 hx (pc' := 205) (z := (1 : Int32)) rfl (hb hby at_204) hf.2.2.2.2.2.2.1 ?_
    refine g_ifN X2 hx (pcN := 208) (hb hby at_205) rfl (show ¬ (¬ 0 < (1 : Int32)) from by decide) ?_
    refine g_dload X2 hx (pc' := 210) rfl (hb hby at_208) rfl ?_
    refine g_dconst1 X2 hx (pc' := 211) rfl (hb hby at_210) ?_
    refine g_dcmp X2 hx (pc' := 212) (z := z) rfl (hb hby at_211) z2 ?_
    refine g_ifN X2 hx (pcN := 215) (hb hby at_212) rfl (show ¬ (0 < z) from by rcases z3 with q | q <;> rw [q] <;> decide) ?_
    refine g_dload X2 hx (pc' := 217) rfl (hb hby at_215) rfl ?_
    refine g_dconst1 X2 hx (pc' := 218) rfl (hb hby at_217) ?_
    refine g_dcmp X2 hx (pc' := 219) (z := z) rfl (hb hby at_218) z1 ?_
    suffices J219 : ∀ (eqo : Int32), (eqo = (if ¬ z = 0 then (0 : Int32) else (1 : Int32))) → Go p e below s n0 (fun v h => v = some (.int 1)) room_1.cells room_1.slots (T2.setTop (mkF m 227 #[.val (.long x0), .second, .val (.long x1), .second, .val (.long x2), .second, .val (.int x3), .val (.long p1), .second, .val (.long g2), .second, .val (.long mn), .second, .val (.long m2), .second, .val (.double (FP.ddiv (FP.dmul 4608308318706860032 (FP.l2d m2)) (FP.dadd (FP.dmul 4598175219545276416 (FP.l2d g2)) (FP.l2d p1)))), .second, .val (.double (FP.ddiv (FP.l2d ((5 : Int64) * m2)) (FP.l2d (g2 + ((4 : Int64) * p1))))), .second, .val (.int one)] [(.int eqo)])) by
      refine g_if X2 hx (pcY := 226) (pcN := 222) (hb hby at_219) (by decide) (by decide) rfl (fun hc219 => ?_) (fun hc219 => ?_)
      · replace hc219 : ¬ z = 0 := hc219
        refine g_iconst X2 hx (pc' := 227) (z := (0 : Int32)) rfl (hb hby at_226) rfl ?_
        exact J219 _ (by rw [if_pos hc219])
      · replace hc219 : z = 0 := Classical.not_not.mp hc219
        refine g_iconst X2 hx (pc' := 223) (z := (1 : Int32)) rfl (hb hby at_222) rfl ?_
        refine g_goto X2 hx (pc' := 227) (hb hby at_223) (by decide) (by decide) ?_
        exact J219 _ (by rw [if_neg (fun q => q hc219)])
    intro eqo h_eqo
    refine g_iload X2 hx (pc' := 229) rfl (hb hby at_227) rfl ?_
    refine g_icmpN X2 hx (pcN := 232) (hb hby at_229) rfl (show ¬ (¬ eqo = one) from not_not_intro (by rw [h_eqo, h_one]; simp only [lw_eq]; by_cases e : z = 0 <;> by_cases e1 : p1 = m2 <;> by_cases e2 : g2 = m2 <;> simp_all)) ?_
    refine g_iconst X2 hx (pc' := 233) (z := (1 : Int32)) rfl (hb hby at_232) rfl ?_
    refine g_goto X2 hx (pc' := 237) (hb hby at_233) (by decide) (by decide) ?_
    exact g_retZ X2 hx hlk hret (by first | exact Or.inl rfl | exact Or.inr rfl) (hb hby at_237) (by decide) (by decide) (rfl)
  · skip
    have hz : m2 = 0 := Int64.toInt_inj.mp (by rw [Int64.lt_iff_toInt_lt, own_z64] at hm; rw [own_z64]; omega)
    refine g_lload X1 hx (pc' := 94) rfl (hb hby at_92) rfl ?_
    refine g_lload X1 hx (pc' := 96) rfl (hb hby at_94) rfl ?_
    refine g_lload X1 hx (pc' := 98) rfl (hb hby at_96) rfl ?_
    refine g_callS X1 hx hZ hown (hw _ (List.mem_of_getElem? (i := 5) rfl)) (hw _ (List.mem_of_getElem? (i := 6) rfl)) (hw _ (List.mem_of_getElem? (i := 7) rfl)) (hw _ (List.mem_of_getElem? (i := 8) rfl)) (by decide) (rm2 l Z a0 hw [] n0 m2 p1 g2 (4607182418800017408 : UInt64) h0 hn0 (Or.inr (Or.inl ⟨hm, hp, hg, rfl⟩))) pd_1 rfl rfl (by rw [hml]; rfl) (pc' := 101) rfl (hb hby at_98) (argsL := [(.long m2), (.long p1), (.long g2)]) (rest := []) rfl (W := 0) (Nat.le_of_eq rfl) (by decide) (by decide) (by decide) (by decide) (fun v3 T3 h3 X3 hQ3 => ?_)
    obtain ⟨rfl, he3⟩ := hQ3
    rw [he3] at X3
    show Go p e below s n0 _ _ _ (T3.setTop (mkF m 101 #[.val (.long x0), .second, .val (.long x1), .second, .val (.long x2), .second, .val (.int x3), .val (.long p1), .second, .val (.long g2), .second, .val (.long mn), .second, .val (.long m2), .second, .unset, .unset, .unset, .unset, .unset] [(.double (4607182418800017408 : UInt64))]))
    refine g_dstore X3 hx (pc' := 103) rfl (hb hby at_101) (l' := #[.val (.long x0), .second, .val (.long x1), .second, .val (.long x2), .second, .val (.int x3), .val (.long p1), .second, .val (.long g2), .second, .val (.long mn), .second, .val (.long m2), .second, .val (.double (4607182418800017408 : UInt64)), .second, .unset, .unset, .unset]) rfl ?_
    refine g_lload X3 hx (pc' := 105) rfl (hb hby at_103) rfl ?_
    refine g_lconst X3 hx (pc' := 106) (z := (0 : Int64)) rfl (hb hby at_105) rfl ?_
    refine g_lcmp X3 hx (pc' := 107) rfl (hb hby at_106) ?_
    refine g_ifN X3 hx (pcN := 110) (hb hby at_107) rfl (show ¬ (¬ (lcmpW m2 (0 : Int64)) = 0) from not_not_intro ((lw_eq _ _).mpr hz)) ?_
    refine g_lload X3 hx (pc' := 112) rfl (hb hby at_110) rfl ?_
    refine g_lconst X3 hx (pc' := 113) (z := (0 : Int64)) rfl (hb hby at_112) rfl ?_
    refine g_lcmp X3 hx (pc' := 114) rfl (hb hby at_113) ?_
    refine g_ifN X3 hx (pcN := 117) (hb hby at_114) rfl (show ¬ (¬ (lcmpW p1 (0 : Int64)) = 0) from not_not_intro ((lw_eq _ _).mpr hp)) ?_
    refine g_lload X3 hx (pc' := 119) rfl (hb hby at_117) rfl ?_
    refine g_lconst X3 hx (pc' := 120) (z := (0 : Int64)) rfl (hb hby at_119) rfl ?_
    refine g_lcmp X3 hx (pc' := 121) rfl (hb hby at_120) ?_
    refine g_ifN X3 hx (pcN := 124) (hb hby at_121) rfl (show ¬ (¬ (lcmpW g2 (0 : Int64)) = 0) from not_not_intro ((lw_eq _ _).mpr hg)) ?_
    refine g_dload X3 hx (pc' := 126) rfl (hb hby at_124) rfl ?_
    refine g_dconst1 X3 hx (pc' := 127) rfl (hb hby at_126) ?_
    refine g_dcmp X3 hx (pc' := 128) (z := (0 : Int32)) rfl (hb hby at_127) (by decide +kernel) ?_
    refine g_ifN X3 hx (pcN := 131) (hb hby at_128) rfl (show ¬ (¬ (0 : Int32) = 0) from not_not_intro rfl) ?_
    refine g_iconst X3 hx (pc' := 132) (z := (1 : Int32)) rfl (hb hby at_131) rfl ?_
    refine g_goto X3 hx (pc' := 136) (hb hby at_132) (by decide) (by decide) ?_
    exact g_retZ X3 hx hlk hret (by first | exact Or.inl rfl | exact Or.inr rfl) (hb hby at_136) (by decide) (by decide) (rfl)
  · skip
    have hz : m2 = 0 := Int64.toInt_inj.mp (by rw [Int64.lt_iff_toInt_lt, own_z64] at hm; rw [own_z64]; omega)
    refine g_lload X1 hx (pc' := 94) rfl (hb hby at_92) rfl ?_
    refine g_lload X1 hx (pc' := 96) rfl (hb hby at_94) rfl ?_
    refine g_lload X1 hx (pc' := 98) rfl (hb hby at_96) rfl ?_
    refine g_callS X1 hx hZ hown (hw _ (List.mem_of_getElem? (i := 5) rfl)) (hw _ (List.mem_of_getElem? (i := 6) rfl)) (hw _ (List.mem_of_getElem? (i := 7) rfl)) (hw _ (List.mem_of_getElem? (i := 8) rfl)) (by decide) (rm2 l Z a0 hw [] n0 m2 p1 g2 (0 : UInt64) h0 hn0 (Or.inr (Or.inr (Or.inl ⟨hm, hp, rfl⟩)))) pd_1 rfl rfl (by rw [hml]; rfl) (pc' := 101) rfl (hb hby at_98) (argsL := [(.long m2), (.long p1), (.long g2)]) (rest := []) rfl (W := 0) (Nat.le_of_eq rfl) (by decide) (by decide) (by decide) (by decide) (fun v4 T4 h4 X4 hQ4 => ?_)
    obtain ⟨rfl, he4⟩ := hQ4
    rw [he4] at X4
    show Go p e below s n0 _ _ _ (T4.setTop (mkF m 101 #[.val (.long x0), .second, .val (.long x1), .second, .val (.long x2), .second, .val (.int x3), .val (.long p1), .second, .val (.long g2), .second, .val (.long mn), .second, .val (.long m2), .second, .unset, .unset, .unset, .unset, .unset] [(.double (0 : UInt64))]))
    refine g_dstore X4 hx (pc' := 103) rfl (hb hby at_101) (l' := #[.val (.long x0), .second, .val (.long x1), .second, .val (.long x2), .second, .val (.int x3), .val (.long p1), .second, .val (.long g2), .second, .val (.long mn), .second, .val (.long m2), .second, .val (.double (0 : UInt64)), .second, .unset, .unset, .unset]) rfl ?_
    refine g_lload X4 hx (pc' := 105) rfl (hb hby at_103) rfl ?_
    refine g_lconst X4 hx (pc' := 106) (z := (0 : Int64)) rfl (hb hby at_105) rfl ?_
    refine g_lcmp X4 hx (pc' := 107) rfl (hb hby at_106) ?_
    refine g_ifN X4 hx (pcN := 110) (hb hby at_107) rfl (show ¬ (¬ (lcmpW m2 (0 : Int64)) = 0) from not_not_intro ((lw_eq _ _).mpr hz)) ?_
    refine g_lload X4 hx (pc' := 112) rfl (hb hby at_110) rfl ?_
    refine g_lconst X4 hx (pc' := 113) (z := (0 : Int64)) rfl (hb hby at_112) rfl ?_
    refine g_lcmp X4 hx (pc' := 114) rfl (hb hby at_113) ?_
    refine g_ifY X4 hx (pcY := 137) (hb hby at_114) (by decide) (by decide) (show ¬ (lcmpW p1 (0 : Int64)) = 0 from fun q => hp ((lw_eq _ _).mp q)) ?_
    refine g_dload X4 hx (pc' := 139) rfl (hb hby at_137) rfl ?_
    refine g_dconst0 X4 hx (pc' := 140) rfl (hb hby at_139) ?_
    refine g_dcmp X4 hx (pc' := 141) (z := (0 : Int32)) rfl (hb hby at_140) (by decide +kernel) ?_
    refine g_ifN X4 hx (pcN := 144) (hb hby at_141) rfl (show ¬ (¬ (0 : Int32) = 0) from not_not_intro rfl) ?_
    refine g_iconst X4 hx (pc' := 145) (z := (1 : Int32)) rfl (hb hby at_144) rfl ?_
    refine g_goto X4 hx (pc' := 149) (hb hby at_145) (by decide) (by decide) ?_
    exact g_retZ X4 hx hlk hret (by first | exact Or.inl rfl | exact Or.inr rfl) (hb hby at_149) (by decide) (by decide) (rfl)
  · skip
    have hz : m2 = 0 := Int64.toInt_inj.mp (by rw [Int64.lt_iff_toInt_lt, own_z64] at hm; rw [own_z64]; omega)
    refine g_lload X1 hx (pc' := 94) rfl (hb hby at_92) rfl ?_
    refine g_lload X1 hx (pc' := 96) rfl (hb hby at_94) rfl ?_
    refine g_lload X1 hx (pc' := 98) rfl (hb hby at_96) rfl ?_
    refine g_callS X1 hx hZ hown (hw _ (List.mem_of_getElem? (i := 5) rfl)) (hw _ (List.mem_of_getElem? (i := 6) rfl)) (hw _ (List.mem_of_getElem? (i := 7) rfl)) (hw _ (List.mem_of_getElem? (i := 8) rfl)) (by decide) (rm2 l Z a0 hw [] n0 m2 p1 g2 (0 : UInt64) h0 hn0 (Or.inr (Or.inr (Or.inr ⟨hm, hp, hg, rfl⟩)))) pd_1 rfl rfl (by rw [hml]; rfl) (pc' := 101) rfl (hb hby at_98) (argsL := [(.long m2), (.long p1), (.long g2)]) (rest := []) rfl (W := 0) (Nat.le_of_eq rfl) (by decide) (by decide) (by decide) (by decide) (fun v5 T5 h5 X5 hQ5 => ?_)
    obtain ⟨rfl, he5⟩ := hQ5
    rw [he5] at X5
    show Go p e below s n0 _ _ _ (T5.setTop (mkF m 101 #[.val (.long x0), .second, .val (.long x1), .second, .val (.long x2), .second, .val (.int x3), .val (.long p1), .second, .val (.long g2), .second, .val (.long mn), .second, .val (.long m2), .second, .unset, .unset, .unset, .unset, .unset] [(.double (0 : UInt64))]))
    refine g_dstore X5 hx (pc' := 103) rfl (hb hby at_101) (l' := #[.val (.long x0), .second, .val (.long x1), .second, .val (.long x2), .second, .val (.int x3), .val (.long p1), .second, .val (.long g2), .second, .val (.long mn), .second, .val (.long m2), .second, .val (.double (0 : UInt64)), .second, .unset, .unset, .unset]) rfl ?_
    refine g_lload X5 hx (pc' := 105) rfl (hb hby at_103) rfl ?_
    refine g_lconst X5 hx (pc' := 106) (z := (0 : Int64)) rfl (hb hby at_105) rfl ?_
    refine g_lcmp X5 hx (pc' := 107) rfl (hb hby at_106) ?_
    refine g_ifN X5 hx (pcN := 110) (hb hby at_107) rfl (show ¬ (¬ (lcmpW m2 (0 : Int64)) = 0) from not_not_intro ((lw_eq _ _).mpr hz)) ?_
    refine g_lload X5 hx (pc' := 112) rfl (hb hby at_110) rfl ?_
    refine g_lconst X5 hx (pc' := 113) (z := (0 : Int64)) rfl (hb hby at_112) rfl ?_
    refine g_lcmp X5 hx (pc' := 114) rfl (hb hby at_113) ?_
    refine g_ifN X5 hx (pcN := 117) (hb hby at_114) rfl (show ¬ (¬ (lcmpW p1 (0 : Int64)) = 0) from not_not_intro ((lw_eq _ _).mpr hp)) ?_
    refine g_lload X5 hx (pc' := 119) rfl (hb hby at_117) rfl ?_
    refine g_lconst X5 hx (pc' := 120) (z := (0 : Int64)) rfl (hb hby at_119) rfl ?_
    refine g_lcmp X5 hx (pc' := 121) rfl (hb hby at_120) ?_
    refine g_ifY X5 hx (pcY := 137) (hb hby at_121) (by decide) (by decide) (show ¬ (lcmpW g2 (0 : Int64)) = 0 from fun q => hg ((lw_eq _ _).mp q)) ?_
    refine g_dload X5 hx (pc' := 139) rfl (hb hby at_137) rfl ?_
    refine g_dconst0 X5 hx (pc' := 140) rfl (hb hby at_139) ?_
    refine g_dcmp X5 hx (pc' := 141) (z := (0 : Int32)) rfl (hb hby at_140) (by decide +kernel) ?_
    refine g_ifN X5 hx (pcN := 144) (hb hby at_141) rfl (show ¬ (¬ (0 : Int32) = 0) from not_not_intro rfl) ?_
    refine g_iconst X5 hx (pc' := 145) (z := (1 : Int32)) rfl (hb hby at_144) rfl ?_
    refine g_goto X5 hx (pc' := 149) (hb hby at_145) (by decide) (by decide) ?_
    exact g_retZ X5 hx hlk hret (by first | exact Or.inl rfl | exact Or.inr rfl) (hb hby at_149) (by decide) (by decide) (rfl)
set_option maxRecDepth 65536 in
set_option maxHeartbeats 40000000 in
theorem comes_1 {Post : Tables → Env → Array Value → State → Outcome → State → Prop} (hpost : ∀ tb e args s v u, (limb_1_1.after args s (.returned v) u = true ∧ limb_1_2.after args s (.returned v) u = true ∧ True) → FrameEnd s (.returned v) u (Jvm.fieldLocs frame_1_writes args s ++ Jvm.arrayLocs frame_1_arrays args s ++ Jvm.staticLocs frame_1_statics s) 0 0 → Post tb e args s (.returned v) u) :
    ArmFor flags0 classFile x code maxLocals ret World_1 tables_1 room_1 Calls_1 rest_1 Pre_1 Post := by
  intro l hfl _ _ p e ha hc hk s m args below hf hA hF happ hP
  obtain ⟨hcalls, hrest, hpre⟩ := hP
  obtain ⟨-, -, -, hnamed, -, -, -, hat⟩ := (Spec.applies_iff hf).mp happ
  obtain ⟨hg, hn⟩ := and_e (Cond.before_iff.mp (show (Jvm.Cond.and given_1 narrow_1).before args s = true from hpre))
  obtain ⟨hcount, hg0⟩ := and_e hg
  obtain ⟨ha0, hg1⟩ := and_e hg0
  obtain ⟨ha1, hg2⟩ := and_e hg1
  obtain ⟨ha2, hg3⟩ := and_e hg2
  have ha3 := hg3
  obtain ⟨w0, w1, w2, w3, rfl⟩ : ∃ w0 w1 w2 w3 : Value, args = #[w0, w1, w2, w3] := by
    have hs : args.size = 4 := by simpa [Cond.value, given_1] using hcount
    obtain ⟨L⟩ := args
    match L, hs with
    | [w0, w1, w2, w3], _ => exact ⟨w0, w1, w2, w3, rfl⟩
  have hw := fun d (hd : d ∈ tables_1) => atoms_spec (ws := Jvm.Cond.code x code maxLocals ret :: tables_1) hat d (List.mem_cons_of_mem _ hd)
  obtain ⟨i0, ei0⟩ := isL_v ha0
  obtain rfl : w0 = (.long i0) := Option.some.inj ei0
  obtain ⟨i1, ei1⟩ := isL_v ha1
  obtain rfl : w1 = (.long i1) := Option.some.inj ei1
  obtain ⟨i2, ei2⟩ := isL_v ha2
  obtain rfl : w2 = (.long i2) := Option.some.inj ei2
  obtain ⟨i3, ei3⟩ := is_v ha3
  obtain rfl : w3 = (.int i3) := Option.some.inj ei3
  obtain ⟨n, o, h1, h2, h3, _, L, rfl, ⟨N, rfl⟩, hq⟩ := rm0 l s _ hw tables_1 s.heap.size i0 i1 i2 i3 s.heap (Nat.le_refl _)  p e ha hc hk s m _ below hf ((Spec.applies_iff_loose hf).mp happ).1 ⟨rfl, State.Warmed39.refl s, rfl⟩ trivial
  refine ⟨n, _, h1, h2, h3, hpost _ _ _ _ _ _ ⟨Cond.after_iff.mpr rfl, Cond.after_iff.mpr (eq_i res_at (Term.int_eval (1)) rfl), trivial⟩ ⟨hq.1, hq.2.1, (hq.2.2.sift fun y hy => Or.inr (N y hy)).mono (by decide) (by decide)⟩⟩
theorem main_1_1 : Claimed_1_1 := comes_1 fun _ _ _ _ _ _ h hF => ⟨h.1, hF⟩
theorem main_1_2 : Claimed_1_2 := comes_1 fun _ _ _ _ _ _ h hF => ⟨h.2.1, hF⟩
end Jvm.Pilot.@@N@@
-- WITNESS
namespace Jvm.Pilot.@@N@@
open Jvm Jvm.ClassFile Sem Op Lib Jvm.Free Jvm.Stand Jvm.Pilot.@@N@@.Jvm.D
/-! MADE BY PROGRAM (witnessworld.py) out of the Statement's table words and the real class files: 12 classes; the members and pool entries that the words name. The judged class is class 1, her method 1. -/
namespace start1
open Jvm.ClassFile
def u (s : String) : CpInfo := .utf8 (stringToUtf16 s)
/-- a pool by its gaps: so many unusable entries, then the entry; so many at the end -/
def gap : Nat → List CpInfo → List CpInfo
  | 0, r => r
  | n + 1, r => .unusable :: gap n r
def poolList (es : List (Nat × CpInfo)) (last : Nat) : List CpInfo := es.foldr (fun e r => gap e.1 (e.2 :: r)) (gap last [])
def pool (es : List (Nat × CpInfo)) (last : Nat) : Array CpInfo := ⟨poolList es last⟩
def fileOf (pool : Array CpInfo) (this : Nat) (attrs : Array Attribute := #[]) (ms : Array MethodInfo := #[]) (fl : Nat := 33) (sup : Nat := 0) (ifs : Array Nat := #[]) (fds : Array FieldInfo := #[]) : ClassFile where
  minorVersion := 0
  majorVersion := 65
  constantPool := pool
  accessFlags := fl
  thisClass := this
  superClass := sup
  interfaces := ifs
  fields := fds
  methods := ms
  attributes := attrs
def plain (name : String) (sup : Option ClassId) : Class where
  name := name
  kind := .ordinary
  loader := none
  accessFlags := 33
  super := sup
  interfaces := #[]
  cf := none
  fields := #[]
  methods := #[]
  instanceTypes := #[]
  staticTypes := #[]
  resolved := #[]
  callSites := []
  init := .initialized
  statics := none
  mirror := none

def pool0 : Array CpInfo := pool [(5, u "<init>"), (0, u "()V"), (1, .class_ 10), (1, u "java/lang/Object")] 113

def k0m0 : Method := { name := "<init>", desc := "()V", sig := { parameters := [], returnType := none }, accessFlags := 1, code := none }
/-- java/lang/Object -/
def k0 : Class := { plain "java/lang/Object" none with
  accessFlags := 33
  interfaces := #[]
  cf := some (fileOf pool0 8 #[] #[{ accessFlags := 1, nameIndex := 5, descriptorIndex := 6, attributes := #[] }] 33 0 #[] #[])
  fields := #[]
  methods := #[k0m0]
  instanceTypes := #[]
  staticTypes := #[]
  resolved := Array.replicate 124 none
  statics := none }

def pool1 : Array CpInfo := pool [(2, .class_ 4), (1, u "java/lang/Object"), (0, u "<init>"), (0, u "()V"), (0, .long 2147483647), (1, .long 3), (1, .methodref 12 13), (0, .class_ 14), (0, .nameAndType 15 16), (0, u "java/lang/Math"), (0, u "min"), (0, u "(JJ)J"), (0, .methodref 18 19), (0, .class_ 20), (0, .nameAndType 21 22), (0, u "com/example/cold_grader/coldgrader/scores/M2Score"), (0, u "fScore"), (0, u "(JJJ)D"), (0, .long 5), (1, .long 4), (1, .class_ 28), (0, u "com/example/cold_grader/coldgrader/scores/M2ScoreFScorePinLaw"), (2, u "law"), (0, u "(JJJI)Z")] 3

def k1m0 : Method := { name := "<init>", desc := "()V", sig := { parameters := [], returnType := none }, accessFlags := 1, code := none }
def k1c1 : Code := { maxStack := 8, maxLocals := 20, code := code, exceptionTable := #[], attributes := #[] }
def k1m1 : Method := { name := "law", desc := "(JJJI)Z", sig := { parameters := [.long, .long, .long, .int], returnType := some .boolean }, accessFlags := 9, code := some k1c1 }
/-- com/example/cold_grader/coldgrader/scores/M2ScoreFScorePinLaw -/
def k1 : Class := { plain "com/example/cold_grader/coldgrader/scores/M2ScoreFScorePinLaw" (some 0) with
  accessFlags := 49
  interfaces := #[]
  cf := some (fileOf pool1 27 #[] #[{ accessFlags := 1, nameIndex := 5, descriptorIndex := 6, attributes := #[] }, { accessFlags := 9, nameIndex := 31, descriptorIndex := 32, attributes := #[] }] 49 2 #[] #[])
  fields := #[]
  methods := #[k1m0, k1m1]
  instanceTypes := #[]
  staticTypes := #[]
  resolved := Array.replicate 36 none
  statics := none }

def pool2 : Array CpInfo := pool [(1, .class_ 2), (0, u "java/lang/Math"), (1, .class_ 6), (1, u "java/lang/Object"), (0, u "<init>"), (0, u "()V"), (89, .class_ 100), (1, u "java/lang/Math$RandomNumberGeneratorHolder"), (20, u "(JJ)J"), (50, u "negativeZeroFloatBits"), (0, u "J"), (2, u "negativeZeroDoubleBits"), (24, u "min"), (43, u "$assertionsDisabled"), (0, u "Z"), (91, u "twoToTheDoubleScaleDown"), (0, u "D"), (4, u "twoToTheDoubleScaleUp"), (9, u "E"), (3, u "PI"), (2, u "TAU"), (2, u "DEGREES_TO_RADIANS"), (0, u "RADIANS_TO_DEGREES")] 94

def k2m0 : Method := { name := "<init>", desc := "()V", sig := { parameters := [], returnType := none }, accessFlags := 2, code := none }
def k2c1 : Code := { maxStack := 4, maxLocals := 4, code := jdk_29_method_70_code, exceptionTable := #[], attributes := #[] }
def k2m1 : Method := { name := "min", desc := "(JJ)J", sig := { parameters := [.long, .long], returnType := some .long }, accessFlags := 9, code := some k2c1 }
/-- java/lang/Math -/
def k2 : Class := { plain "java/lang/Math" (some 0) with
  accessFlags := 49
  interfaces := #[]
  cf := some (fileOf pool2 1 #[.nestMembers #[98]] #[{ accessFlags := 2, nameIndex := 7, descriptorIndex := 8, attributes := #[] }, { accessFlags := 9, nameIndex := 201, descriptorIndex := 121, attributes := #[] }] 49 4 #[] #[{ accessFlags := 25, nameIndex := 354, descriptorIndex := 339, attributes := #[] }, { accessFlags := 25, nameIndex := 358, descriptorIndex := 339, attributes := #[] }, { accessFlags := 25, nameIndex := 361, descriptorIndex := 339, attributes := #[] }, { accessFlags := 26, nameIndex := 364, descriptorIndex := 339, attributes := #[] }, { accessFlags := 26, nameIndex := 365, descriptorIndex := 339, attributes := #[] }, { accessFlags := 26, nameIndex := 172, descriptorIndex := 173, attributes := #[] }, { accessFlags := 26, nameIndex := 176, descriptorIndex := 173, attributes := #[] }, { accessFlags := 8, nameIndex := 344, descriptorIndex := 339, attributes := #[] }, { accessFlags := 8, nameIndex := 338, descriptorIndex := 339, attributes := #[] }, { accessFlags := 4120, nameIndex := 245, descriptorIndex := 246, attributes := #[] }])
  fields := #[{ name := "E", type := .double, accessFlags := 25, slot := 0, constantValue := 0 }, { name := "PI", type := .double, accessFlags := 25, slot := 1, constantValue := 0 }, { name := "TAU", type := .double, accessFlags := 25, slot := 2, constantValue := 0 }, { name := "DEGREES_TO_RADIANS", type := .double, accessFlags := 26, slot := 3, constantValue := 0 }, { name := "RADIANS_TO_DEGREES", type := .double, accessFlags := 26, slot := 4, constantValue := 0 }, { name := "negativeZeroFloatBits", type := .long, accessFlags := 26, slot := 5, constantValue := 0 }, { name := "negativeZeroDoubleBits", type := .long, accessFlags := 26, slot := 6, constantValue := 0 }, { name := "twoToTheDoubleScaleUp", type := .double, accessFlags := 8, slot := 7, constantValue := 0 }, { name := "twoToTheDoubleScaleDown", type := .double, accessFlags := 8, slot := 8, constantValue := 0 }, { name := "$assertionsDisabled", type := .boolean, accessFlags := 4120, slot := 9, constantValue := 0 }]
  methods := #[k2m0, k2m1]
  instanceTypes := #[]
  staticTypes := #[.double, .double, .double, .double, .double, .long, .long, .double, .double, .boolean]
  resolved := Array.replicate 460 none
  statics := none }

def pool3 : Array CpInfo := pool [(2, .class_ 4), (1, u "java/lang/Object"), (0, u "<init>"), (0, u "()V"), (0, .class_ 8), (0, u "java/lang/Record")] 13

def k3m0 : Method := { name := "<init>", desc := "()V", sig := { parameters := [], returnType := none }, accessFlags := 4, code := none }
/-- java/lang/Record -/
def k3 : Class := { plain "java/lang/Record" (some 0) with
  accessFlags := 1057
  interfaces := #[]
  cf := some (fileOf pool3 7 #[] #[{ accessFlags := 4, nameIndex := 5, descriptorIndex := 6, attributes := #[] }] 1057 2 #[] #[])
  fields := #[]
  methods := #[k3m0]
  instanceTypes := #[]
  staticTypes := #[]
  resolved := Array.replicate 22 none
  statics := none }

def pool4 : Array CpInfo := pool [(28, .class_ 29), (0, u "com/example/cold_grader/coldgrader/scores/SentenceScore"), (8, .class_ 39), (0, u "java/lang/Object")] 11

/-- com/example/cold_grader/coldgrader/scores/SentenceScore -/
def k4 : Class := { plain "com/example/cold_grader/coldgrader/scores/SentenceScore" (some 0) with
  accessFlags := 1537
  interfaces := #[]
  cf := some (fileOf pool4 28 #[] #[] 1537 38 #[] #[])
  fields := #[]
  methods := #[]
  instanceTypes := #[]
  staticTypes := #[]
  resolved := Array.replicate 51 none
  statics := none }

def pool5 : Array CpInfo := pool [(2, .class_ 4), (1, u "java/lang/Record"), (12, .class_ 19), (1, u "com/example/cold_grader/coldgrader/scores/M2Score"), (0, u "matched"), (0, u "I"), (2, u "proposed"), (2, u "gold"), (2, u "annotator"), (2, u "fScore"), (0, u "(JJJ)D"), (3, .double 4608308318706860032), (1, .double 4598175219545276416), (13, .class_ 55), (0, u "com/example/cold_grader/coldgrader/scores/SentenceScore"), (0, u "BETA_SQUARED"), (0, u "D")] 45

def k5c0 : Code := { maxStack := 6, maxLocals := 8, code := prog_114_method_4_code, exceptionTable := #[], attributes := #[] }
def k5m0 : Method := { name := "fScore", desc := "(JJJ)D", sig := { parameters := [.long, .long, .long], returnType := some .double }, accessFlags := 8, code := some k5c0 }
/-- com/example/cold_grader/coldgrader/scores/M2Score -/
def k5 : Class := { plain "com/example/cold_grader/coldgrader/scores/M2Score" (some 3) with
  accessFlags := 49
  interfaces := #[4]
  cf := some (fileOf pool5 17 #[] #[{ accessFlags := 8, nameIndex := 33, descriptorIndex := 34, attributes := #[] }] 49 2 #[54] #[{ accessFlags := 18, nameIndex := 20, descriptorIndex := 21, attributes := #[] }, { accessFlags := 18, nameIndex := 24, descriptorIndex := 21, attributes := #[] }, { accessFlags := 18, nameIndex := 27, descriptorIndex := 21, attributes := #[] }, { accessFlags := 18, nameIndex := 30, descriptorIndex := 21, attributes := #[] }, { accessFlags := 26, nameIndex := 56, descriptorIndex := 57, attributes := #[] }])
  fields := #[{ name := "matched", type := .int, accessFlags := 18, slot := 0, constantValue := 0 }, { name := "proposed", type := .int, accessFlags := 18, slot := 1, constantValue := 0 }, { name := "gold", type := .int, accessFlags := 18, slot := 2, constantValue := 0 }, { name := "annotator", type := .int, accessFlags := 18, slot := 3, constantValue := 0 }, { name := "BETA_SQUARED", type := .double, accessFlags := 26, slot := 0, constantValue := 0 }]
  methods := #[k5m0]
  instanceTypes := #[.int, .int, .int, .int]
  staticTypes := #[.double]
  resolved := Array.replicate 103 none
  statics := none }

def pool6 : Array CpInfo := pool [(1, u "java/lang/Cloneable"), (0, .class_ 1), (0, u "java/lang/Object"), (0, .class_ 3)] 3

/-- java/lang/Cloneable -/
def k6 : Class := { plain "java/lang/Cloneable" (some 0) with
  accessFlags := 1537
  interfaces := #[]
  cf := some (fileOf pool6 2 #[] #[] 1537 4 #[] #[])
  fields := #[]
  methods := #[]
  instanceTypes := #[]
  staticTypes := #[]
  resolved := Array.replicate 8 none
  statics := none }

def pool7 : Array CpInfo := pool [(1, u "java/io/Serializable"), (0, .class_ 1), (0, u "java/lang/Object"), (0, .class_ 3)] 3

/-- java/io/Serializable -/
def k7 : Class := { plain "java/io/Serializable" (some 0) with
  accessFlags := 1537
  interfaces := #[]
  cf := some (fileOf pool7 2 #[] #[] 1537 4 #[] #[])
  fields := #[]
  methods := #[]
  instanceTypes := #[]
  staticTypes := #[]
  resolved := Array.replicate 8 none
  statics := none }

/-- the primitive byte -/
def k8 : Class := { plain "byte" none with kind := .primitive 'B', accessFlags := 0x411 }
/-- [B -/
def k9 : Class := { plain "[B" (some 0) with kind := .array 8 .byte, interfaces := #[6, 7], accessFlags := 1041 }

/-- the primitive int -/
def k10 : Class := { plain "int" none with kind := .primitive 'I', accessFlags := 0x411 }
/-- [I -/
def k11 : Class := { plain "[I" (some 0) with kind := .array 10 .int, interfaces := #[6, 7], accessFlags := 1041 }

def heap : Heap := #[]
def classes : Array Class := #[k0, k1, k2, k3, k4, k5, k6, k7, k8, k9, k10, k11]
def interned : List (Array UInt16 × Addr) := []
def slotsUsed : Nat := 0
def theMethod : MethodId := ⟨1, 1⟩
def args0 : Array Value := #[.long 5, .long 3, .long 2, .int 7]
def aboutOver (below : List Frame) : State where
  vm := { classes := classes, interned := interned.toArray }
  heap := heap
  slotsUsed := slotsUsed
  threads := #[{ frames := .invoking theMethod args0 :: below }]
def below0 : List Frame := [.native { method := ⟨0, 0⟩, args := #[] }]
def about1 : State := aboutOver below0
def p0 : Program := .bare "" "" ""
def e0 : Env := launch0.env 0 0 0
theorem w_frames : about1.frames = Frame.invoking theMethod args0 :: below0 := rfl
set_option maxRecDepth 65536 in
theorem w_args : argsFit about1.vm theMethod args0 = true := by decide +kernel
set_option maxRecDepth 65536 in
theorem w_heap : heapFits about1 = true := by decide +kernel
set_option maxRecDepth 65536 in
theorem w_runnable : about1.curStatus? = some .runnable := by decide +kernel
set_option maxRecDepth 65536 in
theorem w_alone : about1.alone = true := by decide +kernel
set_option maxRecDepth 65536 in
theorem w_named : about1.methodNamed? x = some theMethod := by decide +kernel
set_option maxRecDepth 65536 in
theorem w_hears : about1.hears theMethod below0 = true := by decide +kernel
set_option maxRecDepth 65536 in
theorem w_ripe : about1.ripe theMethod args0 below0 = true := by decide +kernel
theorem w_running : about1.status = .running := rfl
set_option maxRecDepth 65536 in
theorem w_room : about1.hasRoom e0.platform room_1 = true :=
  launch0.hasRoom_least _ room_1 (by decide +kernel) (by decide +kernel) (by decide +kernel) (by decide +kernel) (by decide +kernel) (by decide +kernel)
theorem allAtoms_all (ts : List Jvm.Cond) (a : Array Jvm.Value) (st : Jvm.State) : (allAtoms ts).before a st = ts.all (fun c => c.before a st) := by
  induction ts with
  | nil => rfl
  | cons c t ih =>
    show (Jvm.Cond.and c (allAtoms t)).before a st = _
    rw [Jvm.Cond.before_and, ih, List.all_cons]
def words1 : List Jvm.Cond := Jvm.Cond.code x code maxLocals ret :: tables_1
/-- a 'code' word, met by the world's own term for the bytes: nothing is compared byte by byte -/
theorem code_word {y : MethodName} {bytes : ByteArray} {mx : Nat} {rt : Option FieldType} {a : Array Value} {s : State} {m : MethodId} {meth : Method} {c : Code} (h1 : s.methodNamed? y = some m) (h2 : s.vm.method? m = some meth) (h3 : meth.code = some c) (h4 : c.code = bytes)
    (h5 : (c.maxLocals == mx && c.exceptionTable.isEmpty && decide (c.maxStack ≤ mostOperands) && decide (meth.sig.returnType = rt) && !meth.locks && decide (parseMethodDescriptor y.desc = some meth.sig)) = true) : (Jvm.Cond.code y bytes mx rt).before a s = true := by
  simp only [Bool.and_eq_true, beq_iff_eq, Bool.not_eq_true', decide_eq_true_eq] at h5
  obtain ⟨⟨⟨⟨⟨g1, g2⟩, g3⟩, g4⟩, g5⟩, g6⟩ := h5
  simp [Cond.before, Cond.holds, Cond.value, h1, h2, h3, h4, g1, g2, g3, g4, g5, g6]
def isCode : Jvm.Cond → Bool
  | .code _ _ _ _ => true
  | _ => false
theorem all_split {L : List Jvm.Cond} {P : Jvm.Cond → Bool} (h1 : L.all (fun c => isCode c || P c) = true) (h2 : ∀ c ∈ L.filter isCode, P c = true) : L.all P = true := by
  refine List.all_eq_true.mpr fun c hc => ?_
  have h := List.all_eq_true.mp h1 c hc
  rcases Bool.eq_false_or_eq_true (isCode c) with hi | hi
  · exact h2 c (List.mem_filter.mpr ⟨hc, hi⟩)
  · simpa [hi] using h
set_option maxRecDepth 65536 in
theorem w_c0 : (Jvm.Cond.code x code maxLocals ret).before args0 about1 = true := code_word (m := ⟨1, 1⟩) (meth := k1m1) (c := k1c1) (by decide +kernel) rfl rfl rfl (by decide +kernel)
set_option maxRecDepth 65536 in
theorem w_c1 : (Jvm.Cond.code ({ cls := "java/lang/Math", name := "min", desc := "(JJ)J" } : Jvm.MethodName) jdk_29_method_70_code (4 : Nat) (Option.some Jvm.ClassFile.FieldType.long)).before args0 about1 = true := code_word (m := ⟨2, 1⟩) (meth := k2m1) (c := k2c1) (by decide +kernel) rfl rfl rfl (by decide +kernel)
set_option maxRecDepth 65536 in
theorem w_c2 : (Jvm.Cond.code ({ cls := "com/example/cold_grader/coldgrader/scores/M2Score", name := "fScore", desc := "(JJJ)D" } : Jvm.MethodName) prog_114_method_4_code (8 : Nat) (Option.some Jvm.ClassFile.FieldType.double)).before args0 about1 = true := code_word (m := ⟨5, 0⟩) (meth := k5m0) (c := k5c0) (by decide +kernel) rfl rfl rfl (by decide +kernel)
def codes1 : List Jvm.Cond := [Jvm.Cond.code x code maxLocals ret, Jvm.Cond.code ({ cls := "java/lang/Math", name := "min", desc := "(JJ)J" } : Jvm.MethodName) jdk_29_method_70_code (4 : Nat) (Option.some Jvm.ClassFile.FieldType.long), Jvm.Cond.code ({ cls := "com/example/cold_grader/coldgrader/scores/M2Score", name := "fScore", desc := "(JJJ)D" } : Jvm.MethodName) prog_114_method_4_code (8 : Nat) (Option.some Jvm.ClassFile.FieldType.double)]
set_option maxRecDepth 65536 in
theorem codes_eq : words1.filter isCode = codes1 := rfl
theorem w_codes : ∀ c ∈ words1.filter isCode, c.before args0 about1 = true := by
  rw [codes_eq]
  intro c hc
  simp only [codes1, List.mem_cons, List.not_mem_nil, or_false] at hc
  rcases hc with rfl | rfl | rfl
  · exact w_c0
  · exact w_c1
  · exact w_c2
set_option maxRecDepth 65536 in
theorem w_t1 : words1.all (fun c => isCode c || c.before args0 about1) = true := by decide +kernel
theorem w_tables : (allAtoms (Jvm.Cond.code x code maxLocals ret :: tables_1)).before args0 about1 = true := by
  rw [allAtoms_all]
  show words1.all (fun c => c.before args0 about1) = true
  refine all_split ?_ w_codes
  rw [w_t1]
set_option maxRecDepth 65536 in
theorem w_case : (Jvm.Cond.and given_1 narrow_1).before args0 about1 = true := by decide +kernel
theorem w_applies : (headSpec (Jvm.Cond.code x code maxLocals ret :: tables_1) room_1).applies x e0.platform about1 = true :=
  (Spec.applies_iff w_frames).mpr ⟨w_running, w_runnable, w_alone, w_named, w_hears, w_ripe, w_room, w_tables⟩
theorem atStart : AtStart classFile x code maxLocals ret World_1 tables_1 room_1 Calls_1 rest_1 Pre_1 launch0 p0 e0 about1 theMethod args0 below0 :=
  ⟨lists_1, trivial, launch0.admits_env _ _ _, launch0.least_env, fairChoices_fair.cas, fairChoices_fair.clock, w_frames, w_args, w_heap, w_applies, trivial, trivial, w_case⟩
end start1
theorem witness_1 : WitnessClaimed_1 := ⟨start1.p0, start1.e0, start1.about1, start1.theMethod, start1.args0, start1.below0, start1.atStart⟩
end Jvm.Pilot.@@N@@
