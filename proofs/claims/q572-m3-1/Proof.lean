import JvmDerived
import JvmDerived.Pilot.@@N@@Statement
import JvmDerived.Pilot.@@N@@Code
set_option linter.unusedVariables false
set_option linter.unusedSimpArgs false
namespace Jvm.Pilot.@@N@@
open Jvm Jvm.ClassFile Sem Op Lib Jvm.Free Jvm.Stand Jvm.LawKit Jvm.RoadKit Bundle Jvm.Pilot.@@N@@.Jvm.D
section OwnKit
open Jvm.FP Jvm.Free.Fl
variable {p : Program} {l : Launch} {e : Env} {R : Room} {s : State} {m : MethodId} {args : Array Value} {below : List Frame} {meth : Method} {c : Code} {T : State} {Z : State} {a0 : Array Value} {h : Heap} {n0 cells slots nc ns pc pc' : Nat} {Ls : Array Slot} {st rest : List Value} {Q : Option Value → Heap → Prop}
/-- a contract: the method returns, what it leaves is Q, and nothing below n0 is written -/
def Con (l : Launch) (Z : State) (n0 : Nat) (y : MethodName) (bytes : ByteArray) (ml : Nat) (ret : Option FieldType) (ws : List Jvm.Cond) (rm : Room) (as : Array Value) (h0 : Heap) (Q : Option Value → Heap → Prop) : Prop :=
  MetFree l y (head1 (Jvm.Cond.code y bytes ml ret :: ws) rm) (fun a U => a = as ∧ Z.Warmed39 U.vm ∧ U.heap = h0) (fun _ _ _ _ _ => True) (fun _ U o U' => ∃ v L, o = .returned v ∧ (Fr n0 L ∧ Q v U'.heap) ∧ FrameEnd U o U' L rm.cells rm.slots)
/-- where a walk stands, the places written kept to themselves -/
def Wk (p : Program) (l : Launch) (e : Env) (R : Room) (s : State) (m : MethodId) (args : Array Value) (below : List Frame) (meth : Method) (c : Code) (n0 : Nat) (T : State) (h : Heap) (cells slots : Nat) : Prop :=
  ∃ locs, Stand p l e R s m args below meth c T locs cells slots ∧ Fr n0 locs ∧ T.heap = h
/-- from t the run ends, and leaves Q -/
def Go (p : Program) (e : Env) (below : List Frame) (s : State) (n0 : Nat) (Q : Option Value → Heap → Prop) (nc ns : Nat) (t : State) : Prop :=
  ∃ s₂ o, Steps p.tables e below t s₂ ∧ s₂.status = .running ∧ Ended s₂ below o ∧ ∃ v L, o = .returned v ∧ (Fr n0 L ∧ Q v s₂.heap) ∧ FrameEnd s o s₂ L nc ns
theorem Wk.here (X : Wk p l e R s m args below meth c n0 T h cells slots) : At T m c below := by obtain ⟨_, X, -⟩ := X; exact X.here
theorem Wk.heap (X : Wk p l e R s m args below meth c n0 T h cells slots) : T.heap = h := by obtain ⟨_, -, -, q⟩ := X; exact q
theorem go_back {t t' : State} (b : ∀ target, Steps p.tables e below t' target → Steps p.tables e below t target) (k : Go p e below s n0 Q nc ns t') : Go p e below s n0 Q nc ns t := by
  obtain ⟨u, o, h1, r⟩ := k
  exact ⟨u, o, b u h1, r⟩
theorem con_start {y : MethodName} {bytes : ByteArray} {ml : Nat} {ret : Option FieldType} {ws : List Jvm.Cond} {rm : Room} {as : Array Value} {h0 : Heap} (hpl : plainFor y = true) {fr0 : MethodId → JFrame} (hfr : ∀ m, entryFrame m as ml = fr0 m)
    (k : ∀ (p : Program) (e : Env) (s : State) (m : MethodId) (below : List Frame) (meth : Method) (c : Code) (s₁ : State), p.tables.exec = Jvm.exec → Z.Warmed39 s.vm → c.code = bytes → c.maxLocals = ml → s.vm.findClass y.cls = some m.cls → meth.name = y.name → meth.sig.returnType = ret → meth.locks = false →
      Wk p l e rm s m as below meth c n0 s₁ h0 0 0 → Go p e below s n0 Q rm.cells rm.slots (s₁.setTop (fr0 m))) : Con l Z n0 y bytes ml ret ws rm as h0 Q := by
  refine MetFree.of_bodySF hpl hisR ?_
  intro p e s m args below meth c s₁ Bd hml0 hP hK
  obtain ⟨rfl, hZ, hh⟩ := hP
  rw [hfr]
  exact k p e s m below meth c s₁ Bd.exec hZ Bd.bytes hml0 (findClass_of_methodNamed Bd.named) (name_of_methodNamed Bd.named Bd.method).1 Bd.returns Bd.notSynchronized ⟨[], Stand.of_body Bd, Fr.nil n0, by rw [← hh, Bd.state]; rfl⟩
/-- what an int branch asks -/
def cP : ClassFile.Cond → Int32 → Int32 → Prop
  | .eq, x, y => x = y
  | .ne, x, y => ¬ x = y
  | .lt, x, y => x < y
  | .ge, x, y => ¬ x < y
  | .gt, x, y => y < x
  | .le, x, y => ¬ y < x
theorem cP_yes {cd : ClassFile.Cond} {x y : Int32} (q : cP cd x y) : if_icmp.holds cd x y = true := by
  cases cd
  · exact (teq q).1
  · exact (feq q).2
  · exact (tlt q).1
  · exact (flt q).2.1
  · exact (tlt q).2.2.1
  · exact (flt q).2.2.2
theorem cP_no {cd : ClassFile.Cond} {x y : Int32} (q : ¬ cP cd x y) : if_icmp.holds cd x y = false := by
  cases cd
  · exact (feq q).1
  · exact (teq (Classical.not_not.mp q)).2
  · exact (flt q).1
  · exact (tlt (Classical.not_not.mp q)).2.1
  · exact (flt q).2.2.1
  · exact (tlt (Classical.not_not.mp q)).2.2.2
theorem g_iload (X : Wk p l e R s m args below meth c n0 T h cells slots) (hx : p.tables.exec = Jvm.exec) {k : Nat} {v : Int32} (hp : pc + 2 = pc') (hd : decode c.code pc = .ok (.iload k, 2)) (hl : Ls[k]? = some (.val (.int v))) (k : Go p e below s n0 Q nc ns (T.setTop (mkF m pc' Ls (.int v :: st)))) : Go p e below s n0 Q nc ns (T.setTop (mkF m pc Ls (st))) := by
  subst hp; exact go_back (fun _ j => XS.iload X.here hx rfl hd hl j) k
theorem g_iloadN (X : Wk p l e R s m args below meth c n0 T h cells slots) (hx : p.tables.exec = Jvm.exec) {k : Fin 4} {v : Int32} (hp : pc + 1 = pc') (hd : decode c.code pc = .ok (.iload_n k, 1)) (hl : Ls[k.val]? = some (.val (.int v))) (k : Go p e below s n0 Q nc ns (T.setTop (mkF m pc' Ls (.int v :: st)))) : Go p e below s n0 Q nc ns (T.setTop (mkF m pc Ls (st))) := by
  subst hp; exact go_back (fun _ j => XS.iloadN X.here hx rfl hd hl j) k
theorem g_istore (X : Wk p l e R s m args below meth c n0 T h cells slots) (hx : p.tables.exec = Jvm.exec) {k : Nat} {x : Int32} {l' : Array Slot} (hp : pc + 2 = pc') (hd : decode c.code pc = .ok (.istore k, 2)) (hl : storeLocals Ls k (.int x) = some l') (k : Go p e below s n0 Q nc ns (T.setTop (mkF m pc' l' (rest)))) : Go p e below s n0 Q nc ns (T.setTop (mkF m pc Ls (.int x :: rest))) := by
  subst hp; exact go_back (fun _ j => XS.istore X.here hx rfl hd rfl hl j) k
theorem g_istoreN (X : Wk p l e R s m args below meth c n0 T h cells slots) (hx : p.tables.exec = Jvm.exec) {k : Fin 4} {x : Int32} {l' : Array Slot} (hp : pc + 1 = pc') (hd : decode c.code pc = .ok (.istore_n k, 1)) (hl : storeLocals Ls k.val (.int x) = some l') (k : Go p e below s n0 Q nc ns (T.setTop (mkF m pc' l' (rest)))) : Go p e below s n0 Q nc ns (T.setTop (mkF m pc Ls (.int x :: rest))) := by
  subst hp; exact go_back (fun _ j => XS.istoreN X.here hx rfl hd rfl hl j) k
theorem g_absI {x : Int32} (k : ∀ z : Int32, z = x → Go p e below s n0 Q nc ns (T.setTop (mkF m pc Ls (.int z :: rest)))) : Go p e below s n0 Q nc ns (T.setTop (mkF m pc Ls (.int x :: rest))) := k x rfl
theorem g_lload (X : Wk p l e R s m args below meth c n0 T h cells slots) (hx : p.tables.exec = Jvm.exec) {k : Nat} {v : Int64} (hp : pc + 2 = pc') (hd : decode c.code pc = .ok (.lload k, 2)) (hl : Ls[k]? = some (.val (.long v))) (k : Go p e below s n0 Q nc ns (T.setTop (mkF m pc' Ls (.long v :: st)))) : Go p e below s n0 Q nc ns (T.setTop (mkF m pc Ls (st))) := by
  subst hp; exact go_back (fun _ j => XS.lload X.here hx rfl hd hl j) k
theorem g_lloadN (X : Wk p l e R s m args below meth c n0 T h cells slots) (hx : p.tables.exec = Jvm.exec) {k : Fin 4} {v : Int64} (hp : pc + 1 = pc') (hd : decode c.code pc = .ok (.lload_n k, 1)) (hl : Ls[k.val]? = some (.val (.long v))) (k : Go p e below s n0 Q nc ns (T.setTop (mkF m pc' Ls (.long v :: st)))) : Go p e below s n0 Q nc ns (T.setTop (mkF m pc Ls (st))) := by
  subst hp; exact go_back (fun _ j => XS.lloadN X.here hx rfl hd hl j) k
theorem g_lstore (X : Wk p l e R s m args below meth c n0 T h cells slots) (hx : p.tables.exec = Jvm.exec) {k : Nat} {x : Int64} {l' : Array Slot} (hp : pc + 2 = pc') (hd : decode c.code pc = .ok (.lstore k, 2)) (hl : storeLocals Ls k (.long x) = some l') (k : Go p e below s n0 Q nc ns (T.setTop (mkF m pc' l' (rest)))) : Go p e below s n0 Q nc ns (T.setTop (mkF m pc Ls (.long x :: rest))) := by
  subst hp; exact go_back (fun _ j => XS.lstore X.here hx rfl hd rfl hl j) k
theorem g_lstoreN (X : Wk p l e R s m args below meth c n0 T h cells slots) (hx : p.tables.exec = Jvm.exec) {k : Fin 4} {x : Int64} {l' : Array Slot} (hp : pc + 1 = pc') (hd : decode c.code pc = .ok (.lstore_n k, 1)) (hl : storeLocals Ls k.val (.long x) = some l') (k : Go p e below s n0 Q nc ns (T.setTop (mkF m pc' l' (rest)))) : Go p e below s n0 Q nc ns (T.setTop (mkF m pc Ls (.long x :: rest))) := by
  subst hp; exact go_back (fun _ j => XS.lstoreN X.here hx rfl hd rfl hl j) k
theorem g_absL {x : Int64} (k : ∀ z : Int64, z = x → Go p e below s n0 Q nc ns (T.setTop (mkF m pc Ls (.long z :: rest)))) : Go p e below s n0 Q nc ns (T.setTop (mkF m pc Ls (.long x :: rest))) := k x rfl
theorem g_dload (X : Wk p l e R s m args below meth c n0 T h cells slots) (hx : p.tables.exec = Jvm.exec) {k : Nat} {v : UInt64} (hp : pc + 2 = pc') (hd : decode c.code pc = .ok (.dload k, 2)) (hl : Ls[k]? = some (.val (.double v))) (k : Go p e below s n0 Q nc ns (T.setTop (mkF m pc' Ls (.double v :: st)))) : Go p e below s n0 Q nc ns (T.setTop (mkF m pc Ls (st))) := by
  subst hp; exact go_back (fun _ j => XS.dload X.here hx rfl hd hl j) k
theorem g_dloadN (X : Wk p l e R s m args below meth c n0 T h cells slots) (hx : p.tables.exec = Jvm.exec) {k : Fin 4} {v : UInt64} (hp : pc + 1 = pc') (hd : decode c.code pc = .ok (.dload_n k, 1)) (hl : Ls[k.val]? = some (.val (.double v))) (k : Go p e below s n0 Q nc ns (T.setTop (mkF m pc' Ls (.double v :: st)))) : Go p e below s n0 Q nc ns (T.setTop (mkF m pc Ls (st))) := by
  subst hp; exact go_back (fun _ j => XS.dloadN X.here hx rfl hd hl j) k
theorem g_dstore (X : Wk p l e R s m args below meth c n0 T h cells slots) (hx : p.tables.exec = Jvm.exec) {k : Nat} {x : UInt64} {l' : Array Slot} (hp : pc + 2 = pc') (hd : decode c.code pc = .ok (.dstore k, 2)) (hl : storeLocals Ls k (.double x) = some l') (k : Go p e below s n0 Q nc ns (T.setTop (mkF m pc' l' (rest)))) : Go p e below s n0 Q nc ns (T.setTop (mkF m pc Ls (.double x :: rest))) := by
  subst hp; exact go_back (fun _ j => XS.dstore X.here hx rfl hd rfl hl j) k
theorem g_dstoreN (X : Wk p l e R s m args below meth c n0 T h cells slots) (hx : p.tables.exec = Jvm.exec) {k : Fin 4} {x : UInt64} {l' : Array Slot} (hp : pc + 1 = pc') (hd : decode c.code pc = .ok (.dstore_n k, 1)) (hl : storeLocals Ls k.val (.double x) = some l') (k : Go p e below s n0 Q nc ns (T.setTop (mkF m pc' l' (rest)))) : Go p e below s n0 Q nc ns (T.setTop (mkF m pc Ls (.double x :: rest))) := by
  subst hp; exact go_back (fun _ j => XS.dstoreN X.here hx rfl hd rfl hl j) k
theorem g_absD {x : UInt64} (k : ∀ z : UInt64, z = x → Go p e below s n0 Q nc ns (T.setTop (mkF m pc Ls (.double z :: rest)))) : Go p e below s n0 Q nc ns (T.setTop (mkF m pc Ls (.double x :: rest))) := k x rfl
theorem g_aload (X : Wk p l e R s m args below meth c n0 T h cells slots) (hx : p.tables.exec = Jvm.exec) {k : Nat} {v : Value} (hp : pc + 2 = pc') (hd : decode c.code pc = .ok (.aload k, 2)) (hl : Ls[k]? = some (.val v)) (hv : v.isRef = true) (k : Go p e below s n0 Q nc ns (T.setTop (mkF m pc' Ls (v :: st)))) : Go p e below s n0 Q nc ns (T.setTop (mkF m pc Ls (st))) := by
  subst hp; exact go_back (fun _ j => XS.aload X.here hx rfl hd hl hv j) k
theorem g_aloadN (X : Wk p l e R s m args below meth c n0 T h cells slots) (hx : p.tables.exec = Jvm.exec) {k : Fin 4} {v : Value} (hp : pc + 1 = pc') (hd : decode c.code pc = .ok (.aload_n k, 1)) (hl : Ls[k.val]? = some (.val v)) (hv : v.isRef = true) (k : Go p e below s n0 Q nc ns (T.setTop (mkF m pc' Ls (v :: st)))) : Go p e below s n0 Q nc ns (T.setTop (mkF m pc Ls (st))) := by
  subst hp; exact go_back (fun _ j => XS.aloadN X.here hx rfl hd hl hv j) k
theorem g_astore (X : Wk p l e R s m args below meth c n0 T h cells slots) (hx : p.tables.exec = Jvm.exec) {k : Nat} {x : Value} {l' : Array Slot} (hp : pc + 2 = pc') (hd : decode c.code pc = .ok (.astore k, 2)) (hv : x.isRef = true) (hl : storeLocals Ls k x = some l') (k : Go p e below s n0 Q nc ns (T.setTop (mkF m pc' l' (rest)))) : Go p e below s n0 Q nc ns (T.setTop (mkF m pc Ls (x :: rest))) := by
  subst hp; exact go_back (fun _ j => XS.astore X.here hx rfl hd rfl hv hl j) k
theorem g_astoreN (X : Wk p l e R s m args below meth c n0 T h cells slots) (hx : p.tables.exec = Jvm.exec) {k : Fin 4} {x : Value} {l' : Array Slot} (hp : pc + 1 = pc') (hd : decode c.code pc = .ok (.astore_n k, 1)) (hv : x.isRef = true) (hl : storeLocals Ls k.val x = some l') (k : Go p e below s n0 Q nc ns (T.setTop (mkF m pc' l' (rest)))) : Go p e below s n0 Q nc ns (T.setTop (mkF m pc Ls (x :: rest))) := by
  subst hp; exact go_back (fun _ j => XS.astoreN X.here hx rfl hd rfl hv hl j) k
theorem g_iconst (X : Wk p l e R s m args below meth c n0 T h cells slots) (hx : p.tables.exec = Jvm.exec) {i : Int} {z : Int32} (hp : pc + 1 = pc') (hd : decode c.code pc = .ok (.iconst i, 1)) (hz : Int32.ofInt i = z) (k : Go p e below s n0 Q nc ns (T.setTop (mkF m pc' Ls (.int z :: st)))) : Go p e below s n0 Q nc ns (T.setTop (mkF m pc Ls (st))) := by
  subst hp; exact go_back (fun _ j => XS.iconst X.here hx rfl hd (show Steps _ _ _ (T.setTop (mkF m (pc + 1) Ls (.int (Int32.ofInt i) :: st))) _ from hz ▸ j)) k
theorem g_bipush (X : Wk p l e R s m args below meth c n0 T h cells slots) (hx : p.tables.exec = Jvm.exec) {i : Int} {z : Int32} (hp : pc + 2 = pc') (hd : decode c.code pc = .ok (.bipush i, 2)) (hz : (Int8.ofInt i).toInt32 = z) (k : Go p e below s n0 Q nc ns (T.setTop (mkF m pc' Ls (.int z :: st)))) : Go p e below s n0 Q nc ns (T.setTop (mkF m pc Ls (st))) := by
  subst hp; exact go_back (fun _ j => XS.bipush X.here hx rfl hd (show Steps _ _ _ (T.setTop (mkF m (pc + 2) Ls (.int (Int8.ofInt i).toInt32 :: st))) _ from hz ▸ j)) k
theorem g_sipush (X : Wk p l e R s m args below meth c n0 T h cells slots) (hx : p.tables.exec = Jvm.exec) {i : Int} {z : Int32} (hp : pc + 3 = pc') (hd : decode c.code pc = .ok (.sipush i, 3)) (hz : (Int16.ofInt i).toInt32 = z) (k : Go p e below s n0 Q nc ns (T.setTop (mkF m pc' Ls (.int z :: st)))) : Go p e below s n0 Q nc ns (T.setTop (mkF m pc Ls (st))) := by
  subst hp; exact go_back (fun _ j => XS.sipush X.here hx rfl hd (show Steps _ _ _ (T.setTop (mkF m (pc + 3) Ls (.int (Int16.ofInt i).toInt32 :: st))) _ from hz ▸ j)) k
theorem g_lconst (X : Wk p l e R s m args below meth c n0 T h cells slots) (hx : p.tables.exec = Jvm.exec) {i : Fin 2} {z : Int64} (hp : pc + 1 = pc') (hd : decode c.code pc = .ok (.lconst i, 1)) (hz : Int64.ofNat i = z) (k : Go p e below s n0 Q nc ns (T.setTop (mkF m pc' Ls (.long z :: st)))) : Go p e below s n0 Q nc ns (T.setTop (mkF m pc Ls (st))) := by
  subst hp; exact go_back (fun _ j => XS.lconst X.here hx rfl hd (show Steps _ _ _ (T.setTop (mkF m (pc + 1) Ls (.long (Int64.ofNat i) :: st))) _ from hz ▸ j)) k
theorem g_dconst0 (X : Wk p l e R s m args below meth c n0 T h cells slots) (hx : p.tables.exec = Jvm.exec)  (hp : pc + 1 = pc') (hd : decode c.code pc = .ok (.dconst 0, 1))  (k : Go p e below s n0 Q nc ns (T.setTop (mkF m pc' Ls (.double 0 :: st)))) : Go p e below s n0 Q nc ns (T.setTop (mkF m pc Ls (st))) := by
  subst hp; exact go_back (fun _ j => XS.dconst0 X.here hx rfl hd rfl j) k
theorem g_dconst1 (X : Wk p l e R s m args below meth c n0 T h cells slots) (hx : p.tables.exec = Jvm.exec)  (hp : pc + 1 = pc') (hd : decode c.code pc = .ok (.dconst 1, 1))  (k : Go p e below s n0 Q nc ns (T.setTop (mkF m pc' Ls (.double 4607182418800017408 :: st)))) : Go p e below s n0 Q nc ns (T.setTop (mkF m pc Ls (st))) := by
  subst hp; exact go_back (fun _ j => XS.dconst1 X.here hx rfl hd rfl j) k
theorem g_aconst_null (X : Wk p l e R s m args below meth c n0 T h cells slots) (hx : p.tables.exec = Jvm.exec)  (hp : pc + 1 = pc') (hd : decode c.code pc = .ok (.aconst_null, 1))  (k : Go p e below s n0 Q nc ns (T.setTop (mkF m pc' Ls (.null :: st)))) : Go p e below s n0 Q nc ns (T.setTop (mkF m pc Ls (st))) := by
  subst hp; exact go_back (fun _ j => XS.aconstNull X.here hx rfl hd j) k
theorem g_iadd (X : Wk p l e R s m args below meth c n0 T h cells slots) (hx : p.tables.exec = Jvm.exec) {x y : Int32} (hp : pc + 1 = pc') (hd : decode c.code pc = .ok (.iadd, 1))  (k : Go p e below s n0 Q nc ns (T.setTop (mkF m pc' Ls (.int (x + y) :: rest)))) : Go p e below s n0 Q nc ns (T.setTop (mkF m pc Ls (.int y :: .int x :: rest))) := by
  subst hp; exact go_back (fun _ j => XS.iadd X.here hx rfl hd rfl j) k
theorem g_ladd (X : Wk p l e R s m args below meth c n0 T h cells slots) (hx : p.tables.exec = Jvm.exec) {x y : Int64} (hp : pc + 1 = pc') (hd : decode c.code pc = .ok (.ladd, 1))  (k : Go p e below s n0 Q nc ns (T.setTop (mkF m pc' Ls (.long (x + y) :: rest)))) : Go p e below s n0 Q nc ns (T.setTop (mkF m pc Ls (.long y :: .long x :: rest))) := by
  subst hp; exact go_back (fun _ j => XS.ladd X.here hx rfl hd rfl j) k
theorem g_isub (X : Wk p l e R s m args below meth c n0 T h cells slots) (hx : p.tables.exec = Jvm.exec) {x y : Int32} (hp : pc + 1 = pc') (hd : decode c.code pc = .ok (.isub, 1))  (k : Go p e below s n0 Q nc ns (T.setTop (mkF m pc' Ls (.int (x - y) :: rest)))) : Go p e below s n0 Q nc ns (T.setTop (mkF m pc Ls (.int y :: .int x :: rest))) := by
  subst hp; exact go_back (fun _ j => XS.isub X.here hx rfl hd rfl j) k
theorem g_lsub (X : Wk p l e R s m args below meth c n0 T h cells slots) (hx : p.tables.exec = Jvm.exec) {x y : Int64} (hp : pc + 1 = pc') (hd : decode c.code pc = .ok (.lsub, 1))  (k : Go p e below s n0 Q nc ns (T.setTop (mkF m pc' Ls (.long (x - y) :: rest)))) : Go p e below s n0 Q nc ns (T.setTop (mkF m pc Ls (.long y :: .long x :: rest))) := by
  subst hp; exact go_back (fun _ j => XS.lsub X.here hx rfl hd rfl j) k
theorem g_imul (X : Wk p l e R s m args below meth c n0 T h cells slots) (hx : p.tables.exec = Jvm.exec) {x y : Int32} (hp : pc + 1 = pc') (hd : decode c.code pc = .ok (.imul, 1))  (k : Go p e below s n0 Q nc ns (T.setTop (mkF m pc' Ls (.int (x * y) :: rest)))) : Go p e below s n0 Q nc ns (T.setTop (mkF m pc Ls (.int y :: .int x :: rest))) := by
  subst hp; exact go_back (fun _ j => XS.imul X.here hx rfl hd rfl j) k
theorem g_lmul (X : Wk p l e R s m args below meth c n0 T h cells slots) (hx : p.tables.exec = Jvm.exec) {x y : Int64} (hp : pc + 1 = pc') (hd : decode c.code pc = .ok (.lmul, 1))  (k : Go p e below s n0 Q nc ns (T.setTop (mkF m pc' Ls (.long (x * y) :: rest)))) : Go p e below s n0 Q nc ns (T.setTop (mkF m pc Ls (.long y :: .long x :: rest))) := by
  subst hp; exact go_back (fun _ j => XS.lmul X.here hx rfl hd rfl j) k
theorem g_iand (X : Wk p l e R s m args below meth c n0 T h cells slots) (hx : p.tables.exec = Jvm.exec) {x y : Int32} (hp : pc + 1 = pc') (hd : decode c.code pc = .ok (.iand, 1))  (k : Go p e below s n0 Q nc ns (T.setTop (mkF m pc' Ls (.int (x &&& y) :: rest)))) : Go p e below s n0 Q nc ns (T.setTop (mkF m pc Ls (.int y :: .int x :: rest))) := by
  subst hp; exact go_back (fun _ j => XS.iand X.here hx rfl hd rfl j) k
theorem g_land (X : Wk p l e R s m args below meth c n0 T h cells slots) (hx : p.tables.exec = Jvm.exec) {x y : Int64} (hp : pc + 1 = pc') (hd : decode c.code pc = .ok (.land, 1))  (k : Go p e below s n0 Q nc ns (T.setTop (mkF m pc' Ls (.long (x &&& y) :: rest)))) : Go p e below s n0 Q nc ns (T.setTop (mkF m pc Ls (.long y :: .long x :: rest))) := by
  subst hp; exact go_back (fun _ j => XS.land X.here hx rfl hd rfl j) k
theorem g_ior (X : Wk p l e R s m args below meth c n0 T h cells slots) (hx : p.tables.exec = Jvm.exec) {x y : Int32} (hp : pc + 1 = pc') (hd : decode c.code pc = .ok (.ior, 1))  (k : Go p e below s n0 Q nc ns (T.setTop (mkF m pc' Ls (.int (x ||| y) :: rest)))) : Go p e below s n0 Q nc ns (T.setTop (mkF m pc Ls (.int y :: .int x :: rest))) := by
  subst hp; exact go_back (fun _ j => XS.ior X.here hx rfl hd rfl j) k
theorem g_lor (X : Wk p l e R s m args below meth c n0 T h cells slots) (hx : p.tables.exec = Jvm.exec) {x y : Int64} (hp : pc + 1 = pc') (hd : decode c.code pc = .ok (.lor, 1))  (k : Go p e below s n0 Q nc ns (T.setTop (mkF m pc' Ls (.long (x ||| y) :: rest)))) : Go p e below s n0 Q nc ns (T.setTop (mkF m pc Ls (.long y :: .long x :: rest))) := by
  subst hp; exact go_back (fun _ j => XS.lor X.here hx rfl hd rfl j) k
theorem g_ixor (X : Wk p l e R s m args below meth c n0 T h cells slots) (hx : p.tables.exec = Jvm.exec) {x y : Int32} (hp : pc + 1 = pc') (hd : decode c.code pc = .ok (.ixor, 1))  (k : Go p e below s n0 Q nc ns (T.setTop (mkF m pc' Ls (.int (x ^^^ y) :: rest)))) : Go p e below s n0 Q nc ns (T.setTop (mkF m pc Ls (.int y :: .int x :: rest))) := by
  subst hp; exact go_back (fun _ j => XS.ixor X.here hx rfl hd rfl j) k
theorem g_lxor (X : Wk p l e R s m args below meth c n0 T h cells slots) (hx : p.tables.exec = Jvm.exec) {x y : Int64} (hp : pc + 1 = pc') (hd : decode c.code pc = .ok (.lxor, 1))  (k : Go p e below s n0 Q nc ns (T.setTop (mkF m pc' Ls (.long (x ^^^ y) :: rest)))) : Go p e below s n0 Q nc ns (T.setTop (mkF m pc Ls (.long y :: .long x :: rest))) := by
  subst hp; exact go_back (fun _ j => XS.lxor X.here hx rfl hd rfl j) k
theorem g_idiv (X : Wk p l e R s m args below meth c n0 T h cells slots) (hx : p.tables.exec = Jvm.exec) {x y : Int32} (hp : pc + 1 = pc') (hd : decode c.code pc = .ok (.idiv, 1)) (hy : y ≠ 0) (k : Go p e below s n0 Q nc ns (T.setTop (mkF m pc' Ls (.int (x / y) :: rest)))) : Go p e below s n0 Q nc ns (T.setTop (mkF m pc Ls (.int y :: .int x :: rest))) := by
  subst hp; exact go_back (fun _ j => XS.idiv X.here hx rfl hd rfl hy j) k
theorem g_irem (X : Wk p l e R s m args below meth c n0 T h cells slots) (hx : p.tables.exec = Jvm.exec) {x y : Int32} (hp : pc + 1 = pc') (hd : decode c.code pc = .ok (.irem, 1)) (hy : y ≠ 0) (k : Go p e below s n0 Q nc ns (T.setTop (mkF m pc' Ls (.int (x % y) :: rest)))) : Go p e below s n0 Q nc ns (T.setTop (mkF m pc Ls (.int y :: .int x :: rest))) := by
  subst hp; obtain ⟨_, X, -⟩ := X; exact go_back (fun _ j => iremM X hx (g := mkF m pc Ls (.int y :: .int x :: rest)) rfl hd rfl hy j) k
theorem g_ldiv (X : Wk p l e R s m args below meth c n0 T h cells slots) (hx : p.tables.exec = Jvm.exec) {x y : Int64} (hp : pc + 1 = pc') (hd : decode c.code pc = .ok (.ldiv, 1)) (hy : y ≠ 0) (k : Go p e below s n0 Q nc ns (T.setTop (mkF m pc' Ls (.long (x / y) :: rest)))) : Go p e below s n0 Q nc ns (T.setTop (mkF m pc Ls (.long y :: .long x :: rest))) := by
  subst hp; exact go_back (fun _ j => XS.ldiv X.here hx rfl hd rfl hy j) k
theorem g_lrem (X : Wk p l e R s m args below meth c n0 T h cells slots) (hx : p.tables.exec = Jvm.exec) {x y : Int64} (hp : pc + 1 = pc') (hd : decode c.code pc = .ok (.lrem, 1)) (hy : y ≠ 0) (k : Go p e below s n0 Q nc ns (T.setTop (mkF m pc' Ls (.long (x - (x / y) * y) :: rest)))) : Go p e below s n0 Q nc ns (T.setTop (mkF m pc Ls (.long y :: .long x :: rest))) := by
  subst hp; exact go_back (fun _ j => XS.lrem X.here hx rfl hd rfl hy j) k
theorem g_ishl (X : Wk p l e R s m args below meth c n0 T h cells slots) (hx : p.tables.exec = Jvm.exec) {x y : Int32} (hp : pc + 1 = pc') (hd : decode c.code pc = .ok (.ishl, 1))  (k : Go p e below s n0 Q nc ns (T.setTop (mkF m pc' Ls (.int (x <<< (y &&& 31)) :: rest)))) : Go p e below s n0 Q nc ns (T.setTop (mkF m pc Ls (.int y :: .int x :: rest))) := by
  subst hp; exact go_back (fun _ j => XS.ishl X.here hx rfl hd rfl j) k
theorem g_ishr (X : Wk p l e R s m args below meth c n0 T h cells slots) (hx : p.tables.exec = Jvm.exec) {x y : Int32} (hp : pc + 1 = pc') (hd : decode c.code pc = .ok (.ishr, 1))  (k : Go p e below s n0 Q nc ns (T.setTop (mkF m pc' Ls (.int (x >>> (y &&& 31)) :: rest)))) : Go p e below s n0 Q nc ns (T.setTop (mkF m pc Ls (.int y :: .int x :: rest))) := by
  subst hp; exact go_back (fun _ j => XS.ishr X.here hx rfl hd rfl j) k
theorem g_iushr (X : Wk p l e R s m args below meth c n0 T h cells slots) (hx : p.tables.exec = Jvm.exec) {x y : Int32} (hp : pc + 1 = pc') (hd : decode c.code pc = .ok (.iushr, 1))  (k : Go p e below s n0 Q nc ns (T.setTop (mkF m pc' Ls (.int ((x.toUInt32 >>> (y &&& 31).toUInt32).toInt32) :: rest)))) : Go p e below s n0 Q nc ns (T.setTop (mkF m pc Ls (.int y :: .int x :: rest))) := by
  subst hp; exact go_back (fun _ j => XS.iushr X.here hx rfl hd rfl j) k
theorem g_lshl (X : Wk p l e R s m args below meth c n0 T h cells slots) (hx : p.tables.exec = Jvm.exec) {x : Int64} {y : Int32} (hp : pc + 1 = pc') (hd : decode c.code pc = .ok (.lshl, 1))  (k : Go p e below s n0 Q nc ns (T.setTop (mkF m pc' Ls (.long (x <<< (y &&& 0x3f).toInt64) :: rest)))) : Go p e below s n0 Q nc ns (T.setTop (mkF m pc Ls (.int y :: .long x :: rest))) := by
  subst hp; exact go_back (fun _ j => XS.lshl X.here hx rfl hd rfl j) k
theorem g_lshr (X : Wk p l e R s m args below meth c n0 T h cells slots) (hx : p.tables.exec = Jvm.exec) {x : Int64} {y : Int32} (hp : pc + 1 = pc') (hd : decode c.code pc = .ok (.lshr, 1))  (k : Go p e below s n0 Q nc ns (T.setTop (mkF m pc' Ls (.long (x >>> (y &&& 0x3f).toInt64) :: rest)))) : Go p e below s n0 Q nc ns (T.setTop (mkF m pc Ls (.int y :: .long x :: rest))) := by
  subst hp; exact go_back (fun _ j => XS.lshr X.here hx rfl hd rfl j) k
theorem g_lushr (X : Wk p l e R s m args below meth c n0 T h cells slots) (hx : p.tables.exec = Jvm.exec) {x : Int64} {y : Int32} (hp : pc + 1 = pc') (hd : decode c.code pc = .ok (.lushr, 1))  (k : Go p e below s n0 Q nc ns (T.setTop (mkF m pc' Ls (.long ((x.toUInt64 >>> (y &&& 0x3f).toInt64.toUInt64).toInt64) :: rest)))) : Go p e below s n0 Q nc ns (T.setTop (mkF m pc Ls (.int y :: .long x :: rest))) := by
  subst hp; exact go_back (fun _ j => XS.lushr X.here hx rfl hd rfl j) k
theorem g_ineg (X : Wk p l e R s m args below meth c n0 T h cells slots) (hx : p.tables.exec = Jvm.exec) {x : Int32} (hp : pc + 1 = pc') (hd : decode c.code pc = .ok (.ineg, 1))  (k : Go p e below s n0 Q nc ns (T.setTop (mkF m pc' Ls (.int (-x) :: rest)))) : Go p e below s n0 Q nc ns (T.setTop (mkF m pc Ls (.int x :: rest))) := by
  subst hp; exact go_back (fun _ j => XS.ineg X.here hx rfl hd rfl j) k
theorem g_lneg (X : Wk p l e R s m args below meth c n0 T h cells slots) (hx : p.tables.exec = Jvm.exec) {x : Int64} (hp : pc + 1 = pc') (hd : decode c.code pc = .ok (.lneg, 1))  (k : Go p e below s n0 Q nc ns (T.setTop (mkF m pc' Ls (.long (-x) :: rest)))) : Go p e below s n0 Q nc ns (T.setTop (mkF m pc Ls (.long x :: rest))) := by
  subst hp; exact go_back (fun _ j => XS.lneg X.here hx rfl hd rfl j) k
theorem g_i2l (X : Wk p l e R s m args below meth c n0 T h cells slots) (hx : p.tables.exec = Jvm.exec) {x : Int32} (hp : pc + 1 = pc') (hd : decode c.code pc = .ok (.i2l, 1))  (k : Go p e below s n0 Q nc ns (T.setTop (mkF m pc' Ls (.long x.toInt64 :: rest)))) : Go p e below s n0 Q nc ns (T.setTop (mkF m pc Ls (.int x :: rest))) := by
  subst hp; exact go_back (fun _ j => XS.i2l X.here hx rfl hd rfl j) k
theorem g_l2i (X : Wk p l e R s m args below meth c n0 T h cells slots) (hx : p.tables.exec = Jvm.exec) {x : Int64} (hp : pc + 1 = pc') (hd : decode c.code pc = .ok (.l2i, 1))  (k : Go p e below s n0 Q nc ns (T.setTop (mkF m pc' Ls (.int x.toInt32 :: rest)))) : Go p e below s n0 Q nc ns (T.setTop (mkF m pc Ls (.long x :: rest))) := by
  subst hp; exact go_back (fun _ j => XS.l2i X.here hx rfl hd rfl j) k
theorem g_i2b (X : Wk p l e R s m args below meth c n0 T h cells slots) (hx : p.tables.exec = Jvm.exec) {x : Int32} (hp : pc + 1 = pc') (hd : decode c.code pc = .ok (.i2b, 1))  (k : Go p e below s n0 Q nc ns (T.setTop (mkF m pc' Ls (.int x.toInt8.toInt32 :: rest)))) : Go p e below s n0 Q nc ns (T.setTop (mkF m pc Ls (.int x :: rest))) := by
  subst hp; exact go_back (fun _ j => XS.i2b X.here hx rfl hd rfl j) k
theorem g_i2s (X : Wk p l e R s m args below meth c n0 T h cells slots) (hx : p.tables.exec = Jvm.exec) {x : Int32} (hp : pc + 1 = pc') (hd : decode c.code pc = .ok (.i2s, 1))  (k : Go p e below s n0 Q nc ns (T.setTop (mkF m pc' Ls (.int x.toInt16.toInt32 :: rest)))) : Go p e below s n0 Q nc ns (T.setTop (mkF m pc Ls (.int x :: rest))) := by
  subst hp; exact go_back (fun _ j => XS.i2s X.here hx rfl hd rfl j) k
theorem g_i2c (X : Wk p l e R s m args below meth c n0 T h cells slots) (hx : p.tables.exec = Jvm.exec) {x : Int32} (hp : pc + 1 = pc') (hd : decode c.code pc = .ok (.i2c, 1))  (k : Go p e below s n0 Q nc ns (T.setTop (mkF m pc' Ls (.int x.toUInt32.toUInt16.toUInt32.toInt32 :: rest)))) : Go p e below s n0 Q nc ns (T.setTop (mkF m pc Ls (.int x :: rest))) := by
  subst hp; exact go_back (fun _ j => XS.i2c X.here hx rfl hd rfl j) k
theorem g_lcmp (X : Wk p l e R s m args below meth c n0 T h cells slots) (hx : p.tables.exec = Jvm.exec) {x y : Int64} (hp : pc + 1 = pc') (hd : decode c.code pc = .ok (.lcmp, 1))  (k : Go p e below s n0 Q nc ns (T.setTop (mkF m pc' Ls (.int (lcmpW x y) :: rest)))) : Go p e below s n0 Q nc ns (T.setTop (mkF m pc Ls (.long y :: .long x :: rest))) := by
  subst hp; exact go_back (fun _ j => XS.lcmp X.here hx rfl hd rfl j) k
theorem g_i2d (X : Wk p l e R s m args below meth c n0 T h cells slots) (hx : p.tables.exec = Jvm.exec) {x : Int32} (hp : pc + 1 = pc') (hd : decode c.code pc = .ok (.i2d, 1))  (k : Go p e below s n0 Q nc ns (T.setTop (mkF m pc' Ls (.double (FP.i2d x) :: rest)))) : Go p e below s n0 Q nc ns (T.setTop (mkF m pc Ls (.int x :: rest))) := by
  subst hp; exact go_back (fun _ j => XS.i2dS X.here hx rfl hd rfl rfl j) k
theorem g_l2d (X : Wk p l e R s m args below meth c n0 T h cells slots) (hx : p.tables.exec = Jvm.exec) {x : Int64} (hp : pc + 1 = pc') (hd : decode c.code pc = .ok (.l2d, 1))  (k : Go p e below s n0 Q nc ns (T.setTop (mkF m pc' Ls (.double (FP.l2d x) :: rest)))) : Go p e below s n0 Q nc ns (T.setTop (mkF m pc Ls (.long x :: rest))) := by
  subst hp; exact go_back (fun _ j => XS.l2dS X.here hx rfl hd rfl rfl j) k
theorem g_dneg (X : Wk p l e R s m args below meth c n0 T h cells slots) (hx : p.tables.exec = Jvm.exec) {x : UInt64} (hp : pc + 1 = pc') (hd : decode c.code pc = .ok (.dneg, 1))  (k : Go p e below s n0 Q nc ns (T.setTop (mkF m pc' Ls (.double (FP.dneg x) :: rest)))) : Go p e below s n0 Q nc ns (T.setTop (mkF m pc Ls (.double x :: rest))) := by
  subst hp; exact go_back (fun _ j => XS.dnegS X.here hx rfl hd rfl rfl j) k
theorem g_dcmp (X : Wk p l e R s m args below meth c n0 T h cells slots) (hx : p.tables.exec = Jvm.exec) {o : CmpOp} {x y : UInt64} {z : Int32} (hp : pc + 1 = pc') (hd : decode c.code pc = .ok (.dcmp o, 1)) (hz : cmpValue (FP.dcmp x y) o = z) (k : Go p e below s n0 Q nc ns (T.setTop (mkF m pc' Ls (.int z :: rest)))) : Go p e below s n0 Q nc ns (T.setTop (mkF m pc Ls (.double y :: .double x :: rest))) := by
  subst hp; exact go_back (fun _ j => XS.dcmpS X.here hx rfl hd rfl hz j) k
theorem g_dadd (X : Wk p l e R s m args below meth c n0 T h cells slots) (hx : p.tables.exec = Jvm.exec) {x y z : UInt64} (hp : pc + 1 = pc') (hd : decode c.code pc = .ok (.dadd, 1)) (hn : NoNaN64 (FP.dadd x y)) (hz : FP.dadd x y = z) (k : Go p e below s n0 Q nc ns (T.setTop (mkF m pc' Ls (.double z :: rest)))) : Go p e below s n0 Q nc ns (T.setTop (mkF m pc Ls (.double y :: .double x :: rest))) := by
  subst hp; exact go_back (fun _ j => XS.daddS X.here hx rfl hd rfl hn hz j) k
theorem g_dsub (X : Wk p l e R s m args below meth c n0 T h cells slots) (hx : p.tables.exec = Jvm.exec) {x y z : UInt64} (hp : pc + 1 = pc') (hd : decode c.code pc = .ok (.dsub, 1)) (hn : NoNaN64 (FP.dsub x y)) (hz : FP.dsub x y = z) (k : Go p e below s n0 Q nc ns (T.setTop (mkF m pc' Ls (.double z :: rest)))) : Go p e below s n0 Q nc ns (T.setTop (mkF m pc Ls (.double y :: .double x :: rest))) := by
  subst hp; exact go_back (fun _ j => XS.dsubS X.here hx rfl hd rfl hn hz j) k
theorem g_dmul (X : Wk p l e R s m args below meth c n0 T h cells slots) (hx : p.tables.exec = Jvm.exec) {x y z : UInt64} (hp : pc + 1 = pc') (hd : decode c.code pc = .ok (.dmul, 1)) (hn : NoNaN64 (FP.dmul x y)) (hz : FP.dmul x y = z) (k : Go p e below s n0 Q nc ns (T.setTop (mkF m pc' Ls (.double z :: rest)))) : Go p e below s n0 Q nc ns (T.setTop (mkF m pc Ls (.double y :: .double x :: rest))) := by
  subst hp; exact go_back (fun _ j => XS.dmulS X.here hx rfl hd rfl hn hz j) k
theorem g_ddiv (X : Wk p l e R s m args below meth c n0 T h cells slots) (hx : p.tables.exec = Jvm.exec) {x y z : UInt64} (hp : pc + 1 = pc') (hd : decode c.code pc = .ok (.ddiv, 1)) (hn : NoNaN64 (FP.ddiv x y)) (hz : FP.ddiv x y = z) (k : Go p e below s n0 Q nc ns (T.setTop (mkF m pc' Ls (.double z :: rest)))) : Go p e below s n0 Q nc ns (T.setTop (mkF m pc Ls (.double y :: .double x :: rest))) := by
  subst hp; exact go_back (fun _ j => XS.ddivS X.here hx rfl hd rfl hn hz j) k
theorem g_dup (X : Wk p l e R s m args below meth c n0 T h cells slots) (hx : p.tables.exec = Jvm.exec) {x : Value} (hp : pc + 1 = pc') (hd : decode c.code pc = .ok (.dup, 1)) (hc : x.category = 1) (k : Go p e below s n0 Q nc ns (T.setTop (mkF m pc' Ls (x :: x :: rest)))) : Go p e below s n0 Q nc ns (T.setTop (mkF m pc Ls (x :: rest))) := by
  subst hp; exact go_back (fun _ j => XS.dup X.here hx rfl hd rfl hc j) k
theorem g_dup_x1 (X : Wk p l e R s m args below meth c n0 T h cells slots) (hx : p.tables.exec = Jvm.exec) {x y : Value} (hp : pc + 1 = pc') (hd : decode c.code pc = .ok (.dup_x1, 1)) (hc : x.category = 1) (hc' : y.category = 1) (k : Go p e below s n0 Q nc ns (T.setTop (mkF m pc' Ls (x :: y :: x :: rest)))) : Go p e below s n0 Q nc ns (T.setTop (mkF m pc Ls (x :: y :: rest))) := by
  subst hp; exact go_back (fun _ j => XS.dupX1 X.here hx rfl hd rfl hc hc' j) k
theorem g_pop (X : Wk p l e R s m args below meth c n0 T h cells slots) (hx : p.tables.exec = Jvm.exec) {x : Value} (hp : pc + 1 = pc') (hd : decode c.code pc = .ok (.pop, 1)) (hc : x.category = 1) (k : Go p e below s n0 Q nc ns (T.setTop (mkF m pc' Ls (rest)))) : Go p e below s n0 Q nc ns (T.setTop (mkF m pc Ls (x :: rest))) := by
  subst hp; exact go_back (fun _ j => XS.pop X.here hx rfl hd rfl hc j) k
theorem g_dup2 (X : Wk p l e R s m args below meth c n0 T h cells slots) (hx : p.tables.exec = Jvm.exec) {x y : Value} (hp : pc + 1 = pc') (hd : decode c.code pc = .ok (.dup2, 1)) (hc : x.category = 1) (hc' : y.category = 1) (k : Go p e below s n0 Q nc ns (T.setTop (mkF m pc' Ls (x :: y :: x :: y :: rest)))) : Go p e below s n0 Q nc ns (T.setTop (mkF m pc Ls (x :: y :: rest))) := by
  subst hp; exact go_back (fun _ j => Jvm.Free.XT.dup2 X.here hx rfl hd rfl hc hc' j) k
theorem g_iinc (X : Wk p l e R s m args below meth c n0 T h cells slots) (hx : p.tables.exec = Jvm.exec) {k : Nat} {cst : Int} {x : Int32} {l' : Array Slot} (hp : pc + 3 = pc') (hd : decode c.code pc = .ok (.iinc k cst, 3)) (hl : Ls[k]? = some (.val (.int x))) (hl' : storeLocals Ls k (.int (x + Int32.ofInt cst)) = some l') (q : Go p e below s n0 Q nc ns (T.setTop (mkF m pc' l' st))) : Go p e below s n0 Q nc ns (T.setTop (mkF m pc Ls st)) := by
  subst hp; exact go_back (fun _ j => XS.iinc X.here hx rfl hd hl hl' j) q
theorem g_goto (X : Wk p l e R s m args below meth c n0 T h cells slots) (hx : p.tables.exec = Jvm.exec) {o : Int} (hd : decode c.code pc = .ok (.goto o, 3)) (ho : 0 ≤ (pc : Int) + o) (hp : ((pc : Int) + o).toNat = pc') (k : Go p e below s n0 Q nc ns (T.setTop (mkF m pc' Ls st))) : Go p e below s n0 Q nc ns (T.setTop (mkF m pc Ls st)) :=
  go_back (fun _ j => XS.goto X.here hx rfl rfl hd ho hp j) k
theorem g_ifY (X : Wk p l e R s m args below meth c n0 T h cells slots) (hx : p.tables.exec = Jvm.exec) {cd : ClassFile.Cond} {o : Int} {x : Int32} {pcY : Nat} (hd : decode c.code pc = .ok (.ifCond cd o, 3)) (ho : 0 ≤ (pc : Int) + o) (hY : ((pc : Int) + o).toNat = pcY) (q : cP cd x 0) (k : Go p e below s n0 Q nc ns (T.setTop (mkF m pcY Ls rest))) : Go p e below s n0 Q nc ns (T.setTop (mkF m pc Ls (.int x :: rest))) :=
  go_back (fun _ j => XS.ifYes X.here hx rfl rfl hd rfl ((if0 _ _).trans (cP_yes q)) ho hY j) k
theorem g_ifN (X : Wk p l e R s m args below meth c n0 T h cells slots) (hx : p.tables.exec = Jvm.exec) {cd : ClassFile.Cond} {o : Int} {x : Int32} {pcN : Nat} (hd : decode c.code pc = .ok (.ifCond cd o, 3)) (hN : pc + 3 = pcN) (q : ¬ cP cd x 0) (k : Go p e below s n0 Q nc ns (T.setTop (mkF m pcN Ls rest))) : Go p e below s n0 Q nc ns (T.setTop (mkF m pc Ls (.int x :: rest))) := by
  subst hN; exact go_back (fun _ j => XS.ifNo X.here hx rfl hd rfl ((if0 _ _).trans (cP_no q)) j) k
theorem g_if (X : Wk p l e R s m args below meth c n0 T h cells slots) (hx : p.tables.exec = Jvm.exec) {cd : ClassFile.Cond} {o : Int} {x : Int32} {pcY pcN : Nat} (hd : decode c.code pc = .ok (.ifCond cd o, 3)) (ho : 0 ≤ (pc : Int) + o) (hY : ((pc : Int) + o).toNat = pcY) (hN : pc + 3 = pcN) (kY : cP cd x 0 → Go p e below s n0 Q nc ns (T.setTop (mkF m pcY Ls rest))) (kN : ¬ cP cd x 0 → Go p e below s n0 Q nc ns (T.setTop (mkF m pcN Ls rest))) : Go p e below s n0 Q nc ns (T.setTop (mkF m pc Ls (.int x :: rest))) := by
  by_cases q : cP cd x 0
  · exact g_ifY X hx hd ho hY q (kY q)
  · exact g_ifN X hx hd hN q (kN q)
theorem g_icmpY (X : Wk p l e R s m args below meth c n0 T h cells slots) (hx : p.tables.exec = Jvm.exec) {cd : ClassFile.Cond} {o : Int} {x y : Int32} {pcY : Nat} (hd : decode c.code pc = .ok (.if_icmp cd o, 3)) (ho : 0 ≤ (pc : Int) + o) (hY : ((pc : Int) + o).toNat = pcY) (q : cP cd x y) (k : Go p e below s n0 Q nc ns (T.setTop (mkF m pcY Ls rest))) : Go p e below s n0 Q nc ns (T.setTop (mkF m pc Ls (.int y :: .int x :: rest))) :=
  go_back (fun _ j => XS.icmpYes X.here hx rfl rfl hd rfl (cP_yes q) ho hY j) k
theorem g_icmpN (X : Wk p l e R s m args below meth c n0 T h cells slots) (hx : p.tables.exec = Jvm.exec) {cd : ClassFile.Cond} {o : Int} {x y : Int32} {pcN : Nat} (hd : decode c.code pc = .ok (.if_icmp cd o, 3)) (hN : pc + 3 = pcN) (q : ¬ cP cd x y) (k : Go p e below s n0 Q nc ns (T.setTop (mkF m pcN Ls rest))) : Go p e below s n0 Q nc ns (T.setTop (mkF m pc Ls (.int y :: .int x :: rest))) := by
  subst hN; exact go_back (fun _ j => XS.icmpNo X.here hx rfl hd rfl (cP_no q) j) k
theorem g_icmp (X : Wk p l e R s m args below meth c n0 T h cells slots) (hx : p.tables.exec = Jvm.exec) {cd : ClassFile.Cond} {o : Int} {x y : Int32} {pcY pcN : Nat} (hd : decode c.code pc = .ok (.if_icmp cd o, 3)) (ho : 0 ≤ (pc : Int) + o) (hY : ((pc : Int) + o).toNat = pcY) (hN : pc + 3 = pcN) (kY : cP cd x y → Go p e below s n0 Q nc ns (T.setTop (mkF m pcY Ls rest))) (kN : ¬ cP cd x y → Go p e below s n0 Q nc ns (T.setTop (mkF m pcN Ls rest))) : Go p e below s n0 Q nc ns (T.setTop (mkF m pc Ls (.int y :: .int x :: rest))) := by
  by_cases q : cP cd x y
  · exact g_icmpY X hx hd ho hY q (kY q)
  · exact g_icmpN X hx hd hN q (kN q)
theorem g_ifnullY (X : Wk p l e R s m args below meth c n0 T h cells slots) (hx : p.tables.exec = Jvm.exec) {o : Int} {pcY : Nat} (hd : decode c.code pc = .ok (.ifnull o, 3)) (ho : 0 ≤ (pc : Int) + o) (hY : ((pc : Int) + o).toNat = pcY) (k : Go p e below s n0 Q nc ns (T.setTop (mkF m pcY Ls rest))) : Go p e below s n0 Q nc ns (T.setTop (mkF m pc Ls (.null :: rest))) :=
  go_back (fun _ j => XS.ifnullYes X.here hx rfl rfl hd rfl ho hY j) k
theorem g_ifnullN (X : Wk p l e R s m args below meth c n0 T h cells slots) (hx : p.tables.exec = Jvm.exec) {o : Int} {b : Addr} {pcN : Nat} (hd : decode c.code pc = .ok (.ifnull o, 3)) (hN : pc + 3 = pcN) (k : Go p e below s n0 Q nc ns (T.setTop (mkF m pcN Ls rest))) : Go p e below s n0 Q nc ns (T.setTop (mkF m pc Ls (.ref b :: rest))) := by
  subst hN; exact go_back (fun _ j => XS.ifnullNo X.here hx rfl hd rfl j) k
theorem g_ifnonnullY (X : Wk p l e R s m args below meth c n0 T h cells slots) (hx : p.tables.exec = Jvm.exec) {o : Int} {b : Addr} {pcY : Nat} (hd : decode c.code pc = .ok (.ifnonnull o, 3)) (ho : 0 ≤ (pc : Int) + o) (hY : ((pc : Int) + o).toNat = pcY) (k : Go p e below s n0 Q nc ns (T.setTop (mkF m pcY Ls rest))) : Go p e below s n0 Q nc ns (T.setTop (mkF m pc Ls (.ref b :: rest))) :=
  go_back (fun _ j => XS.ifnonnullYes X.here hx rfl rfl hd rfl ho hY j) k
theorem g_ifnonnullN (X : Wk p l e R s m args below meth c n0 T h cells slots) (hx : p.tables.exec = Jvm.exec) {o : Int} {pcN : Nat} (hd : decode c.code pc = .ok (.ifnonnull o, 3)) (hN : pc + 3 = pcN) (k : Go p e below s n0 Q nc ns (T.setTop (mkF m pcN Ls rest))) : Go p e below s n0 Q nc ns (T.setTop (mkF m pc Ls (.null :: rest))) := by
  subst hN; exact go_back (fun _ j => XS.ifnonnullNo X.here hx rfl hd rfl j) k
theorem g_normI {x z : Int32} (hz : x = z) (k : Go p e below s n0 Q nc ns (T.setTop (mkF m pc Ls (.int z :: rest)))) : Go p e below s n0 Q nc ns (T.setTop (mkF m pc Ls (.int x :: rest))) := hz ▸ k
theorem g_normD {x z : UInt64} (hz : x = z) (k : Go p e below s n0 Q nc ns (T.setTop (mkF m pc Ls (.double z :: rest)))) : Go p e below s n0 Q nc ns (T.setTop (mkF m pc Ls (.double x :: rest))) := hz ▸ k
theorem g_iincC (X : Wk p l e R s m args below meth c n0 T h cells slots) (hx : p.tables.exec = Jvm.exec) {k : Nat} {cst : Int} {x z : Int32} {l' : Array Slot} (hp : pc + 3 = pc') (hd : decode c.code pc = .ok (.iinc k cst, 3)) (hl : Ls[k]? = some (.val (.int x))) (hz : x + Int32.ofInt cst = z) (hl' : storeLocals Ls k (.int z) = some l') (q : Go p e below s n0 Q nc ns (T.setTop (mkF m pc' l' st))) : Go p e below s n0 Q nc ns (T.setTop (mkF m pc Ls st)) := by
  subst hz; exact g_iinc X hx hp hd hl hl' q
theorem g_ldcI (X : Wk p l e R s m args below meth c n0 T h cells slots) (hx : p.tables.exec = Jvm.exec) (hZ : Z.Warmed39 s.vm) {own : String} {index : Nat} {v : Int32} (hown : s.vm.findClass own = some m.cls) (w : (Jvm.Cond.constant own index v).before a0 Z = true) (hp : pc + 2 = pc') (hd : decode c.code pc = .ok (.ldc index, 2))
    (k : Go p e below s n0 Q nc ns (T.setTop (mkF m pc' Ls (.int v :: st)))) : Go p e below s n0 Q nc ns (T.setTop (mkF m pc Ls st)) := by
  subst hp; obtain ⟨_, X, -⟩ := X
  exact go_back (X.ldcInt hx hown (mvT hZ w) (g := mkF m pc Ls st) rfl hd) k
theorem g_ldc2L (X : Wk p l e R s m args below meth c n0 T h cells slots) (hx : p.tables.exec = Jvm.exec) (hZ : Z.Warmed39 s.vm) {own : String} {index : Nat} {v : Int64} (hown : s.vm.findClass own = some m.cls) (w : (Jvm.Cond.constantLong own index v).before a0 Z = true) (hp : pc + 3 = pc') (hd : decode c.code pc = .ok (.ldc2_w index, 3))
    (k : Go p e below s n0 Q nc ns (T.setTop (mkF m pc' Ls (.long v :: st)))) : Go p e below s n0 Q nc ns (T.setTop (mkF m pc Ls st)) := by
  subst hp; obtain ⟨_, X, -⟩ := X
  exact go_back (X.ldc2Long hx hown (mvT hZ w) (g := mkF m pc Ls st) rfl hd) k
theorem g_ldc2D (X : Wk p l e R s m args below meth c n0 T h cells slots) (hx : p.tables.exec = Jvm.exec) (hZ : Z.Warmed39 s.vm) {own : String} {index : Nat} {v : UInt64} (hown : s.vm.findClass own = some m.cls) (w : (Jvm.Cond.constantDouble own index v).before a0 Z = true) (hp : pc + 3 = pc') (hd : decode c.code pc = .ok (.ldc2_w index, 3))
    (k : Go p e below s n0 Q nc ns (T.setTop (mkF m pc' Ls (.double v :: st)))) : Go p e below s n0 Q nc ns (T.setTop (mkF m pc Ls st)) := by
  subst hp; obtain ⟨_, X, -⟩ := X
  exact go_back (X.ldc2DoubleC hx hown (mvT hZ w) (g := mkF m pc Ls st) rfl hd) k
theorem g_getF (X : Wk p l e R s m args below meth c n0 T h cells slots) (hx : p.tables.exec = Jvm.exec) (hZ : Z.Warmed39 s.vm) {own R0 O n d : String} {index : Nat} (hown : s.vm.findClass own = some m.cls) (w : (Jvm.Cond.fieldLink own index R0 n d).before a0 Z = true) (via : Via Z R0 O n d) {a : Addr} {v : Value} (F : Fld Z h a O n d v) (hp : pc + 3 = pc') (hd : decode c.code pc = .ok (.getfield index, 3))
    (k : ∀ T', Wk p l e R s m args below meth c n0 T' h cells slots → Go p e below s n0 Q nc ns (T'.setTop (mkF m pc' Ls (v :: rest)))) : Go p e below s n0 Q nc ns (T.setTop (mkF m pc Ls (.ref a :: rest))) := by
  subst hp; obtain ⟨locs, X, N, eT⟩ := X
  obtain ⟨T', X', e', b⟩ := getF X hx hZ hown (host := "") (Or.inl w) via eT F (g := mkF m pc Ls (.ref a :: rest)) rfl rfl hd
  exact go_back b (k T' ⟨locs, X', N, e'⟩)
theorem g_getS (X : Wk p l e R s m args below meth c n0 T h cells slots) (hx : p.tables.exec = Jvm.exec) (hZ : Z.Warmed39 s.vm) {own R0 O n d : String} {index : Nat} (hown : s.vm.findClass own = some m.cls) (w : (Jvm.Cond.fieldLink own index R0 n d).before a0 Z = true) (via : Via Z R0 O n d) {v : Value} (F : Sta Z h O n d v) (hp : pc + 3 = pc') (hd : decode c.code pc = .ok (.getstatic index, 3))
    (k : ∀ T', Wk p l e R s m args below meth c n0 T' h cells slots → Go p e below s n0 Q nc ns (T'.setTop (mkF m pc' Ls (v :: st)))) : Go p e below s n0 Q nc ns (T.setTop (mkF m pc Ls st)) := by
  subst hp; obtain ⟨locs, X, N, eT⟩ := X
  obtain ⟨T', X', e', b⟩ := getS X hx hZ hown w via eT F (g := mkF m pc Ls st) rfl hd (host := "")
  exact go_back b (k T' ⟨locs, X', N, e'⟩)
theorem g_putF (X : Wk p l e R s m args below meth c n0 T h cells slots) (hx : p.tables.exec = Jvm.exec) (hZ : Z.Warmed39 s.vm) {own R0 O n d C : String} {index kk : Nat} {ty : FieldType} (hown : s.vm.findClass own = some m.cls) (w : (Jvm.Cond.fieldLink own index R0 n d).before a0 Z = true) (via : Via Z R0 O n d) {a : Addr} {v old : Value} (F : Fld Z h a O n d old) (E : Exa Z h a C)
    (L : (Jvm.Cond.lays C O n d).before a0 Z = true ∨ ((Jvm.Cond.laysFinal C O n d).before a0 Z = true ∧ own = O ∧ meth.name = "<init>")) (wi : (Jvm.Cond.instantiable C kk).before a0 Z = true) (hty : parseFieldDescriptor d = some ty) (hn : narrow ty v = v) (hf : fits ty v = true) (hna : n0 ≤ a) (hp : pc + 3 = pc') (hd : decode c.code pc = .ok (.putfield index, 3))
    (k : ∀ T' h', Wk p l e R s m args below meth c n0 T' h' cells slots → Wr h h' a (Jvm.RoadKit.slotOf Z O n d) v → Go p e below s n0 Q nc ns (T'.setTop (mkF m pc' Ls rest))) : Go p e below s n0 Q nc ns (T.setTop (mkF m pc Ls (v :: .ref a :: rest))) := by
  subst hp; obtain ⟨locs, X, N, eT⟩ := X
  obtain ⟨T', h', X', e', W', b⟩ := putF X hx hZ hown (host := "") (Or.inl w) via eT F E L wi hty hn hf (g := mkF m pc Ls (v :: .ref a :: rest)) rfl rfl hd
  exact go_back b (k T' h' ⟨_, X', Fr.snoc X' N hna, e'⟩ W')
theorem g_newO (X : Wk p l e R s m args below meth c n0 T h cells slots) (hx : p.tables.exec = Jvm.exec) (hZ : Z.Warmed39 s.vm) {own C : String} {index n : Nat} (hown : s.vm.findClass own = some m.cls) (w : (Jvm.Cond.classLink own index C).before a0 Z = true) (wi : (Jvm.Cond.instantiable C n).before a0 Z = true) (wz : (Jvm.Cond.initialized C).before a0 Z = true) (hp : pc + 3 = pc') (hd : decode c.code pc = .ok (.new index, 3)) (hc : cells + 1 ≤ R.cells) (hl : slots + n ≤ R.slots)
    (k : ∀ T' h' a, a = h.size → Wk p l e R s m args below meth c n0 T' h' (cells + 1) (slots + n) → Ext h h' → Exa Z h' a C → (∀ {O nm d : String} {ty : FieldType}, Laid Z a0 C O nm d → parseFieldDescriptor d = some ty → Fld Z h' a O nm d (defaultValue ty)) → Go p e below s n0 Q nc ns (T'.setTop (mkF m pc' Ls (.ref a :: st)))) : Go p e below s n0 Q nc ns (T.setTop (mkF m pc Ls st)) := by
  subst hp; obtain ⟨locs, X, N, eT⟩ := X
  obtain ⟨T', h', X', e', E', A', D', -, b⟩ := newO X hx hZ hown w wi wz eT (g := mkF m pc Ls st) rfl hd hc hl
  exact go_back b (k T' h' h.size rfl ⟨_, X', N, e'⟩ E' A' (fun L q => D' L q))
theorem g_initO (X : Wk p l e R s m args below meth c n0 T h cells slots) (hx : p.tables.exec = Jvm.exec) (hZ : Z.Warmed39 s.vm) {own : String} {index : Nat} (hown : s.vm.findClass own = some m.cls) (w1 : (Jvm.Cond.methodLink own index Lib.objectInit).before a0 Z = true) (w2 : (Jvm.Cond.instanceMethod Lib.objectInit).before a0 Z = true) (w3 : (Jvm.Cond.code Lib.objectInit ⟨#[0xb1]⟩ 1 none).before a0 Z = true) {a : Addr} (hsz : Ls.size = c.maxLocals) (hp : pc + 3 = pc') (hd : decode c.code pc = .ok (.invokespecial index, 3)) (hf : 1 ≤ R.frames) {W : Nat} (hW : 2 * 0 + (rest.map fun v => v.category).sum ≤ W) (hl : W + 12 ≤ R.locals)
    (k : ∀ T', Wk p l e R s m args below meth c n0 T' h cells slots → Go p e below s n0 Q nc ns (T'.setTop (mkF m pc' Ls rest))) : Go p e below s n0 Q nc ns (T.setTop (mkF m pc Ls (.ref a :: rest))) := by
  subst hp; obtain ⟨locs, X, N, eT⟩ := X
  obtain ⟨T', X', e', b⟩ := initO X hx hZ hown w1 w2 w3 eT (g := mkF m pc Ls (.ref a :: rest)) rfl hsz rfl hd hf hW hl
  exact go_back b (k T' ⟨_, X', N, e'⟩)
section Calls
variable {y z : MethodName} {bytes : ByteArray} {maxL : Nat} {ret : Option FieldType} {rm : Room} {as : Array Value} {Qc : Option Value → Heap → Prop} {own : String} {index W : Nat} {argsL : List Value} {ps : List FieldType} {r : Option FieldType}
theorem g_callS (X : Wk p l e R s m args below meth c n0 T h cells slots) (hx : p.tables.exec = Jvm.exec) (hZ : Z.Warmed39 s.vm) (hown : s.vm.findClass own = some m.cls) (w1 : (Jvm.Cond.methodLink own index y).before a0 Z = true) (w2 : (Jvm.Cond.static y).before a0 Z = true) (w3 : (Jvm.Cond.initialized y.cls).before a0 Z = true) (w4 : (Jvm.Cond.code y bytes maxL ret).before a0 Z = true)
    (hy : y.cls ≠ "java/lang/invoke/MethodHandle" ∧ y.cls ≠ "java/lang/invoke/VarHandle") (hM : Con l Z n0 y bytes maxL ret [] rm as h Qc) (hlen : parseMethodDescriptor y.desc = some ⟨ps, r⟩) (hl : argsL.length = ps.length) (has : as = argsL.toArray) (hsz : Ls.size = c.maxLocals) (hp : pc + 3 = pc') (hd : decode c.code pc = .ok (.invokestatic index, 3))
    (hst : st = argsL.reverse ++ rest) (hW : 2 * 0 + (rest.map fun v => v.category).sum ≤ W) (hf : rm.frames + 1 ≤ R.frames) (hlo : W + (maxL + 11) + rm.locals ≤ R.locals) (hc : cells + rm.cells ≤ R.cells) (hs : slots + rm.slots ≤ R.slots)
    (k : ∀ v T' h', Wk p l e R s m args below meth c n0 T' h' (cells + rm.cells) (slots + rm.slots) → Qc v h' → Go p e below s n0 Q nc ns (T'.setTop (mkF m pc' Ls (v.toList ++ rest)))) : Go p e below s n0 Q nc ns (T.setTop (mkF m pc Ls st)) := by
  subst hp; subst has; obtain ⟨locs, X, N, eT⟩ := X
  obtain ⟨v, vm1, ⟨U, L1, c1, s1⟩, -, X', ⟨Lc, hQ, l1, y1, z1⟩, b⟩ := Jvm.LawKit.callS X hx hown (mvT hZ w1) (mvT hZ w2) (mvT hZ w3) (mvT hZ w4) hy (backOf (W := W) (Q := fun v h L => Fr n0 L ∧ Qc v h) hM hZ w4 w3 hf hlo) (g := mkF m pc Ls st) rfl hsz (argsL := argsL) (rest := rest) (lenOf hlen hl) hst hW hd (fun _ _ => ⟨rfl, eT, hc, hs⟩)
  dsimp only [Pt.U, Pt.locs, Pt.cells, Pt.slots] at X' l1 y1 z1 b hQ
  subst l1 y1 z1
  exact go_back b (k v U U.heap ⟨_, X', Fr.app N hQ.1, rfl⟩ hQ.2)
theorem g_callI (X : Wk p l e R s m args below meth c n0 T h cells slots) (hx : p.tables.exec = Jvm.exec) (hZ : Z.Warmed39 s.vm) (hown : s.vm.findClass own = some m.cls) (hy1 : y.name = "<init>") (w1 : (Jvm.Cond.methodLink own index y).before a0 Z = true) (w2 : (Jvm.Cond.instanceMethod y).before a0 Z = true) (w3 : (Jvm.Cond.initialized y.cls).before a0 Z = true) (w4 : (Jvm.Cond.code y bytes maxL none).before a0 Z = true)
    (hy : y.cls ≠ "java/lang/invoke/MethodHandle" ∧ y.cls ≠ "java/lang/invoke/VarHandle") {a : Addr} (hM : Con l Z n0 y bytes maxL none [] rm as h Qc) (hlen : parseMethodDescriptor y.desc = some ⟨ps, r⟩) (hl : argsL.length = ps.length) (has : as = (Value.ref a :: argsL).toArray) (hsz : Ls.size = c.maxLocals) (hp : pc + 3 = pc') (hd : decode c.code pc = .ok (.invokespecial index, 3))
    (hst : st = argsL.reverse ++ .ref a :: rest) (hW : 2 * 0 + (rest.map fun v => v.category).sum ≤ W) (hf : rm.frames + 1 ≤ R.frames) (hlo : W + (maxL + 11) + rm.locals ≤ R.locals) (hc : cells + rm.cells ≤ R.cells) (hs : slots + rm.slots ≤ R.slots)
    (k : ∀ v T' h', Wk p l e R s m args below meth c n0 T' h' (cells + rm.cells) (slots + rm.slots) → Qc v h' → Go p e below s n0 Q nc ns (T'.setTop (mkF m pc' Ls (v.toList ++ rest)))) : Go p e below s n0 Q nc ns (T.setTop (mkF m pc Ls st)) := by
  subst hp; subst has; obtain ⟨locs, X, N, eT⟩ := X
  obtain ⟨v, vm1, ⟨U, L1, c1, s1⟩, -, X', ⟨Lc, hQ, l1, y1, z1⟩, b⟩ := X.specialBack hx hy1 hown (mvT hZ w1) (mvT hZ w2) (mvT hZ w4) hy (backOf (W := W) (Q := fun v h L => Fr n0 L ∧ Qc v h) hM hZ w4 w3 hf hlo) (g := mkF m pc Ls st) rfl hsz (Steps.refl _) (a := a) (argsL := argsL) (rest := rest) (lenOf hlen hl) hst hW hd (fun _ _ => ⟨rfl, eT, hc, hs⟩)
  dsimp only [Pt.U, Pt.locs, Pt.cells, Pt.slots] at X' l1 y1 z1 b hQ
  subst l1 y1 z1
  exact go_back (fun _ j => b.trans j) (k v U U.heap ⟨_, X', Fr.app N hQ.1, rfl⟩ hQ.2)
theorem g_callV (X : Wk p l e R s m args below meth c n0 T h cells slots) (hx : p.tables.exec = Jvm.exec) (hZ : Z.Warmed39 s.vm) (hown : s.vm.findClass own = some m.cls) {C : String} (w1 : (Jvm.Cond.methodLink own index y).before a0 Z = true) (w2 : (Jvm.Cond.declares y).before a0 Z = true) (w5 : (Jvm.Cond.selects C y y).before a0 Z = true) (w6 : (Jvm.Cond.instanceMethod y).before a0 Z = true) (w3 : (Jvm.Cond.initialized y.cls).before a0 Z = true) (w4 : (Jvm.Cond.code y bytes maxL ret).before a0 Z = true)
    (hy : y.cls ≠ "java/lang/invoke/MethodHandle" ∧ y.cls ≠ "java/lang/invoke/VarHandle") {a : Addr} (E : Exa Z h a C) (hM : Con l Z n0 y bytes maxL ret [] rm as h Qc) (hlen : parseMethodDescriptor y.desc = some ⟨ps, r⟩) (hl : argsL.length = ps.length) (has : as = (Value.ref a :: argsL).toArray) (hsz : Ls.size = c.maxLocals) (hp : pc + 3 = pc') (hd : decode c.code pc = .ok (.invokevirtual index, 3))
    (hst : st = argsL.reverse ++ .ref a :: rest) (hW : 2 * 0 + (rest.map fun v => v.category).sum ≤ W) (hf : rm.frames + 1 ≤ R.frames) (hlo : W + (maxL + 11) + rm.locals ≤ R.locals) (hc : cells + rm.cells ≤ R.cells) (hs : slots + rm.slots ≤ R.slots)
    (k : ∀ v T' h', Wk p l e R s m args below meth c n0 T' h' (cells + rm.cells) (slots + rm.slots) → Qc v h' → Go p e below s n0 Q nc ns (T'.setTop (mkF m pc' Ls (v.toList ++ rest)))) : Go p e below s n0 Q nc ns (T.setTop (mkF m pc Ls st)) := by
  subst hp; subst has; obtain ⟨locs, X, N, eT⟩ := X
  obtain ⟨cq, kq, qa, qb, qc⟩ := isOf hZ eT E
  obtain ⟨v, vm1, ⟨U, L1, c1, s1⟩, -, X', ⟨Lc, hQ, l1, y1, z1⟩, b⟩ := X.virtualBack hx (y := y) (z := y) hown (mvT hZ w1) (mvT hZ w2) (notFace_of_selects (args := #[]) (mvT hZ w5)) (mvT hZ w5) (mvT hZ w6) hy (backOf (W := W) (Q := fun v h L => Fr n0 L ∧ Qc v h) hM hZ w4 w3 hf hlo) qa qc (g := mkF m pc Ls st) rfl hsz (Steps.refl _) (argsL := argsL) (rest := rest) (lenOf hlen hl) hst hW hd (fun _ _ => ⟨rfl, eT, hc, hs⟩)
  dsimp only [Pt.U, Pt.locs, Pt.cells, Pt.slots] at X' l1 y1 z1 b hQ
  subst l1 y1 z1
  exact go_back (fun _ j => b.trans j) (k v U U.heap ⟨_, X', Fr.app N hQ.1, rfl⟩ hQ.2)
theorem g_nat (X : Wk p l e R s m args below meth c n0 T h cells slots) (hx : p.tables.exec = Jvm.exec) (hZ : Z.Warmed39 s.vm) (hown : s.vm.findClass own = some m.cls) (w1 : (Jvm.Cond.methodLink own index y).before a0 Z = true) (w2 : (Jvm.Cond.static y).before a0 Z = true) (w3 : (Jvm.Cond.initialized y.cls).before a0 Z = true) (w4 : (Jvm.Cond.code y bytes maxL ret).before a0 Z = true)
    (hy : y.cls ≠ "java/lang/invoke/MethodHandle" ∧ y.cls ≠ "java/lang/invoke/VarHandle") {F : Array Value → Prop} {val : Value} (hK : (Jvm.Cond.code y bytes maxL ret).before args s = true → Back l R p e below s args y 3 W (fun A a' => A.cells ≤ R.cells ∧ A.slots ≤ R.slots ∧ F a') (fun A _ v B => v = some val ∧ B = A)) (hlen : parseMethodDescriptor y.desc = some ⟨ps, r⟩) (hl : argsL.length = ps.length) (hsz : Ls.size = c.maxLocals) (hp : pc + 3 = pc') (hd : decode c.code pc = .ok (.invokestatic index, 3))
    (hst : st = argsL.reverse ++ rest) (hW : 2 * 0 + (rest.map fun v => v.category).sum ≤ W) (hc : cells ≤ R.cells) (hs : slots ≤ R.slots) (hF : F argsL.toArray)
    (k : ∀ T', Wk p l e R s m args below meth c n0 T' h cells slots → Go p e below s n0 Q nc ns (T'.setTop (mkF m pc' Ls (val :: rest)))) : Go p e below s n0 Q nc ns (T.setTop (mkF m pc Ls st)) := by
  subst hp; obtain ⟨locs, X, N, eT⟩ := X
  obtain ⟨T', X', e', b⟩ := natS X hx hZ hown w1 w2 w3 w4 hy eT hK (g := mkF m pc Ls st) rfl hsz (argsL := argsL) (rest := rest) (lenOf hlen hl) hst hW hd hc hs hF rfl
  exact go_back b (k T' ⟨_, X', N, e'⟩)
end Calls
theorem g_absD2 (X : Wk p l e R s m args below meth c n0 T h cells slots) (hx : p.tables.exec = Jvm.exec) (hZ : Z.Warmed39 s.vm) {own : String} {index W : Nat} (hown : s.vm.findClass own = some m.cls) (w1 : (Jvm.Cond.methodLink own index Jvm.Free.Fl.Abs.absDN).before a0 Z = true) (w2 : (Jvm.Cond.static Jvm.Free.Fl.Abs.absDN).before a0 Z = true) (w3 : (Jvm.Cond.initialized Jvm.Free.Fl.Abs.absDN.cls).before a0 Z = true) (w4 : (Jvm.Cond.code Jvm.Free.Fl.Abs.absDN Jvm.Free.Fl.Abs.absDCode 2 (some .double)).before a0 Z = true)
    {x : UInt64} (hn : NoNaN64 x) (hsz : Ls.size = c.maxLocals) (hp : pc + 3 = pc') (hd : decode c.code pc = .ok (.invokestatic index, 3)) (hW : 2 * 0 + (rest.map fun v => v.category).sum ≤ W) (hf : 1 ≤ R.frames) (hlo : W + 13 ≤ R.locals) (hc : cells ≤ R.cells) (hs : slots ≤ R.slots)
    (k : ∀ T', Wk p l e R s m args below meth c n0 T' h cells slots → Go p e below s n0 Q nc ns (T'.setTop (mkF m pc' Ls (.double (x &&& 0x7fffffffffffffff) :: rest)))) : Go p e below s n0 Q nc ns (T.setTop (mkF m pc Ls (.double x :: rest))) :=
  g_nat X hx hZ hown w1 w2 w3 w4 (by decide) (fun q => Jvm.Free.Fl.Abs.absD_pays x q hf hlo) (ps := [.double]) (r := some .double) (by decide +kernel) (argsL := [.double x]) rfl hsz hp hd rfl hW hc hs ⟨rfl, hn⟩ k
theorem g_ret (X : Wk p l e R s m args below meth c n0 T h cells slots) (hx : p.tables.exec = Jvm.exec) (hlk : meth.locks = false) {t : FieldType} {w : Value} {i : Instr} (hret : meth.sig.returnType = some t) (hn : narrow t w = w)
    (hi : (i = .ireturn ∧ (t = .int ∨ t = .boolean ∨ t = .byte ∨ t = .char ∨ t = .short) ∧ ∃ z, w = .int z) ∨ (i = .lreturn ∧ t = .long ∧ ∃ z, w = .long z) ∨ (i = .dreturn ∧ t = .double ∧ ∃ z, w = .double z) ∨ (i = .freturn ∧ t = .float ∧ ∃ z, w = .float z) ∨ (i = .areturn ∧ t.isReference = true ∧ w.isRef = true))
    (hd : decode c.code pc = .ok (i, 1)) (hc : cells ≤ nc) (hs : slots ≤ ns) (hQ : Q (some w) h) : Go p e below s n0 Q nc ns (T.setTop (mkF m pc Ls (w :: rest))) := by
  obtain ⟨locs, X, N, eT⟩ := X
  obtain ⟨fs, hr, hrun, hended, hW, hsame⟩ := X.leave (v := some w) (fun q => by rw [hret] at q; cases q) hlk
  exact ⟨_, _, retOut X hx hret hn hi hd hr, hrun, hended, _, _, rfl, ⟨N, by show Q (some w) T.heap; rw [eT]; exact hQ⟩, ⟨_, rfl⟩, hW, hsame.mono hc hs⟩
theorem g_retI (X : Wk p l e R s m args below meth c n0 T h cells slots) (hx : p.tables.exec = Jvm.exec) (hlk : meth.locks = false) {z : Int32} (hret : meth.sig.returnType = some .int) (hd : decode c.code pc = .ok (.ireturn, 1)) (hc : cells ≤ nc) (hs : slots ≤ ns) (hQ : Q (some (.int z)) h) : Go p e below s n0 Q nc ns (T.setTop (mkF m pc Ls (.int z :: rest))) :=
  g_ret X hx hlk hret rfl (Or.inl ⟨rfl, Or.inl rfl, z, rfl⟩) hd hc hs hQ
theorem g_retZ (X : Wk p l e R s m args below meth c n0 T h cells slots) (hx : p.tables.exec = Jvm.exec) (hlk : meth.locks = false) {z : Int32} (hret : meth.sig.returnType = some .boolean) (hz : z = 0 ∨ z = 1) (hd : decode c.code pc = .ok (.ireturn, 1)) (hc : cells ≤ nc) (hs : slots ≤ ns) (hQ : Q (some (.int z)) h) : Go p e below s n0 Q nc ns (T.setTop (mkF m pc Ls (.int z :: rest))) :=
  g_ret X hx hlk hret (by rcases hz with rfl | rfl <;> rfl) (Or.inl ⟨rfl, Or.inr (Or.inl rfl), z, rfl⟩) hd hc hs hQ
theorem g_retL (X : Wk p l e R s m args below meth c n0 T h cells slots) (hx : p.tables.exec = Jvm.exec) (hlk : meth.locks = false) {z : Int64} (hret : meth.sig.returnType = some .long) (hd : decode c.code pc = .ok (.lreturn, 1)) (hc : cells ≤ nc) (hs : slots ≤ ns) (hQ : Q (some (.long z)) h) : Go p e below s n0 Q nc ns (T.setTop (mkF m pc Ls (.long z :: rest))) :=
  g_ret X hx hlk hret rfl (Or.inr (Or.inl ⟨rfl, rfl, z, rfl⟩)) hd hc hs hQ
theorem g_retD (X : Wk p l e R s m args below meth c n0 T h cells slots) (hx : p.tables.exec = Jvm.exec) (hlk : meth.locks = false) {z : UInt64} (hret : meth.sig.returnType = some .double) (hd : decode c.code pc = .ok (.dreturn, 1)) (hc : cells ≤ nc) (hs : slots ≤ ns) (hQ : Q (some (.double z)) h) : Go p e below s n0 Q nc ns (T.setTop (mkF m pc Ls (.double z :: rest))) :=
  g_ret X hx hlk hret rfl (Or.inr (Or.inr (Or.inl ⟨rfl, rfl, z, rfl⟩))) hd hc hs hQ
theorem g_retV (X : Wk p l e R s m args below meth c n0 T h cells slots) (hx : p.tables.exec = Jvm.exec) (hlk : meth.locks = false) (hret : meth.sig.returnType = none) (hd : decode c.code pc = .ok (.return_, 1)) (hc : cells ≤ nc) (hs : slots ≤ ns) (hQ : Q none h) : Go p e below s n0 Q nc ns (T.setTop (mkF m pc Ls [])) := by
  obtain ⟨locs, X, N, eT⟩ := X
  obtain ⟨fs, hr, hrun, hended, hW, hsame⟩ := X.leave (v := none) (fun _ => rfl) hlk
  exact ⟨_, _, X.returnOut hx hret hd hr, hrun, hended, _, _, rfl, ⟨N, by show Q none T.heap; rw [eT]; exact hQ⟩, ⟨_, rfl⟩, hW, hsame.mono hc hs⟩
end OwnKit
theorem d1_0 : decode prog_119_method_6_code 0 = .ok (.dconst 0, 1) := by decide +kernel
theorem d1_1 : decode prog_119_method_6_code 1 = .ok (.dstore 4, 2) := by decide +kernel
theorem d1_3 : decode prog_119_method_6_code 3 = .ok (.dload_n 0, 1) := by decide +kernel
theorem d1_4 : decode prog_119_method_6_code 4 = .ok (.dconst 0, 1) := by decide +kernel
theorem d1_5 : decode prog_119_method_6_code 5 = .ok (.dcmp .l, 1) := by decide +kernel
theorem d1_6 : decode prog_119_method_6_code 6 = .ok (.ifCond .le 26, 3) := by decide +kernel
theorem d1_9 : decode prog_119_method_6_code 9 = .ok (.dload_n 2, 1) := by decide +kernel
theorem d1_10 : decode prog_119_method_6_code 10 = .ok (.dconst 0, 1) := by decide +kernel
theorem d1_11 : decode prog_119_method_6_code 11 = .ok (.dcmp .l, 1) := by decide +kernel
theorem d1_12 : decode prog_119_method_6_code 12 = .ok (.ifCond .le 20, 3) := by decide +kernel
theorem d1_15 : decode prog_119_method_6_code 15 = .ok (.dload_n 0, 1) := by decide +kernel
theorem d1_16 : decode prog_119_method_6_code 16 = .ok (.dload_n 2, 1) := by decide +kernel
theorem d1_17 : decode prog_119_method_6_code 17 = .ok (.dmul, 1) := by decide +kernel
theorem d1_18 : decode prog_119_method_6_code 18 = .ok (.ldc2_w 43, 3) := by decide +kernel
theorem d1_21 : decode prog_119_method_6_code 21 = .ok (.dload_n 0, 1) := by decide +kernel
theorem d1_22 : decode prog_119_method_6_code 22 = .ok (.dmul, 1) := by decide +kernel
theorem d1_23 : decode prog_119_method_6_code 23 = .ok (.ldc2_w 45, 3) := by decide +kernel
theorem d1_26 : decode prog_119_method_6_code 26 = .ok (.dload_n 2, 1) := by decide +kernel
theorem d1_27 : decode prog_119_method_6_code 27 = .ok (.dmul, 1) := by decide +kernel
theorem d1_28 : decode prog_119_method_6_code 28 = .ok (.dadd, 1) := by decide +kernel
theorem d1_29 : decode prog_119_method_6_code 29 = .ok (.ddiv, 1) := by decide +kernel
theorem d1_30 : decode prog_119_method_6_code 30 = .ok (.dstore 4, 2) := by decide +kernel
theorem d1_32 : decode prog_119_method_6_code 32 = .ok (.dload 4, 2) := by decide +kernel
theorem d1_34 : decode prog_119_method_6_code 34 = .ok (.dreturn, 1) := by decide +kernel
theorem pd_0 : parseMethodDescriptor "(DD)D" = some ⟨[.double, .double], some .double⟩ := by decide +kernel
section OwnFP
open Jvm.FP Jvm.FP.Core Jvm.Free.Fl
/-- a double's value, counted in the format's least numbers (2^-1074) -/
def dv (x : UInt64) : Int := zval b64 (val64 x)
/-- what the whole number 1 counts -/
def oneU : Int := (one64 : Int)
/-- z least numbers are a finite double -/
def Rep (z : Int) : Prop := ∃ V : Datum, FP.Core.fits b64 V ∧ (∃ s c q, V = .fin s c q) ∧ zval b64 V = z
theorem oneU_pos : 0 < oneU := by have := one64_pos; unfold oneU; omega
theorem rep_neg {z : Int} (h : Rep z) : Rep (-z) := by
  obtain ⟨V, h1, ⟨s, c, q, rfl⟩, h3⟩ := h
  exact ⟨negate (.fin s c q), negate_fits h1, ⟨_, _, _, rfl⟩, by rw [zval_negate, h3]⟩
theorem rep_nat {c j : Nat} (hc : c < 2 ^ 53) (hj : j ≤ 2045) : Rep ((c * 2 ^ j : Nat) : Int) := by
  have hm : b64.qmax = 971 := by decide
  obtain ⟨c', q', h1, h2⟩ := round_exact good_b64 false (c := c) (q := -1074 + (j : Int)) hc (by rw [qmin_b64]; omega) (by rw [hm]; omega)
  refine ⟨round b64 (.fin false c (-1074 + (j : Int))), round_fits good_b64 _, ⟨_, _, _, h1⟩, ?_⟩
  rw [h1]
  show signed false (inUnits c' q' b64.qmin) = _
  rw [h2]
  show ((inUnits c (-1074 + (j : Int)) b64.qmin : Nat) : Int) = _
  unfold inUnits
  rw [qmin_b64, show (-1074 + (j : Int) - -1074).toNat = j by omega]
theorem rep_int {z : Int} {c j : Nat} (hc : c < 2 ^ 53) (hj : j ≤ 2045) (h : z.natAbs = c * 2 ^ j) : Rep z := by
  have q := rep_nat hc hj
  rw [← h] at q
  rcases Int.natAbs_eq z with e | e
  · rw [e]; exact q
  · rw [e]; exact rep_neg q
theorem rep_dv {x : UInt64} (h : DFin x) : Rep (dv x) := ⟨val64 x, val64_fits x, h, rfl⟩
theorem squeeze {d : Datum} (hf : FP.Core.fits b64 d) (hn : d ≠ .nan) {z : Int} (hr : Rep z) (h1 : ∀ V, FP.Core.fits b64 V → V ≠ .nan → zval b64 V = z → zval b64 d ≤ zval b64 V) (h2 : ∀ V, FP.Core.fits b64 V → V ≠ .nan → zval b64 V = z → zval b64 V ≤ zval b64 d) :
    (∃ s c q, d = .fin s c q) ∧ zval b64 d = z := by
  obtain ⟨V, v1, ⟨s, c, q, rfl⟩, v3⟩ := hr
  have e1 := h1 _ v1 (by simp) v3
  have e2 := h2 _ v1 (by simp) v3
  have e : zval b64 d = z := by omega
  refine ⟨?_, e⟩
  have ht := zmag_lt_top good_b64 v1
  cases d with
  | nan => exact absurd rfl hn
  | fin s' c' q' => exact ⟨_, _, _, rfl⟩
  | inf t =>
    exfalso
    rw [← v3] at e
    have a1 : (zval b64 (.inf t)).natAbs = b64.tails * 2 ^ (b64.exps - 2) := natAbs_signed _ _
    have a2 : (zval b64 (.fin s c q)).natAbs = inUnits c q b64.qmin := natAbs_signed _ _
    rw [e, a2] at a1
    omega
theorem add_le {x y : UInt64} (hx : DFin x) (hy : DFin y) {V : Datum} (fV : FP.Core.fits b64 V) (hV : V ≠ .nan) (h : dv x + dv y ≤ zval b64 V) : dv (FP.dadd x y) ≤ zval b64 V := by
  unfold dv; rw [val64_dadd]; exact sum_le good_b64 hx hy (val64_fits x) (val64_fits y) fV hV h
theorem add_ge {x y : UInt64} (hx : DFin x) (hy : DFin y) {V : Datum} (fV : FP.Core.fits b64 V) (hV : V ≠ .nan) (h : zval b64 V ≤ dv x + dv y) : zval b64 V ≤ dv (FP.dadd x y) := by
  unfold dv; rw [val64_dadd]; exact sum_ge good_b64 hx hy (val64_fits x) (val64_fits y) fV hV h
theorem add_exact {x y : UInt64} (hx : DFin x) (hy : DFin y) {z : Int} (h : dv x + dv y = z) (hr : Rep z) : DFin (FP.dadd x y) ∧ dv (FP.dadd x y) = z :=
  squeeze (val64_fits _) ((notNaN_iff _).mp (dadd_out hx.notNaN hy)) hr (fun V f n e => add_le hx hy f n (by omega)) (fun V f n e => add_ge hx hy f n (by omega))
theorem neg_fin {x : UInt64} (hx : DFin x) : DFin (FP.dneg x) ∧ dv (FP.dneg x) = -dv x := by
  obtain ⟨s, c, q, h⟩ := hx
  unfold dv DFin; rw [FP.val64_dneg, zval_negate, h]
  exact ⟨⟨_, _, _, rfl⟩, rfl⟩
theorem sub_dneg {x y : UInt64} (hy : DFin y) : FP.dsub x y = FP.dadd x (FP.dneg y) := by
  rw [FP.dneg_core hy.notNaN]; exact dsub_eq x y
theorem sub_exact {x y : UInt64} (hx : DFin x) (hy : DFin y) {z : Int} (h : dv x - dv y = z) (hr : Rep z) : DFin (FP.dsub x y) ∧ dv (FP.dsub x y) = z := by
  rw [sub_dneg hy]
  exact add_exact hx (neg_fin hy).1 (by rw [(neg_fin hy).2]; omega) hr
theorem mul_units {x y : UInt64} (hx : DFin x) (hy : DFin y) : ∃ s c q, exactProduct (val64 x) (val64 y) = .fin s c q ∧ 2 * b64.qmin ≤ q ∧ signed s (inUnits c q (2 * b64.qmin)) = dv x * dv y := by
  obtain ⟨s, c, q, h1⟩ := hx
  obtain ⟨t, d, r, h2⟩ := hy
  have f1 := val64_fits x
  have f2 := val64_fits y
  unfold dv
  rw [h1] at f1 ⊢
  rw [h2] at f2 ⊢
  obtain ⟨p1, p2, p3⟩ := product_units f1 f2
  refine ⟨_, _, _, p1, p2, ?_⟩
  rw [p3, signed_xor]
  rfl
theorem two_qmin : 2 ^ (b64.qmin - 2 * b64.qmin).toNat = one64 := by rw [← pow_qmin64]; congr 1
theorem mul_le {x y : UInt64} (hx : DFin x) (hy : DFin y) {V : Datum} (fV : FP.Core.fits b64 V) (hV : V ≠ .nan) (h : dv x * dv y ≤ zval b64 V * oneU) : dv (FP.dmul x y) ≤ zval b64 V := by
  obtain ⟨s, c, q, h1, h2, h3⟩ := mul_units hx hy
  show zval b64 (val64 (FP.dmul x y)) ≤ _
  rw [val64_dmul, h1]
  refine zval_round_le good_b64 fV hV (e0 := 2 * b64.qmin) (by rw [qmin_b64]; omega) h2 ?_
  rw [h3, two_qmin]; exact h
theorem mul_ge {x y : UInt64} (hx : DFin x) (hy : DFin y) {V : Datum} (fV : FP.Core.fits b64 V) (hV : V ≠ .nan) (h : zval b64 V * oneU ≤ dv x * dv y) : zval b64 V ≤ dv (FP.dmul x y) := by
  obtain ⟨s, c, q, h1, h2, h3⟩ := mul_units hx hy
  show _ ≤ zval b64 (val64 (FP.dmul x y))
  rw [val64_dmul, h1]
  refine zval_round_ge good_b64 fV hV (e0 := 2 * b64.qmin) (by rw [qmin_b64]; omega) h2 ?_
  rw [h3, two_qmin]; exact h
theorem mul_exact {x y : UInt64} (hx : DFin x) (hy : DFin y) {z : Int} (h : dv x * dv y = z * oneU) (hr : Rep z) : DFin (FP.dmul x y) ∧ dv (FP.dmul x y) = z :=
  squeeze (val64_fits _) ((notNaN_iff _).mp (dmul_out hx hy)) hr (fun V f n e => mul_le hx hy f n (by rw [e, h]; exact Int.le_refl _)) (fun V f n e => mul_ge hx hy f n (by rw [e, h]; exact Int.le_refl _))
theorem dv_zero_iff {x : UInt64} (hx : DFin x) : DZero x ↔ dv x = 0 := by
  obtain ⟨s, c, q, h⟩ := hx
  constructor
  · intro hz; exact hz.zval
  · intro hz; exact (zero_bits2 x).mpr ((zval_eq_zero (by rw [h]; simp)).mp hz)
theorem div_units {x y : UInt64} (hx : DFin x) (hy : DFin y) (h0 : dv y ≠ 0) : ∃ (s t : Bool) (c d : Nat) (q r : Int), val64 (FP.ddiv x y) = roundRatio b64 (s != t) c d (q - r) ∧ 0 < d ∧ b64.qmin ≤ q ∧ b64.qmin ≤ r ∧ dv x = signed s (inUnits c q b64.qmin) ∧ dv y = signed t (inUnits d r b64.qmin) := by
  obtain ⟨s, c, q, h1⟩ := hx
  obtain ⟨t, d, r, h2⟩ := hy
  have f1 := val64_fits x
  have f2 := val64_fits y
  have hd : d ≠ 0 := by
    intro e; apply h0; unfold dv; rw [h2, e]; show signed t (inUnits 0 r b64.qmin) = 0; unfold inUnits; rw [Nat.zero_mul, signed_zero]
  refine ⟨s, t, c, d, q, r, ?_, Nat.pos_of_ne_zero hd, ?_, ?_, ?_, ?_⟩
  · rw [val64_ddiv, h1, h2]; show (if d = 0 then _ else _) = _; rw [if_neg hd]
  · rw [h1] at f1; exact f1.2.1
  · rw [h2] at f2; exact f2.2.1
  · unfold dv; rw [h1]; rfl
  · unfold dv; rw [h2]; rfl
theorem div_scale {c d : Nat} {q r : Int} (h1 : b64.qmin ≤ q) (h2 : b64.qmin ≤ r) (v : Nat) :
    inUnits c (q - r) (2 * b64.qmin - r) = inUnits c q b64.qmin * one64 ∧ v * 2 ^ (b64.qmin - (2 * b64.qmin - r)).toNat * d = v * inUnits d r b64.qmin := by
  unfold inUnits
  rw [← pow_qmin64]
  rw [qmin_b64] at h1 h2 ⊢
  constructor
  · rw [show (q - r - (2 * -1074 - r)).toNat = (q - -1074).toNat + (- -1074 : Int).toNat by omega, Nat.pow_add, Nat.mul_assoc]
  · rw [show (-1074 - (2 * -1074 - r)).toNat = (r - -1074).toNat by omega, Nat.mul_assoc, Nat.mul_comm (2 ^ _) d]
/-- a quotient of two that are not below nought, by monotony -/
theorem div_le {x y : UInt64} (hx : DFin x) (hy : DFin y) (px : 0 ≤ dv x) (py : 0 < dv y) {V : Datum} (fV : FP.Core.fits b64 V) (hV : V ≠ .nan) (h : dv x * oneU ≤ zval b64 V * dv y) : dv (FP.ddiv x y) ≤ zval b64 V := by
  obtain ⟨s, t, c, d, q, r, e, hd, hq, hr, ex, ey⟩ := div_units hx hy (by omega)
  show zval b64 (val64 (FP.ddiv x y)) ≤ _
  rw [e]
  have nv : 0 ≤ zval b64 V := by
    rcases Int.lt_or_le (zval b64 V) 0 with g | g
    · have := oneU_pos
      have a1 : 0 ≤ dv x * oneU := Int.mul_nonneg px (by omega)
      have a2 : zval b64 V * dv y < 0 := Int.mul_neg_of_neg_of_pos g py
      omega
    · exact g
  obtain ⟨k1, k2⟩ := div_scale (c := c) (d := d) hq hr (zmag b64 V)
  have ax : dv x = (inUnits c q b64.qmin : Int) := by
    rw [ex] at px ⊢; unfold signed at px ⊢; split <;> rename_i g <;> simp only [g, if_true] at px <;> omega
  have ay : dv y = (inUnits d r b64.qmin : Int) := by
    rw [ey] at py ⊢; unfold signed at py ⊢; split <;> rename_i g <;> simp only [g, if_true] at py <;> omega
  have av : zval b64 V = (zmag b64 V : Int) := by
    unfold zval at nv ⊢; unfold signed at nv ⊢; split <;> rename_i g <;> simp only [g, if_true] at nv <;> omega
  have hz := zmag_roundRatio_le good_b64 (s := (s != t)) (A := c) (B := d) (e := q - r) (e0 := 2 * b64.qmin - r) hd fV hV (by omega) (by rw [qmin_b64] at hq ⊢; omega) (by
    rw [k1, k2]
    rw [ax, ay, av] at h
    unfold oneU at h
    exact_mod_cast h)
  rw [av]
  unfold zval signed
  split <;> omega
theorem div_ge {x y : UInt64} (hx : DFin x) (hy : DFin y) (px : 0 ≤ dv x) (py : 0 < dv y) (hs : ∀ s c q, val64 x = .fin s c q → s = false) (hs' : ∀ s c q, val64 y = .fin s c q → s = false) {V : Datum} (fV : FP.Core.fits b64 V) (h : zval b64 V * dv y ≤ dv x * oneU) : zval b64 V ≤ dv (FP.ddiv x y) := by
  obtain ⟨s, c, q, h1⟩ := hx
  obtain ⟨t, d, r, h2⟩ := hy
  have es := hs _ _ _ h1
  have et := hs' _ _ _ h2
  subst es et
  have f1 := val64_fits x
  have f2 := val64_fits y
  have ax : dv x = (inUnits c q b64.qmin : Int) := by unfold dv; rw [h1]; rfl
  have ay : dv y = (inUnits d r b64.qmin : Int) := by unfold dv; rw [h2]; rfl
  have hd : d ≠ 0 := by
    intro e; rw [ay, e] at py; unfold inUnits at py; rw [Nat.zero_mul] at py; exact absurd py (by decide)
  rw [h1] at f1
  rw [h2] at f2
  show _ ≤ zval b64 (val64 (FP.ddiv x y))
  rw [val64_ddiv, h1, h2]
  show _ ≤ zval b64 (if d = 0 then _ else _)
  rw [if_neg hd]
  obtain ⟨k1, k2⟩ := div_scale (c := c) (d := d) f1.2.1 f2.2.1 (zmag b64 V)
  have hz := fun g => zmag_roundRatio_ge good_b64 (s := (false != false)) (A := c) (B := d) (e := q - r) (e0 := 2 * b64.qmin - r) (V := V) (Nat.pos_of_ne_zero hd) fV (by have := f2.2.1; omega) (by have := f1.2.1; rw [qmin_b64] at this ⊢; omega) g
  have e : zval b64 (roundRatio b64 (false != false) c d (q - r)) = (zmag b64 (roundRatio b64 (false != false) c d (q - r)) : Int) := by
    unfold zval; rw [sgn_roundRatio]; rfl
  rw [e]
  rcases Int.lt_or_le (zval b64 V) 0 with g | g
  · omega
  · have av : zval b64 V = (zmag b64 V : Int) := by
      unfold zval at g ⊢; unfold signed at g ⊢; split <;> rename_i w <;> simp only [w, if_true] at g <;> omega
    rw [av] at h ⊢
    have := hz (by
      rw [k1, k2]
      rw [ax, ay] at h
      unfold oneU at h
      exact_mod_cast h)
    omega
theorem noNaN_of_fin {x : UInt64} (h : DFin x) : NoNaN64 x := (fin64_core.mpr h).noNaN
theorem dint_fin {i : Int} {x : UInt64} (h : DInt i x) : DFin x ∧ dv x = i * oneU := by
  refine ⟨?_, DInt_zval h⟩
  unfold DInt at h
  cases hv : val64 x with
  | nan => rw [hv] at h; exact h.elim
  | inf s => rw [hv] at h; exact h.elim
  | fin s c q => exact ⟨s, c, q, hv⟩
theorem cmp_dv {x y : UInt64} (hx : DFin x) (hy : DFin y) : FP.dcmp x y = some (compare (dv x) (dv y)) := dcmp_zval hx.ne_nan hy.ne_nan
end OwnFP
section OwnProb
open Jvm.FP Jvm.FP.Core Jvm.Free.Fl
theorem fin_of_bound {q : UInt64} (hn : FP.dIsNaN q = false) {s : Bool} {c : Nat} {e : Int} (fV : FP.Core.fits b64 (.fin s c e)) (h : (dv q).natAbs ≤ (zval b64 (.fin s c e)).natAbs) : DFin q := by
  have ht := zmag_lt_top good_b64 fV
  have hm := (notNaN_iff q).mp hn
  unfold dv at h
  unfold DFin
  cases hv : val64 q with
  | nan => exact absurd hv hm
  | fin s' c' q' => exact ⟨_, _, _, rfl⟩
  | inf t =>
    exfalso
    rw [hv] at h
    have a1 : (zval b64 (.inf t)).natAbs = b64.tails * 2 ^ (b64.exps - 2) := natAbs_signed _ _
    have a2 : (zval b64 (.fin s c e)).natAbs = inUnits c e b64.qmin := natAbs_signed _ _
    rw [a1, a2] at h
    omega
theorem i2d_sign {k : Int32} (h : 0 ≤ k.toInt) {s : Bool} {c : Nat} {q : Int} (e : val64 (FP.i2d k) = .fin s c q) : s = false := by
  obtain ⟨c', q', e'⟩ := l2d_shape k.toInt64
  rw [show FP.i2d k = FP.l2d k.toInt64 from i2d_l2d k] at e
  have e2 := e.symm.trans e'
  injection e2 with e3
  rw [e3]
  have := c_i2l k
  exact decide_eq_false (by omega)
theorem one_dv : DFin 4607182418800017408 ∧ dv 4607182418800017408 = oneU := by
  have h := dint_fin dint_one
  exact ⟨h.1, by rw [h.2]; omega⟩
theorem zero_dv : DFin 0 ∧ dv 0 = 0 := ⟨⟨_, _, _, val64_zero⟩, zval64_zero⟩
theorem own_one64 : 4294967296 ≤ oneU := by
  have h : 4294967296 ≤ one64 := Nat.le_trans (by decide : 4294967296 ≤ 2 ^ 32) (Nat.pow_le_pow_right (by decide) (by decide))
  have g : ∀ n : Nat, 4294967296 ≤ n → (4294967296 : Int) ≤ (n : Int) := fun n h => by omega
  exact g one64 h
theorem own_quot {k d : Int32} (h0 : 0 ≤ k.toInt) (h1 : k.toInt ≤ d.toInt) (h2 : 0 < d.toInt) :
    DFin (FP.ddiv (FP.i2d k) (FP.i2d d)) ∧ 0 ≤ dv (FP.ddiv (FP.i2d k) (FP.i2d d)) ∧ dv (FP.ddiv (FP.i2d k) (FP.i2d d)) ≤ oneU ∧ (0 < k.toInt → 0 < dv (FP.ddiv (FP.i2d k) (FP.i2d d))) ∧ (k.toInt = 0 → dv (FP.ddiv (FP.i2d k) (FP.i2d d)) = 0) := by
  obtain ⟨fx, ex⟩ : DFin (FP.i2d k) ∧ dv (FP.i2d k) = k.toInt * oneU := dint_fin (i2d_int k)
  obtain ⟨fy, ey⟩ : DFin (FP.i2d d) ∧ dv (FP.i2d d) = d.toInt * oneU := dint_fin (i2d_int d)
  have hU := own_one64
  have py : 0 < dv (FP.i2d d) := by rw [ey]; exact Int.mul_pos h2 (by omega)
  have px : 0 ≤ dv (FP.i2d k) := by rw [ex]; exact Int.mul_nonneg h0 (by omega)
  obtain ⟨⟨s1, c1, q1, v1⟩, w1⟩ := one_dv
  have f1 := val64_fits 4607182418800017408
  have z1 : zval b64 (val64 4607182418800017408) = oneU := w1
  have z0 : zval b64 (val64 0) = 0 := zero_dv.2
  have hn : FP.dIsNaN (FP.ddiv (FP.i2d k) (FP.i2d d)) = false := ddiv_out fx.notNaN fy (fun z => by rw [dv_zero_iff fy] at z; omega)
  have b1 : dv (FP.ddiv (FP.i2d k) (FP.i2d d)) ≤ oneU := by
    rw [← z1]
    refine div_le fx fy px py f1 (by rw [v1]; simp) ?_
    rw [z1, ex, ey, Int.mul_comm oneU]
    exact Int.mul_le_mul_of_nonneg_right (Int.mul_le_mul_of_nonneg_right h1 (by omega)) (by omega)
  have b0 : 0 ≤ dv (FP.ddiv (FP.i2d k) (FP.i2d d)) := by
    have := div_ge fx fy px py (fun _ _ _ e => i2d_sign h0 e) (fun _ _ _ e => i2d_sign (by omega) e) (val64_fits 0) (by rw [z0, Int.zero_mul]; exact Int.mul_nonneg px (by omega))
    rw [z0] at this; exact this
  refine ⟨?_, b0, b1, fun hk => ?_, fun hk => ?_⟩
  · rw [v1] at f1 z1
    refine fin_of_bound hn f1 ?_
    rw [z1]; omega
  · have z2 : zval b64 (val64 1) = 1 := by decide +kernel
    have := div_ge fx fy px py (fun _ _ _ e => i2d_sign h0 e) (fun _ _ _ e => i2d_sign (by omega) e) (val64_fits 1) (by
      rw [z2, Int.one_mul, ex, ey]
      have hd := rng32 d
      exact Int.mul_le_mul_of_nonneg_right (show d.toInt ≤ k.toInt * oneU by
        have : oneU ≤ k.toInt * oneU := by
          have := Int.mul_le_mul_of_nonneg_right (show (1 : Int) ≤ k.toInt by omega) (show 0 ≤ oneU by omega)
          omega
        omega) (by omega))
    rw [z2] at this; omega
  · have := div_le fx fy px py (val64_fits 0) (by rw [val64_zero]; simp) (by rw [z0, ex, hk]; omega)
    rw [z0] at this; omega
/-- what dcmp pushes, by the values -/
theorem cmpV_lt {x y : UInt64} (hx : DFin x) (hy : DFin y) (h : dv x < dv y) (op : CmpOp) : cmpValue (FP.dcmp x y) op = -1 := by rw [cmp_dv hx hy, (compare_lt_iff _ _).mpr h]; rfl
theorem cmpV_eq {x y : UInt64} (hx : DFin x) (hy : DFin y) (h : dv x = dv y) (op : CmpOp) : cmpValue (FP.dcmp x y) op = 0 := by rw [cmp_dv hx hy, (compare_eq_iff _ _).mpr h]; rfl
theorem cmpV_gt {x y : UInt64} (hx : DFin x) (hy : DFin y) (h : dv y < dv x) (op : CmpOp) : cmpValue (FP.dcmp x y) op = 1 := by rw [cmp_dv hx hy, (compare_gt_iff _ _).mpr h]; rfl
theorem cmpV_notlt {x y : UInt64} (hx : DFin x) (hy : DFin y) (h : dv y ≤ dv x) (op : CmpOp) : ¬ cmpValue (FP.dcmp x y) op < 0 := by
  rcases Int.lt_or_eq_of_le h with q | q
  · rw [cmpV_gt hx hy q]; decide
  · rw [cmpV_eq hx hy q.symm]; decide
theorem cmpV_notgt {x y : UInt64} (hx : DFin x) (hy : DFin y) (h : dv x ≤ dv y) (op : CmpOp) : ¬ (0 : Int32) < cmpValue (FP.dcmp x y) op := by
  rcases Int.lt_or_eq_of_le h with q | q
  · rw [cmpV_lt hx hy q]; decide
  · rw [cmpV_eq hx hy q]; decide
end OwnProb
section OwnDy
open Jvm.FP Jvm.FP.Core Jvm.Free.Fl
/-- 2^j, as an Int -/
def pw (j : Nat) : Int := ((2 ^ j : Nat) : Int)
theorem pw_mul (i j : Nat) : pw i * pw j = pw (i + j) := by unfold pw; rw [Nat.pow_add]; exact (Int.natCast_mul _ _).symm
theorem pw_pos (j : Nat) : 0 < pw j := by unfold pw; have := Nat.two_pow_pos j; omega
theorem pw_abs (j : Nat) : (pw j).natAbs = 2 ^ j := by unfold pw; exact Int.natAbs_natCast _
theorem oneU_pw : oneU = pw 1074 := rfl
/-- the double x is n * 2^j least numbers (n whole: j = 1074) -/
def Dy (n : Int) (j : Nat) (x : UInt64) : Prop := DFin x ∧ dv x = n * pw j
theorem dy_int {i : Int} {x : UInt64} (h : DInt i x) : Dy i 1074 x := by
  have q := dint_fin h
  exact ⟨q.1, by rw [q.2, oneU_pw]⟩
theorem rep_pw {n : Int} {j : Nat} (hn : n.natAbs < 2 ^ 53) (hj : j ≤ 2045) : Rep (n * pw j) := rep_int hn hj (by rw [Int.natAbs_mul, pw_abs])
theorem dy_add {n m : Int} {j : Nat} {x y : UInt64} (hx : Dy n j x) (hy : Dy m j y) (h : (n + m).natAbs < 2 ^ 53) (hj : j ≤ 2045) : Dy (n + m) j (FP.dadd x y) :=
  add_exact hx.1 hy.1 (by rw [hx.2, hy.2, Int.add_mul]) (rep_pw h hj)
theorem dy_sub {n m : Int} {j : Nat} {x y : UInt64} (hx : Dy n j x) (hy : Dy m j y) (h : (n - m).natAbs < 2 ^ 53) (hj : j ≤ 2045) : Dy (n - m) j (FP.dsub x y) :=
  sub_exact hx.1 hy.1 (by rw [hx.2, hy.2, Int.sub_mul]) (rep_pw h hj)
theorem dy_neg {n : Int} {j : Nat} {x : UInt64} (hx : Dy n j x) : Dy (-n) j (FP.dneg x) :=
  ⟨(neg_fin hx.1).1, by rw [(neg_fin hx.1).2, hx.2, Int.neg_mul]⟩
theorem dy_mul {n m : Int} {i j k : Nat} {x y : UInt64} (hx : Dy n i x) (hy : Dy m j y) (hk : i + j = k + 1074) (h : (n * m).natAbs < 2 ^ 53) (hj : k ≤ 2045) : Dy (n * m) k (FP.dmul x y) :=
  mul_exact hx.1 hy.1 (by
    have e : pw i * pw j = pw k * oneU := by rw [oneU_pw, pw_mul, pw_mul, hk]
    rw [hx.2, hy.2, Int.mul_assoc (n * m), ← e]
    ac_rfl) (rep_pw h hj)
theorem dy_shift {n : Int} {j : Nat} {x : UInt64} (t : Nat) (h : Dy n (j + t) x) : Dy (n * pw t) j x := by
  refine ⟨h.1, ?_⟩
  rw [h.2, ← pw_mul]
  ac_rfl
theorem compare_pw (n m : Int) (j : Nat) : compare (n * pw j) (m * pw j) = compare n m := compare_mul_pos _ _ _ (pw_pos j)
theorem dy_cmp {n m : Int} {j : Nat} {x y : UInt64} (hx : Dy n j x) (hy : Dy m j y) : FP.dcmp x y = some (compare n m) := by
  rw [cmp_dv hx.1 hy.1, hx.2, hy.2, compare_pw]
theorem signed_cases (s : Bool) (n : Nat) : signed s n = (n : Int) ∨ signed s n = -(n : Int) := by cases s <;> simp [signed]
/-- an exact quotient -/
theorem div_exact {x y : UInt64} (hx : DFin x) (hy : DFin y) (h0 : dv y ≠ 0) {z : Int} (h : dv x * oneU = z * dv y) (hr : Rep z) : DFin (FP.ddiv x y) ∧ dv (FP.ddiv x y) = z := by
  obtain ⟨s, t, c, d, q, r, e, hd, hq, hr1, ex, ey⟩ := div_units hx hy h0
  obtain ⟨V, fV, ⟨s', c', q', rfl⟩, hz⟩ := hr
  have az : zmag b64 (.fin s' c' q') = z.natAbs := by rw [← hz]; exact (natAbs_signed _ _).symm
  have ax : (dv x).natAbs = inUnits c q b64.qmin := by rw [ex, natAbs_signed]
  have ay : (dv y).natAbs = inUnits d r b64.qmin := by rw [ey, natAbs_signed]
  have ha : inUnits c q b64.qmin * one64 = z.natAbs * inUnits d r b64.qmin := by
    have := congrArg Int.natAbs h
    rw [Int.natAbs_mul, Int.natAbs_mul, ax, ay] at this
    exact this
  obtain ⟨k1, k2⟩ := div_scale (c := c) (d := d) hq hr1 (zmag b64 (.fin s' c' q'))
  have l1 := zmag_roundRatio_le good_b64 (s := (s != t)) (A := c) (B := d) (e := q - r) (e0 := 2 * b64.qmin - r) hd fV (by simp) (by omega) (by rw [qmin_b64] at hq ⊢; omega) (by rw [k1, k2, az, ha]; exact Nat.le_refl _)
  have l2 := zmag_roundRatio_ge good_b64 (s := (s != t)) (A := c) (B := d) (e := q - r) (e0 := 2 * b64.qmin - r) hd fV (by omega) (by rw [qmin_b64] at hq ⊢; omega) (by rw [k1, k2, az, ha]; exact Nat.le_refl _)
  have lz : zmag b64 (roundRatio b64 (s != t) c d (q - r)) = z.natAbs := by omega
  have ez : zval b64 (val64 (FP.ddiv x y)) = signed (s != t) z.natAbs := by
    rw [e]; unfold zval; rw [sgn_roundRatio, lz]
  have es : signed (s != t) z.natAbs = z := by
    by_cases hz0 : z = 0
    · rw [hz0]; exact signed_zero _
    · have hu := oneU_pos
      rw [ex, ey] at h
      have hc : 0 < inUnits c q b64.qmin := by
        rcases Nat.eq_zero_or_pos (inUnits c q b64.qmin) with w | w
        · rw [w, Nat.zero_mul] at ha
          have : 0 < z.natAbs * inUnits d r b64.qmin := Nat.mul_pos (by omega) (by unfold inUnits; exact Nat.mul_pos hd (Nat.two_pow_pos _))
          omega
        · exact w
      have hdd : 0 < inUnits d r b64.qmin := by unfold inUnits; exact Nat.mul_pos hd (Nat.two_pow_pos _)
      generalize inUnits c q b64.qmin = C at *
      generalize inUnits d r b64.qmin = D at *
      have p1 : (0 : Int) < (C : Int) * oneU := Int.mul_pos (by omega) hu
      cases s <;> cases t <;> simp only [signed, bne_self_eq_false, Bool.false_eq_true, if_false, if_true, Bool.true_bne, Bool.false_bne, Bool.not_false] at h ⊢
      · have : 0 < z := by
          rcases Int.lt_or_le 0 z with w | w
          · exact w
          · have := Int.mul_nonpos_of_nonpos_of_nonneg w (show (0 : Int) ≤ (D : Int) by omega); omega
        omega
      · have : z < 0 := by
          rcases Int.lt_or_le z 0 with w | w
          · exact w
          · have := Int.mul_nonneg w (show (0 : Int) ≤ (D : Int) by omega); rw [Int.mul_neg] at h; omega
        omega
      · have : z < 0 := by
          rcases Int.lt_or_le z 0 with w | w
          · exact w
          · have := Int.mul_nonneg w (show (0 : Int) ≤ (D : Int) by omega); rw [Int.neg_mul] at h; omega
        omega
      · have : 0 < z := by
          rcases Int.lt_or_le 0 z with w | w
          · exact w
          · have := Int.mul_nonpos_of_nonpos_of_nonneg w (show (0 : Int) ≤ (D : Int) by omega); rw [Int.neg_mul, Int.mul_neg] at h; omega
        omega
  refine ⟨?_, ez.trans es⟩
  have hn : FP.dIsNaN (FP.ddiv x y) = false := ddiv_out hx.notNaN hy (fun w => h0 ((dv_zero_iff hy).mp w))
  have ht := zmag_lt_top good_b64 fV
  unfold DFin
  cases hv : val64 (FP.ddiv x y) with
  | nan => exact absurd hv ((notNaN_iff _).mp hn)
  | fin s2 c2 q2 => exact ⟨_, _, _, rfl⟩
  | inf t2 =>
    exfalso
    rw [hv] at e
    rw [← e] at lz
    have a1 : zmag b64 (.inf t2) = b64.tails * 2 ^ (b64.exps - 2) := rfl
    have a2 : zmag b64 (.fin s' c' q') = inUnits c' q' b64.qmin := rfl
    rw [a1] at lz
    omega
theorem dy_div {n m q : Int} {i j k : Nat} {x y : UInt64} (hx : Dy n i x) (hy : Dy m j y) (hm : m ≠ 0) (hq : n = q * m) (hk : i + 1074 = k + j) (h : q.natAbs < 2 ^ 53) (hj : k ≤ 2045) : Dy q k (FP.ddiv x y) :=
  div_exact hx.1 hy.1 (by rw [hy.2]; exact Int.mul_ne_zero hm (Int.ne_of_gt (pw_pos j))) (by
    have e : pw i * oneU = pw k * pw j := by rw [oneU_pw, pw_mul, pw_mul, hk]
    rw [hx.2, hy.2, hq, Int.mul_assoc (q * m), e]
    ac_rfl) (rep_pw h hj)
theorem dy_noNaN {n : Int} {j : Nat} {x : UInt64} (h : Dy n j x) : NoNaN64 x := noNaN_of_fin h.1
/-- two quotients of the same ratio are one double -/
theorem div_congr {x y x' y' : UInt64} (hx : DFin x) (hy : DFin y) (hx' : DFin x') (hy' : DFin y') (px : 0 < dv x) (py : 0 < dv y) (px' : 0 < dv x') (py' : 0 < dv y') (h : dv x * dv y' = dv x' * dv y) : FP.ddiv x y = FP.ddiv x' y' := by
  have sg : ∀ {s : Bool} {n : Nat}, 0 < signed s n → s = false ∧ signed s n = (n : Int) := by
    intro s n q; cases s
    · exact ⟨rfl, rfl⟩
    · simp only [signed, if_true] at q; omega
  obtain ⟨s, t, c, d, q, r, e, hd, hq, hr, ex, ey⟩ := div_units hx hy (by omega)
  obtain ⟨s', t', c', d', q', r', e', hd', hq', hr', ex', ey'⟩ := div_units hx' hy' (by omega)
  rw [ex] at px; rw [ey] at py; rw [ex'] at px'; rw [ey'] at py'
  rw [ex, ey, ex', ey', (sg px).2, (sg py).2, (sg px').2, (sg py').2] at h
  have hn : val64 (FP.ddiv x y) ≠ .nan := by rw [e]; exact roundRatio_ne_nan _ _ _ _ _
  refine val64_inj hn ?_
  rw [e, e', (sg px).1, (sg py).1, (sg px').1, (sg py').1]
  refine roundRatio_congr hd hd' ?_
  have hN : inUnits c q b64.qmin * inUnits d' r' b64.qmin = inUnits c' q' b64.qmin * inUnits d r b64.qmin := by exact_mod_cast h
  unfold inUnits at hN
  generalize ha1 : (q - b64.qmin).toNat = a1 at hN
  generalize ha2 : (r' - b64.qmin).toNat = a2 at hN
  generalize ha3 : (q' - b64.qmin).toNat = a3 at hN
  generalize ha4 : (r - b64.qmin).toNat = a4 at hN
  have h1 : c * d' * 2 ^ (a1 + a2) = c' * d * 2 ^ (a3 + a4) := by
    rw [Nat.pow_add, Nat.pow_add]
    calc c * d' * (2 ^ a1 * 2 ^ a2) = c * 2 ^ a1 * (d' * 2 ^ a2) := by ac_rfl
      _ = c' * 2 ^ a3 * (d * 2 ^ a4) := hN
      _ = _ := by ac_rfl
  rcases Nat.le_total (a3 + a4) (a1 + a2) with w | w
  · obtain ⟨k, hk⟩ := Nat.le.dest w
    rw [← hk, Nat.pow_add 2 (a3 + a4) k, Nat.mul_comm (2 ^ (a3 + a4)), ← Nat.mul_assoc] at h1
    have h2 := Nat.eq_of_mul_eq_mul_right (Nat.two_pow_pos _) h1
    rw [show (q - r - (q' - r')).toNat = k by omega, show (q' - r' - (q - r)).toNat = 0 by omega, h2]; omega
  · obtain ⟨k, hk⟩ := Nat.le.dest w
    rw [← hk, Nat.pow_add 2 (a1 + a2) k, Nat.mul_comm (2 ^ (a1 + a2)), ← Nat.mul_assoc] at h1
    have h2 := Nat.eq_of_mul_eq_mul_right (Nat.two_pow_pos _) h1
    rw [show (q - r - (q' - r')).toNat = 0 by omega, show (q' - r' - (q - r)).toNat = k by omega, ← h2]; omega
theorem own_p53 : (2 : Nat) ^ 53 = 9007199254740992 := by decide +kernel
theorem own_mb {a b : Int} {A B : Nat} (ha : a.natAbs ≤ A) (hb : b.natAbs ≤ B) (h : A * B < 9007199254740992) : (a * b).natAbs < 2 ^ 53 := by
  rw [own_p53, Int.natAbs_mul]; exact Nat.lt_of_le_of_lt (Nat.mul_le_mul ha hb) h
theorem own_addl {a b : Int} {A B : Nat} (ha : a.natAbs ≤ A) (hb : b.natAbs ≤ B) : (a + b).natAbs ≤ A + B := by omega
theorem own_subl {a b : Int} {A B : Nat} (ha : a.natAbs ≤ A) (hb : b.natAbs ≤ B) : (a - b).natAbs ≤ A + B := by omega
theorem own_addb {a b : Int} {A B : Nat} (ha : a.natAbs ≤ A) (hb : b.natAbs ≤ B) (h : A + B < 9007199254740992) : (a + b).natAbs < 2 ^ 53 := by rw [own_p53]; omega
theorem own_subb {a b : Int} {A B : Nat} (ha : a.natAbs ≤ A) (hb : b.natAbs ≤ B) (h : A + B < 9007199254740992) : (a - b).natAbs < 2 ^ 53 := by rw [own_p53]; omega
theorem own_shl {a k : Int} {A B : Nat} (ha : a.natAbs ≤ A) (h : A * k.natAbs ≤ B) : (a * k).natAbs ≤ B := by rw [Int.natAbs_mul]; exact Nat.le_trans (Nat.mul_le_mul_right _ ha) h
theorem own_dyeq {n m : Int} {j : Nat} {x y : UInt64} (hx : Dy n j x) (hy : Dy m j y) (h : n = m) {op : CmpOp} : cmpValue (FP.dcmp x y) op = 0 := by
  rw [dy_cmp hx hy, (compare_eq_iff _ _).mpr h]; rfl
end OwnDy
section OwnAp
open Jvm.FP Jvm.FP.Core Jvm.Free.Fl
/-- x and y lie no further apart than e -/
def Ap (x y e : Int) : Prop := x - y ≤ e ∧ y - x ≤ e
theorem Ap.sym {x y e : Int} (h : Ap x y e) : Ap y x e := ⟨h.2, h.1⟩
theorem Ap.trans {x y z e f : Int} (h : Ap x y e) (g : Ap y z f) : Ap x z (e + f) := by obtain ⟨a, b⟩ := h; obtain ⟨c, d⟩ := g; exact ⟨by omega, by omega⟩
theorem Ap.add {x y x' y' e f : Int} (h : Ap x y e) (g : Ap x' y' f) : Ap (x + x') (y + y') (e + f) := by obtain ⟨a, b⟩ := h; obtain ⟨c, d⟩ := g; exact ⟨by omega, by omega⟩
theorem Ap.le {x y e f : Int} (h : Ap x y e) (g : e ≤ f) : Ap x y f := ⟨Int.le_trans h.1 g, Int.le_trans h.2 g⟩
theorem Ap.mul {x y e : Int} (h : Ap x y e) (c : Int) (hc : 0 ≤ c) : Ap (c * x) (c * y) (c * e) := by
  refine ⟨?_, ?_⟩
  · rw [← Int.mul_sub]; exact Int.mul_le_mul_of_nonneg_left h.1 hc
  · rw [← Int.mul_sub]; exact Int.mul_le_mul_of_nonneg_left h.2 hc
theorem Ap.cancel {x y e c : Int} (hc : 0 < c) (h : Ap (c * x) (c * y) (c * e)) : Ap x y e := by
  refine ⟨?_, ?_⟩
  · have q := h.1; rw [← Int.mul_sub] at q; exact Int.le_of_mul_le_mul_left q hc
  · have q := h.2; rw [← Int.mul_sub] at q; exact Int.le_of_mul_le_mul_left q hc
/-- a product: x x' against y y', 0 ≤ x' ≤ B', 0 ≤ y ≤ B -/
theorem Ap.prod {x y e x' y' e' B B' : Int} (h : Ap x y e) (g : Ap x' y' e') (h0 : 0 ≤ x') (h1 : x' ≤ B') (g0 : 0 ≤ y) (g1 : y ≤ B) (he : 0 ≤ e) (he' : 0 ≤ e') : Ap (x * x') (y * y') (e * B' + B * e') := by
  have a := (h.mul x' h0).le (Int.mul_le_mul_of_nonneg_right h1 he)
  have b := (g.mul y g0).le (Int.mul_le_mul_of_nonneg_right g1 he')
  rw [Int.mul_comm x' x, Int.mul_comm x' y, Int.mul_comm B' e] at a
  exact a.trans b
theorem Ap.eq {x y x' y' e : Int} (h : Ap x y e) (hx : x = x') (hy : y = y') : Ap x' y' e := hx ▸ hy ▸ h
theorem Ap.ub {x y e : Int} (h : Ap x y e) : x ≤ y + e := by have := h.1; omega
theorem Ap.lb {x y e : Int} (h : Ap x y e) : y - e ≤ x := by have := h.2; omega
theorem fin_of_rep {q : UInt64} (hn : FP.dIsNaN q = false) {z : Int} (hr : Rep z) (h : (dv q).natAbs ≤ z.natAbs) : DFin q := by
  obtain ⟨V, fV, ⟨s, c, e, rfl⟩, hz⟩ := hr
  have ht := zmag_lt_top good_b64 fV
  have hm := (notNaN_iff q).mp hn
  rw [← hz] at h
  unfold dv at h
  unfold DFin
  cases hv : val64 q with
  | nan => exact absurd hv hm
  | fin s' c' q' => exact ⟨_, _, _, rfl⟩
  | inf t =>
    exfalso
    rw [hv] at h
    have a1 : (zval b64 (.inf t)).natAbs = b64.tails * 2 ^ (b64.exps - 2) := natAbs_signed _ _
    have a2 : (zval b64 (.fin s c e)).natAbs = inUnits c e b64.qmin := natAbs_signed _ _
    rw [a1, a2] at h
    omega
/-- what is squeezed between neighbours c and c + 1, in units of g -/
theorem ap_squeeze {v z c g : Int} (hg : 0 < g) (h1 : c * g ≤ z) (h2 : z < (c + 1) * g) (l : c * g ≤ v) (u : v ≤ (c + 1) * g) : Ap v z g := by
  have e : (c + 1) * g = c * g + g := by rw [Int.add_mul, Int.one_mul]
  exact ⟨by omega, by omega⟩
theorem floor_facts (z : Int) {g : Int} (hg : 0 < g) {M : Int} (h : -(M * g) ≤ z ∧ z ≤ M * g) : z / g * g ≤ z ∧ z < (z / g + 1) * g ∧ -M ≤ z / g ∧ z / g ≤ M := by
  have a := Int.mul_ediv_add_emod z g
  have b := Int.emod_nonneg z (Int.ne_of_gt hg)
  have c := Int.emod_lt_of_pos z hg
  rw [Int.mul_comm] at a
  have e : (z / g + 1) * g = z / g * g + g := by rw [Int.add_mul, Int.one_mul]
  refine ⟨by omega, by omega, ?_, ?_⟩
  · rw [Int.le_ediv_iff_mul_le hg, Int.neg_mul]; exact h.1
  · exact Int.le_of_mul_le_mul_right (by omega : z / g * g ≤ M * g) hg
theorem pw52 : (2 : Int) ^ 52 = 4503599627370496 := by decide +kernel
theorem rep_near {c : Int} {t : Nat} (ht : t ≤ 1990) (h : -4503599627370497 ≤ c ∧ c ≤ 4503599627370497) : Rep (c * pw t) := rep_pw (by rw [own_p53]; omega) (by omega)
theorem rnd_add {x y : UInt64} (hx : DFin x) (hy : DFin y) {t : Nat} (ht : t ≤ 1990) (h : -(4503599627370496 * pw t) ≤ dv x + dv y ∧ dv x + dv y ≤ 4503599627370496 * pw t) : DFin (FP.dadd x y) ∧ Ap (dv (FP.dadd x y)) (dv x + dv y) (pw t) := by
  have hg := pw_pos t
  obtain ⟨f1, f2, f3, f4⟩ := floor_facts (dv x + dv y) hg h
  generalize (dv x + dv y) / pw t = c at *
  obtain ⟨V, v1, ⟨s1, c1, q1, rfl⟩, v3⟩ := rep_near (c := c) ht ⟨by omega, by omega⟩
  obtain ⟨W, w1, ⟨s2, c2, q2, rfl⟩, w3⟩ := rep_near (c := c + 1) ht ⟨by omega, by omega⟩
  have l := add_ge hx hy v1 (by simp) (by rw [v3]; exact f1)
  have u := add_le hx hy w1 (by simp) (by rw [w3]; omega)
  rw [v3] at l; rw [w3] at u
  refine ⟨fin_of_rep (dadd_out hx.notNaN hy) (rep_pw (n := 9007199254740991) (j := t) (by decide) (by omega)) ?_, ap_squeeze hg f1 f2 l u⟩
  have b1 : -(4503599627370497 * pw t) ≤ c * pw t := by rw [← Int.neg_mul]; exact Int.mul_le_mul_of_nonneg_right (by omega) (by omega)
  have b2 : (c + 1) * pw t ≤ 4503599627370497 * pw t := Int.mul_le_mul_of_nonneg_right (by omega) (by omega)
  omega
theorem rnd_sub {x y : UInt64} (hx : DFin x) (hy : DFin y) {t : Nat} (ht : t ≤ 1990) (h : -(4503599627370496 * pw t) ≤ dv x - dv y ∧ dv x - dv y ≤ 4503599627370496 * pw t) : DFin (FP.dsub x y) ∧ Ap (dv (FP.dsub x y)) (dv x - dv y) (pw t) := by
  rw [sub_dneg hy]
  have e := (neg_fin hy).2
  have q := rnd_add hx (neg_fin hy).1 ht (by rw [e]; omega)
  rw [e] at q
  exact ⟨q.1, q.2.eq rfl (by omega)⟩
theorem rnd_mul {x y : UInt64} (hx : DFin x) (hy : DFin y) {t : Nat} (ht : t ≤ 1990) (h : -(4503599627370496 * (pw t * oneU)) ≤ dv x * dv y ∧ dv x * dv y ≤ 4503599627370496 * (pw t * oneU)) : DFin (FP.dmul x y) ∧ Ap (dv (FP.dmul x y) * oneU) (dv x * dv y) (pw t * oneU) := by
  have hg := pw_pos t
  have hU := oneU_pos
  have hG : 0 < pw t * oneU := Int.mul_pos hg hU
  obtain ⟨f1, f2, f3, f4⟩ := floor_facts (dv x * dv y) hG h
  generalize (dv x * dv y) / (pw t * oneU) = c at *
  obtain ⟨V, v1, ⟨s1, c1, q1, rfl⟩, v3⟩ := rep_near (c := c) ht ⟨by omega, by omega⟩
  obtain ⟨W, w1, ⟨s2, c2, q2, rfl⟩, w3⟩ := rep_near (c := c + 1) ht ⟨by omega, by omega⟩
  have l := mul_ge hx hy v1 (by simp) (by rw [v3, Int.mul_assoc]; exact f1)
  have u := mul_le hx hy w1 (by simp) (by rw [w3, Int.mul_assoc]; omega)
  rw [v3] at l; rw [w3] at u
  refine ⟨fin_of_rep (dmul_out hx hy) (rep_pw (n := 9007199254740991) (j := t) (by decide) (by omega)) ?_, ap_squeeze hG f1 f2 ?_ ?_⟩
  · have b1 : -(4503599627370497 * pw t) ≤ c * pw t := by rw [← Int.neg_mul]; exact Int.mul_le_mul_of_nonneg_right (by omega) (by omega)
    have b2 : (c + 1) * pw t ≤ 4503599627370497 * pw t := Int.mul_le_mul_of_nonneg_right (by omega) (by omega)
    omega
  · rw [← Int.mul_assoc]; exact Int.mul_le_mul_of_nonneg_right l (by omega)
  · rw [← Int.mul_assoc]; exact Int.mul_le_mul_of_nonneg_right u (by omega)
theorem pos_sign {x : UInt64} (h : 0 < dv x) {s : Bool} {c : Nat} {q : Int} (e : val64 x = .fin s c q) : s = false := by
  unfold dv at h; rw [e] at h
  have h' : 0 < signed s (inUnits c q b64.qmin) := h
  cases s
  · rfl
  · simp only [signed, if_true] at h'; omega
theorem rnd_div {x y : UInt64} (hx : DFin x) (hy : DFin y) (px : 0 < dv x) (py : 0 < dv y) {t : Nat} (ht : t ≤ 1990) (h : dv x * oneU ≤ 4503599627370496 * (pw t * dv y)) : DFin (FP.ddiv x y) ∧ Ap (dv (FP.ddiv x y) * dv y) (dv x * oneU) (pw t * dv y) := by
  have hg := pw_pos t
  have hU := oneU_pos
  have hG : 0 < pw t * dv y := Int.mul_pos hg py
  have hp : 0 < dv x * oneU := Int.mul_pos px hU
  obtain ⟨f1, f2, f3, f4⟩ := floor_facts (dv x * oneU) hG (M := 4503599627370496) ⟨by omega, h⟩
  generalize (dv x * oneU) / (pw t * dv y) = c at *
  have c0 : 0 ≤ c := by
    rcases Int.lt_or_le c 0 with w | w
    · have := Int.mul_le_mul_of_nonneg_right (show c + 1 ≤ 0 by omega) (show 0 ≤ pw t * dv y by omega)
      rw [Int.zero_mul] at this
      omega
    · exact w
  obtain ⟨V, v1, ⟨s1, c1, q1, rfl⟩, v3⟩ := rep_near (c := c) ht ⟨by omega, by omega⟩
  obtain ⟨W, w1, ⟨s2, c2, q2, rfl⟩, w3⟩ := rep_near (c := c + 1) ht ⟨by omega, by omega⟩
  have l := div_ge hx hy (by omega) py (fun _ _ _ e => pos_sign px e) (fun _ _ _ e => pos_sign py e) v1 (by rw [v3, Int.mul_assoc]; exact f1)
  have u := div_le hx hy (by omega) py w1 (by simp) (by rw [w3, Int.mul_assoc]; omega)
  rw [v3] at l; rw [w3] at u
  have hn : FP.dIsNaN (FP.ddiv x y) = false := ddiv_out hx.notNaN hy (fun z => by rw [dv_zero_iff hy] at z; omega)
  refine ⟨fin_of_rep hn (rep_pw (n := 9007199254740991) (j := t) (by decide) (by omega)) ?_, ap_squeeze hG f1 f2 ?_ ?_⟩
  · have b1 : 0 ≤ c * pw t := Int.mul_nonneg c0 (by omega)
    have b2 : (c + 1) * pw t ≤ 4503599627370497 * pw t := Int.mul_le_mul_of_nonneg_right (by omega) (by omega)
    omega
  · rw [← Int.mul_assoc]; exact Int.mul_le_mul_of_nonneg_right l (by omega)
  · rw [← Int.mul_assoc]; exact Int.mul_le_mul_of_nonneg_right u (by omega)
end OwnAp
section OwnAna
theorem own_mn {a b : Int} (ha : 0 ≤ a) (hb : 0 ≤ b) : 0 ≤ a * b := Int.mul_nonneg ha hb
theorem own_ana1 {i h j s U E w1 w2 p r n a b d : Int} (hE : 0 < E) (hU : U = 4503599627370496 * E) (hi : 1 ≤ i) (hih : i ≤ h) (hh : h ≤ 64) (hj : 1 ≤ j) (hjs : j ≤ s) (hs : s ≤ 64) (p0 : 0 ≤ p) (p2 : p ≤ 2 * U) (r0 : 0 ≤ r) (r2 : r ≤ 2 * U)
    (ap : Ap (h * p) (i * U) (h * E)) (ar : Ap (s * r) (j * U) (s * E)) (aw1 : Ap (100 * w1) (85 * U) (100 * E)) (aw2 : Ap (100 * w2) (15 * U) (100 * E)) (an : Ap (n * U) (p * r) (4 * E * U)) (aa : Ap (a * U) (w1 * p) (4 * E * U)) (ab : Ap (b * U) (w2 * r) (4 * E * U)) (ad : Ap d (a + b) (16 * E)) :
    Ap (100 * (h * s) * d) (U * (85 * (i * s) + 15 * (j * h))) (2900 * (E * (h * s))) ∧ Ap (100 * (h * s) * n) (100 * (i * j) * U) (700 * (E * (h * s))) := by
  have U0 : 0 < U := by omega
  have hs0 : 0 ≤ h * s := own_mn (by omega) (by omega)
  -- 100 w1 against 85 U, h p against i U
  have b1 : h * p ≤ 2 * (h * U) := by
    have q := Int.mul_le_mul_of_nonneg_left p2 (show 0 ≤ h by omega)
    rw [show h * (2 * U) = 2 * (h * U) by ac_rfl] at q; exact q
  have b2 : s * r ≤ 2 * (s * U) := by
    have q := Int.mul_le_mul_of_nonneg_left r2 (show 0 ≤ s by omega)
    rw [show s * (2 * U) = 2 * (s * U) by ac_rfl] at q; exact q
  have c1 := aw1.prod ap (own_mn (by omega) p0) b1 (by omega) (Int.le_refl _) (by omega) (own_mn (by omega) (by omega))
  have c2 := aw2.prod ar (own_mn (by omega) r0) b2 (by omega) (Int.le_refl _) (by omega) (own_mn (by omega) (by omega))
  have d1 := (c1.mul s (by omega)).eq (show s * (100 * w1 * (h * p)) = 100 * (h * s) * (w1 * p) by ac_rfl) (show s * (85 * U * (i * U)) = U * (U * (85 * (i * s))) by ac_rfl)
  have d2 := (c2.mul h (by omega)).eq (show h * (100 * w2 * (s * r)) = 100 * (h * s) * (w2 * r) by ac_rfl) (show h * (15 * U * (j * U)) = U * (U * (15 * (j * h))) by ac_rfl)
  rw [show s * (100 * E * (2 * (h * U)) + 85 * U * (h * E)) = 285 * (U * (E * (h * s))) by
    rw [Int.mul_add, show s * (100 * E * (2 * (h * U))) = 100 * 2 * (U * (E * (h * s))) by ac_rfl, show s * (85 * U * (h * E)) = 85 * (U * (E * (h * s))) by ac_rfl]; omega] at d1
  rw [show h * (100 * E * (2 * (s * U)) + 15 * U * (s * E)) = 215 * (U * (E * (h * s))) by
    rw [Int.mul_add, show h * (100 * E * (2 * (s * U))) = 100 * 2 * (U * (E * (h * s))) by ac_rfl, show h * (15 * U * (s * E)) = 15 * (U * (E * (h * s))) by ac_rfl]; omega] at d2
  have e1 := d1.add d2
  have e2 := (aa.add ab).mul (100 * (h * s)) (by omega)
  have e3 := (e2.eq (show 100 * (h * s) * (a * U + b * U) = U * (100 * (h * s) * (a + b)) by rw [← Int.add_mul]; ac_rfl) (show 100 * (h * s) * (w1 * p + w2 * r) = 100 * (h * s) * (w1 * p) + 100 * (h * s) * (w2 * r) from Int.mul_add _ _ _)).trans e1
  rw [show 100 * (h * s) * (4 * E * U + 4 * E * U) + (285 * (U * (E * (h * s))) + 215 * (U * (E * (h * s)))) = U * (1300 * (E * (h * s))) by
    rw [Int.mul_add, show 100 * (h * s) * (4 * E * U) = 100 * 4 * (U * (E * (h * s))) by ac_rfl, show U * (1300 * (E * (h * s))) = 1300 * (U * (E * (h * s))) by ac_rfl]; omega] at e3
  have e4 := Ap.cancel U0 (e3.eq rfl (show U * (U * (85 * (i * s))) + U * (U * (15 * (j * h))) = U * (U * (85 * (i * s) + 15 * (j * h))) by rw [Int.mul_add U (85 * (i * s)), Int.mul_add U (U * (85 * (i * s)))]))
  have e5 := (ad.mul (100 * (h * s)) (by omega)).trans e4
  rw [show 100 * (h * s) * (16 * E) + 1300 * (E * (h * s)) = 2900 * (E * (h * s)) by
    rw [show 100 * (h * s) * (16 * E) = 100 * 16 * (E * (h * s)) by ac_rfl]; omega] at e5
  refine ⟨e5, ?_⟩
  have f1 := ap.prod ar (own_mn (by omega) r0) b2 (own_mn (by omega) (by omega)) (show i * U ≤ h * U from Int.mul_le_mul_of_nonneg_right hih (by omega)) (own_mn (by omega) (by omega)) (own_mn (by omega) (by omega))
  have f2 := (f1.mul 100 (by decide)).eq (show 100 * (h * p * (s * r)) = 100 * (h * s) * (p * r) by ac_rfl) (show 100 * (i * U * (j * U)) = U * (100 * (i * j) * U) by ac_rfl)
  rw [show 100 * (h * E * (2 * (s * U)) + h * U * (s * E)) = 300 * (U * (E * (h * s))) by
    rw [Int.mul_add, show 100 * (h * E * (2 * (s * U))) = 100 * 2 * (U * (E * (h * s))) by ac_rfl, show 100 * (h * U * (s * E)) = 100 * (U * (E * (h * s))) by ac_rfl]; omega] at f2
  have f3 := (((an.mul (100 * (h * s)) (by omega)).eq (show 100 * (h * s) * (n * U) = U * (100 * (h * s) * n) by ac_rfl) rfl).trans f2)
  rw [show 100 * (h * s) * (4 * E * U) + 300 * (U * (E * (h * s))) = U * (700 * (E * (h * s))) by
    rw [show 100 * (h * s) * (4 * E * U) = 100 * 4 * (U * (E * (h * s))) by ac_rfl, show U * (700 * (E * (h * s))) = 700 * (U * (E * (h * s))) by ac_rfl]; omega] at f3
  exact Ap.cancel U0 f3
/-- what D is against i j and h s -/
theorem own_D {i h j s : Int} (hi : 1 ≤ i) (hih : i ≤ h) (hh : h ≤ 64) (hj : 1 ≤ j) (hjs : j ≤ s) (hs : s ≤ 64) : 1 ≤ i * j ∧ 100 * (i * j) ≤ 85 * (i * s) + 15 * (j * h) ∧ 85 * (i * s) + 15 * (j * h) ≤ 100 * (h * s) ∧ h * s ≤ 4096 ∧ 0 ≤ h * s ∧ i * j ≤ h * s := by
  have a1 : i * j ≤ i * s := Int.mul_le_mul_of_nonneg_left hjs (by omega)
  have a2 : j * i ≤ j * h := Int.mul_le_mul_of_nonneg_left hih (by omega)
  have a3 : i * s ≤ h * s := Int.mul_le_mul_of_nonneg_right hih (by omega)
  have a4 : j * h ≤ s * h := Int.mul_le_mul_of_nonneg_right hjs (by omega)
  have a5 : h * s ≤ 64 * s := Int.mul_le_mul_of_nonneg_right hh (by omega)
  have a6 : 1 * j ≤ i * j := Int.mul_le_mul_of_nonneg_right hi (by omega)
  rw [Int.mul_comm j i] at a2
  rw [Int.mul_comm s h] at a4
  omega
theorem own_ana2 {i h j s U E n d : Int} (hE : 0 < E) (hU : U = 4503599627370496 * E) (hi : 1 ≤ i) (hih : i ≤ h) (hh : h ≤ 64) (hj : 1 ≤ j) (hjs : j ≤ s) (hs : s ≤ 64)
    (a1 : Ap (100 * (h * s) * d) (U * (85 * (i * s) + 15 * (j * h))) (2900 * (E * (h * s)))) (a2 : Ap (100 * (h * s) * n) (100 * (i * j) * U) (700 * (E * (h * s)))) : 0 < n ∧ 0 < d ∧ n ≤ 2 * d := by
  obtain ⟨d1, d2, d3, d4, d5, d6⟩ := own_D hi hih hh hj hjs hs
  have U0 : 0 < U := by omega
  have T0 : 0 < 100 * (h * s) := by have := Int.mul_pos (show 0 < h by omega) (show 0 < s by omega); omega
  have k1 : E * (h * s) ≤ E * 4096 := Int.mul_le_mul_of_nonneg_left d4 (by omega)
  have k0 : 0 ≤ E * (h * s) := own_mn (by omega) d5
  have k2 : U * (100 * (i * j)) ≤ U * (85 * (i * s) + 15 * (j * h)) := Int.mul_le_mul_of_nonneg_left d2 (by omega)
  have k3 : U * 100 ≤ U * (100 * (i * j)) := Int.mul_le_mul_of_nonneg_left (by omega) (by omega)
  have k4 : 100 * (i * j) * U = U * (100 * (i * j)) := Int.mul_comm _ _
  have u1 := a1.lb
  have u2 := a2.ub
  have u3 := a2.lb
  rw [k4] at u2 u3
  refine ⟨?_, ?_, ?_⟩
  · refine Int.pos_of_mul_pos_left (b := 100 * (h * s)) ?_ T0 |> fun q => q
    rw [Int.mul_comm n]; omega
  · refine Int.pos_of_mul_pos_left (b := 100 * (h * s)) ?_ T0 |> fun q => q
    rw [Int.mul_comm d]; omega
  · refine Int.le_of_mul_le_mul_left ?_ T0
    rw [show 100 * (h * s) * (2 * d) = 2 * (100 * (h * s) * d) by ac_rfl]
    omega
theorem own_ana3 {i h j s U E n d w : Int} (hE : 0 < E) (hU : U = 4503599627370496 * E) (hi : 1 ≤ i) (hih : i ≤ h) (hh : h ≤ 64) (hj : 1 ≤ j) (hjs : j ≤ s) (hs : s ≤ 64)
    (a1 : Ap (100 * (h * s) * d) (U * (85 * (i * s) + 15 * (j * h))) (2900 * (E * (h * s)))) (a2 : Ap (100 * (h * s) * n) (100 * (i * j) * U) (700 * (E * (h * s)))) (d0 : 0 < d) (nd : n ≤ 2 * d) (w0 : 0 ≤ w) (aw : Ap (w * d) (n * U) (2 * E * d)) :
    w ≤ 3 * U ∧ Ap (w * (85 * (i * s) + 15 * (j * h))) (100 * (i * j) * U) (9602 * (E * (h * s))) := by
  obtain ⟨d1, d2, d3, d4, d5, d6⟩ := own_D hi hih hh hj hjs hs
  have U0 : 0 < U := by omega
  have w3 : w ≤ 3 * U := by
    refine Int.le_of_mul_le_mul_right ?_ d0
    have q := aw.ub
    have q1 : n * U ≤ 2 * d * U := Int.mul_le_mul_of_nonneg_right nd (by omega)
    rw [show 2 * d * U = 2 * (U * d) by ac_rfl] at q1
    rw [show 2 * E * d = 2 * (E * d) by ac_rfl] at q
    rw [show 3 * U * d = 3 * (U * d) by ac_rfl]
    have q2 : 2 * (E * d) ≤ U * d := by
      have := Int.mul_le_mul_of_nonneg_right (show 2 * E ≤ U by omega) (show 0 ≤ d by omega)
      rw [show 2 * E * d = 2 * (E * d) by ac_rfl] at this; exact this
    omega
  refine ⟨w3, ?_⟩
  have k0 : 0 ≤ E * (h * s) := own_mn (by omega) d5
  generalize hD : 85 * (i * s) + 15 * (j * h) = D at *
  generalize hT : h * s = M at *
  generalize hI : i * j = I at *
  have e1 := (a1.mul w w0).sym
  have e1' : Ap (U * (w * D)) (100 * M * (w * d)) (8700 * (U * (E * M))) := (e1.eq (by ac_rfl) (by ac_rfl)).le (by
    have q := Int.mul_le_mul_of_nonneg_right w3 (show 0 ≤ 2900 * (E * M) by omega)
    rw [show 3 * U * (2900 * (E * M)) = 3 * 2900 * (U * (E * M)) by ac_rfl] at q
    omega)
  have e2 := (aw.mul (100 * M) (by omega))
  have e2' : Ap (100 * M * (w * d)) (U * (100 * M * n)) (202 * (U * (E * M))) := (e2.eq rfl (by ac_rfl)).le (by
    rw [show 100 * M * (2 * E * d) = 2 * (E * (100 * M * d)) by ac_rfl]
    have q := a1.ub
    have q1 : U * D ≤ U * (100 * M) := Int.mul_le_mul_of_nonneg_left d3 (by omega)
    have q2 : 2900 * (E * M) ≤ U * M := by
      have := Int.mul_le_mul_of_nonneg_right (show 2900 * E ≤ U by omega) d5
      rw [show 2900 * E * M = 2900 * (E * M) by ac_rfl] at this; exact this
    have q3 : 100 * M * d ≤ 101 * (U * M) := by
      rw [show U * (100 * M) = 100 * (U * M) by ac_rfl] at q1
      omega
    have q4 := Int.mul_le_mul_of_nonneg_left q3 (show 0 ≤ E by omega)
    rw [show E * (101 * (U * M)) = 101 * (U * (E * M)) by ac_rfl] at q4
    omega)
  have e3 := (a2.mul U (by omega))
  rw [show U * (700 * (E * M)) = 700 * (U * (E * M)) by ac_rfl] at e3
  have e4 := (e1'.trans e2').trans e3
  refine Ap.cancel U0 (e4.le ?_)
  rw [show U * (9602 * (E * M)) = 9602 * (U * (E * M)) by ac_rfl]
  omega
end OwnAna
section
theorem ac1 (k e x : Int) : k * (e * x) = x * (k * e) := by ac_rfl
theorem ac2 (a b c : Int) : a * (b * c) = c * (b * a) := by ac_rfl
theorem ac3 (a b : Int) : a * b * b = b * (a * b) := by ac_rfl
theorem ac4 (a b c : Int) : a * (b * c) = b * (a * c) := by ac_rfl
theorem ac5 (k n e u : Int) : k * (n * e * u) = n * (k * e * u) := by ac_rfl
theorem ac6 (n u : Int) : n * u * (n * u) = n * n * (u * u) := by ac_rfl
theorem ac7 (k n e d : Int) : k * (n * e * d) = n * d * (k * e) := by ac_rfl
open Jvm.FP Jvm.FP.Core Jvm.Free.Fl
abbrev W1 : UInt64 := 4605831338911806259
abbrev W2 : UInt64 := 4594572339843380019
theorem own_E : oneU = 4503599627370496 * pw 1022 := by rw [oneU_pw, show (1074 : Nat) = 52 + 1022 from rfl, ← pw_mul, show pw 52 = 4503599627370496 from by decide +kernel]
theorem own_W1 : DFin W1 ∧ 0 ≤ dv W1 ∧ dv W1 ≤ oneU ∧ Ap (100 * dv W1) (85 * oneU) (100 * pw 1022) := by
  refine ⟨⟨_, _, _, (by decide +kernel : val64 W1 = .fin false 7656119366529843 (-53))⟩, by decide +kernel, by decide +kernel, ?_⟩
  unfold Ap; decide +kernel
theorem own_W2 : DFin W2 ∧ 0 ≤ dv W2 ∧ dv W2 ≤ oneU ∧ Ap (100 * dv W2) (15 * oneU) (100 * pw 1022) := by
  refine ⟨⟨_, _, _, (by decide +kernel : val64 W2 = .fin false 5404319552844595 (-55))⟩, by decide +kernel, by decide +kernel, ?_⟩
  unfold Ap; decide +kernel
theorem own_pwn (t k : Nat) (n : Int) (hn : pw k = n) : pw (t + k) = n * pw t := by rw [← pw_mul, hn, Int.mul_comm]
/-- the quotient of two small ints -/
theorem own_pq {i h : Int32} (hi : 1 ≤ i.toInt) (hih : i.toInt ≤ h.toInt) (hh : h.toInt ≤ 64) : DFin (FP.ddiv (FP.i2d i) (FP.i2d h)) ∧ 0 < dv (FP.ddiv (FP.i2d i) (FP.i2d h)) ∧ dv (FP.ddiv (FP.i2d i) (FP.i2d h)) ≤ 2 * oneU ∧ Ap (h.toInt * dv (FP.ddiv (FP.i2d i) (FP.i2d h))) (i.toInt * oneU) (h.toInt * pw 1022) := by
  obtain ⟨fx, ex⟩ : DFin (FP.i2d i) ∧ dv (FP.i2d i) = i.toInt * oneU := dint_fin (i2d_int i)
  obtain ⟨fy, ey⟩ : DFin (FP.i2d h) ∧ dv (FP.i2d h) = h.toInt * oneU := dint_fin (i2d_int h)
  have U0 := oneU_pos
  have E0 := pw_pos 1022
  have hU := own_E
  obtain ⟨f, a⟩ := rnd_div fx fy (by rw [ex]; exact Int.mul_pos (by omega) U0) (by rw [ey]; exact Int.mul_pos (by omega) U0) (t := 1022) (by decide) (by
    rw [ex, ey, show 4503599627370496 * (pw 1022 * (h.toInt * oneU)) = h.toInt * oneU * (4503599627370496 * pw 1022) from ac1 _ _ _, ← hU]
    exact Int.mul_le_mul_of_nonneg_right (Int.mul_le_mul_of_nonneg_right hih (by omega)) (by omega))
  rw [ex, ey] at a
  generalize dv (FP.ddiv (FP.i2d i) (FP.i2d h)) = q at *
  have b : Ap (h.toInt * q) (i.toInt * oneU) (h.toInt * pw 1022) := Ap.cancel U0 ((a.eq (ac2 q h.toInt oneU) (ac3 i.toInt oneU)).le (Int.le_of_eq (ac2 (pw 1022) h.toInt oneU)))
  have h0 : 0 < h.toInt := by omega
  refine ⟨f, ?_, ?_, b⟩
  · refine Int.pos_of_mul_pos_left (b := h.toInt) ?_ h0 |> fun z => z
    rw [Int.mul_comm q]
    have l := b.lb
    have l1 := Int.mul_le_mul_of_nonneg_right hi (show 0 ≤ oneU by omega)
    have l2 := Int.mul_le_mul_of_nonneg_right hh (show 0 ≤ pw 1022 by omega)
    omega
  · refine Int.le_of_mul_le_mul_left ?_ h0
    have u := b.ub
    have u1 := Int.mul_le_mul_of_nonneg_right hih (show 0 ≤ oneU by omega)
    have u2 := Int.mul_le_mul_of_nonneg_left (show pw 1022 ≤ oneU by omega) (show 0 ≤ h.toInt by omega)
    rw [show h.toInt * (2 * oneU) = 2 * (h.toInt * oneU) from ac4 _ _ _]
    omega
abbrev nD (p r : UInt64) : UInt64 := FP.dmul p r
abbrev aD (p : UInt64) : UInt64 := FP.dmul W1 p
abbrev bD (r : UInt64) : UInt64 := FP.dmul W2 r
abbrev dD (p r : UInt64) : UInt64 := FP.dadd (aD p) (bD r)
abbrev wD (p r : UInt64) : UInt64 := FP.ddiv (nD p r) (dD p r)
theorem own_wt {i h j s : Int} {p r : UInt64} (hi : 1 ≤ i) (hih : i ≤ h) (hh : h ≤ 64) (hj : 1 ≤ j) (hjs : j ≤ s) (hs : s ≤ 64) (fp : DFin p) (p0 : 0 < dv p) (p2 : dv p ≤ 2 * oneU) (ap : Ap (h * dv p) (i * oneU) (h * pw 1022)) (fr : DFin r) (r0 : 0 < dv r) (r2 : dv r ≤ 2 * oneU) (ar : Ap (s * dv r) (j * oneU) (s * pw 1022)) :
    DFin (nD p r) ∧ DFin (aD p) ∧ DFin (bD r) ∧ DFin (dD p r) ∧ DFin (wD p r) ∧ 0 ≤ dv (wD p r) ∧ dv (wD p r) ≤ 3 * oneU ∧ Ap (dv (wD p r) * (85 * (i * s) + 15 * (j * h))) (100 * (i * j) * oneU) (9602 * (pw 1022 * (h * s))) := by
  have U0 := oneU_pos
  have E0 := pw_pos 1022
  have hU := own_E
  have t4 : pw 1024 = 4 * pw 1022 := own_pwn 1022 2 4 rfl
  have t16 : pw 1026 = 16 * pw 1022 := own_pwn 1022 4 16 rfl
  have t2 : pw 1023 = 2 * pw 1022 := own_pwn 1022 1 2 rfl
  obtain ⟨f1, z1, o1, a1⟩ := own_W1
  obtain ⟨f2, z2, o2, a2⟩ := own_W2
  have four : 4503599627370496 * (pw 1024 * oneU) = 4 * (oneU * oneU) := by
    rw [t4, show 4503599627370496 * (4 * pw 1022 * oneU) = 4 * (4503599627370496 * pw 1022 * oneU) from ac5 _ _ _ _, ← hU]
  have UU : 0 < oneU * oneU := Int.mul_pos U0 U0
  have m1 : dv p * dv r ≤ 4 * (oneU * oneU) := by
    have q1 := Int.mul_le_mul_of_nonneg_right p2 (show 0 ≤ dv r by omega)
    have q2 := Int.mul_le_mul_of_nonneg_left r2 (show 0 ≤ 2 * oneU by omega)
    rw [show 2 * oneU * (2 * oneU) = 2 * 2 * (oneU * oneU) from ac6 _ _] at q2
    omega
  have m1' : 0 ≤ dv p * dv r := Int.mul_nonneg (by omega) (by omega)
  obtain ⟨fn, an⟩ := rnd_mul fp fr (t := 1024) (by decide) (by rw [four]; omega)
  have m2 : dv W1 * dv p ≤ 4 * (oneU * oneU) := by
    have q1 := Int.mul_le_mul_of_nonneg_right o1 (show 0 ≤ dv p by omega)
    have q2 := Int.mul_le_mul_of_nonneg_left p2 (show 0 ≤ oneU by omega)
    rw [show oneU * (2 * oneU) = 2 * (oneU * oneU) from ac4 _ _ _] at q2
    omega
  have m2' : 0 ≤ dv W1 * dv p := Int.mul_nonneg (by omega) (by omega)
  obtain ⟨fa, aa⟩ := rnd_mul f1 fp (t := 1024) (by decide) (by rw [four]; omega)
  have m3 : dv W2 * dv r ≤ 4 * (oneU * oneU) := by
    have q1 := Int.mul_le_mul_of_nonneg_right o2 (show 0 ≤ dv r by omega)
    have q2 := Int.mul_le_mul_of_nonneg_left r2 (show 0 ≤ oneU by omega)
    rw [show oneU * (2 * oneU) = 2 * (oneU * oneU) from ac4 _ _ _] at q2
    omega
  have m3' : 0 ≤ dv W2 * dv r := Int.mul_nonneg (by omega) (by omega)
  obtain ⟨fb, ab⟩ := rnd_mul f2 fr (t := 1024) (by decide) (by rw [four]; omega)
  -- bounds of a and b, for the sum
  have bnd : ∀ x y : Int, Ap (x * oneU) y (pw 1024 * oneU) → 0 ≤ y → y ≤ 4 * (oneU * oneU) → -oneU ≤ x ∧ x ≤ 5 * oneU := by
    intro x y q y0 y4
    have l1 : pw 1024 * oneU ≤ oneU * oneU := Int.mul_le_mul_of_nonneg_right (by omega) (by omega)
    have q1 := q.1
    have q2 := q.2
    refine ⟨Int.le_of_mul_le_mul_right (by rw [Int.neg_mul]; omega) U0, Int.le_of_mul_le_mul_right (by rw [show 5 * oneU * oneU = 5 * (oneU * oneU) from Int.mul_assoc _ _ _]; omega) U0⟩
  have ba := bnd _ _ aa m2' m2
  have bb := bnd _ _ ab m3' m3
  obtain ⟨fd, ad⟩ := rnd_add fa fb (t := 1026) (by decide) (by rw [t16]; omega)
  rw [t4] at an aa ab
  rw [t16] at ad
  obtain ⟨c1, c2⟩ := own_ana1 E0 hU hi hih hh hj hjs hs (by omega) p2 (by omega) r2 ap ar a1 a2 an aa ab ad
  obtain ⟨n0, d0, nd⟩ := own_ana2 E0 hU hi hih hh hj hjs hs c1 c2
  obtain ⟨fw, aw⟩ := rnd_div fn fd n0 d0 (t := 1023) (by decide) (by
    rw [t2, show 4503599627370496 * (2 * pw 1022 * dv (FP.dadd (FP.dmul W1 p) (FP.dmul W2 r))) = 2 * dv (FP.dadd (FP.dmul W1 p) (FP.dmul W2 r)) * (4503599627370496 * pw 1022) from ac7 _ _ _ _, ← hU]
    exact Int.mul_le_mul_of_nonneg_right nd (by omega))
  rw [t2] at aw
  have w0 : 0 ≤ dv (FP.ddiv (FP.dmul p r) (FP.dadd (FP.dmul W1 p) (FP.dmul W2 r))) := by
    have q := div_ge fn fd (by omega) d0 (fun _ _ _ e => pos_sign n0 e) (fun _ _ _ e => pos_sign d0 e) (val64_fits 0) (by
      rw [show zval b64 (val64 0) = 0 from zero_dv.2, Int.zero_mul]; exact Int.mul_nonneg (by omega) (by omega))
    rw [show zval b64 (val64 0) = 0 from zero_dv.2] at q; exact q
  obtain ⟨w3, k⟩ := own_ana3 E0 hU hi hih hh hj hjs hs c1 c2 d0 nd w0 aw
  exact ⟨fn, fa, fb, fd, fw, w0, w3, k⟩
abbrev TOL : UInt64 := 4517110426252607488
theorem own_TOL : DFin TOL ∧ dv TOL = pw 1054 := ⟨⟨_, _, _, (by decide +kernel : val64 TOL = .fin false 4503599627370496 (-72))⟩, by decide +kernel⟩
/-- the law's last part: w (85 i s + 15 j h) - 100 i j is small -/
theorem own_end {i h j s : Int32} {w : UInt64} {M R : Int32} (hi : 1 ≤ i.toInt) (hih : i.toInt ≤ h.toInt) (hh : h.toInt ≤ 64) (hj : 1 ≤ j.toInt) (hjs : j.toInt ≤ s.toInt) (hs : s.toInt ≤ 64) (hM : M.toInt = 85 * (i.toInt * s.toInt) + 15 * (j.toInt * h.toInt)) (hR : R.toInt = 100 * (i.toInt * j.toInt)) (fw : DFin w) (w0 : 0 ≤ dv w) (w3 : dv w ≤ 3 * oneU)
    (k : Ap (dv w * (85 * (i.toInt * s.toInt) + 15 * (j.toInt * h.toInt))) (100 * (i.toInt * j.toInt) * oneU) (9602 * (pw 1022 * (h.toInt * s.toInt)))) :
    NoNaN64 (FP.dmul w (FP.i2d M)) ∧ NoNaN64 (FP.dsub (FP.dmul w (FP.i2d M)) (FP.i2d R)) ∧ cmpValue (FP.dcmp (FP.dneg TOL) (FP.dsub (FP.dmul w (FP.i2d M)) (FP.i2d R))) .g = -1 ∧ cmpValue (FP.dcmp (FP.dsub (FP.dmul w (FP.i2d M)) (FP.i2d R)) TOL) .g = -1 := by
  obtain ⟨fx, ex⟩ : DFin (FP.i2d M) ∧ dv (FP.i2d M) = M.toInt * oneU := dint_fin (i2d_int M)
  obtain ⟨fy, ey⟩ : DFin (FP.i2d R) ∧ dv (FP.i2d R) = R.toInt * oneU := dint_fin (i2d_int R)
  obtain ⟨d1, d2, d3, d4, d5, d6⟩ := own_D hi hih hh hj hjs hs
  have U0 := oneU_pos
  have E0 := pw_pos 1022
  have hU := own_E
  have t1 : pw 1043 = 2097152 * pw 1022 := own_pwn 1022 21 2097152 rfl
  have t2 : pw 1054 = 4294967296 * pw 1022 := own_pwn 1022 32 4294967296 rfl
  rw [← hM] at k d2 d3
  rw [← hR] at k d2
  generalize i.toInt * j.toInt = I at *
  generalize h.toInt * s.toInt = H at *
  generalize M.toInt = m at *
  generalize R.toInt = r at *
  have big : 4503599627370496 * (pw 1043 * oneU) = 2097152 * (oneU * oneU) := by
    rw [t1, show 4503599627370496 * (2097152 * pw 1022 * oneU) = 2097152 * (4503599627370496 * pw 1022 * oneU) from ac5 _ _ _ _, ← hU]
  have UU : 0 < oneU * oneU := Int.mul_pos U0 U0
  have l1 : dv w * (m * oneU) ≤ 2097152 * (oneU * oneU) := by
    have q1 := Int.mul_le_mul_of_nonneg_right w3 (show 0 ≤ m * oneU from Int.mul_nonneg (by omega) (by omega))
    have q2 : 3 * oneU * (m * oneU) = 3 * m * (oneU * oneU) := by rw [Int.mul_assoc 3 oneU, ac4 oneU m oneU, Int.mul_assoc 3 m]
    have q3 := Int.mul_le_mul_of_nonneg_right (show 3 * m ≤ 2097152 by omega) (show 0 ≤ oneU * oneU by omega)
    omega
  have l0 : 0 ≤ dv w * (m * oneU) := Int.mul_nonneg w0 (Int.mul_nonneg (by omega) (by omega))
  obtain ⟨fL, aL⟩ := rnd_mul fw fx (t := 1043) (by decide) (by rw [big, ex]; omega)
  rw [ex] at aL
  have aL2 : Ap (dv (FP.dmul w (FP.i2d M))) (dv w * m) (pw 1043) := by
    refine Ap.cancel U0 ?_
    have e1 : dv (FP.dmul w (FP.i2d M)) * oneU = oneU * dv (FP.dmul w (FP.i2d M)) := Int.mul_comm _ _
    have e2 : dv w * (m * oneU) = oneU * (dv w * m) := by rw [← Int.mul_assoc, Int.mul_comm]
    rw [← e1, ← e2, Int.mul_comm oneU]; exact aL
  have kk := aL2.trans k
  have k0 : 0 ≤ pw 1022 * H := Int.mul_nonneg (by omega) d5
  have k1 : pw 1022 * H ≤ pw 1022 * 4096 := Int.mul_le_mul_of_nonneg_left d4 (by omega)
  have r1 : r * oneU ≤ 409600 * oneU := Int.mul_le_mul_of_nonneg_right (by omega) (by omega)
  have r0 : 0 ≤ r * oneU := Int.mul_nonneg (by omega) (by omega)
  obtain ⟨fe, ae⟩ := rnd_sub fL fy (t := 1043) (by decide) (by rw [ey, t1]; have a := kk.1; have b := kk.2; omega)
  rw [ey] at ae
  refine ⟨noNaN_of_fin fL, noNaN_of_fin fe, ?_, ?_⟩
  · rw [cmp_dv (neg_fin own_TOL.1).1 fe, (neg_fin own_TOL.1).2, own_TOL.2, (compare_lt_iff _ _).mpr (by have a := kk.1; have b := kk.2; have c := ae.1; have d := ae.2; omega)]; rfl
  · rw [cmp_dv fe own_TOL.1, own_TOL.2, (compare_lt_iff _ _).mpr (by have a := kk.1; have b := kk.2; have c := ae.1; have d := ae.2; omega)]; rfl
end
theorem own_zero : (0 : Int32).toInt = 0 := rfl
theorem own_one : (1 : Int32).toInt = 1 := rfl
theorem own_h {h a : Int32} (q : h = (a &&& 63) + 1) : 1 ≤ h.toInt ∧ h.toInt ≤ 64 ∧ (h + 1).toInt = h.toInt + 1 := by
  have h1 : 0 ≤ (a &&& 63).toInt ∧ (a &&& 63).toInt ≤ 63 := c_and a 63 (by decide)
  have h2 := c_iadd (a &&& 63) 1
  have h3 := rng32 ((a &&& 63) + 1)
  have h4 := own_one
  rw [← q] at h2 h3
  have h5 := c_iadd h 1
  have h6 := rng32 (h + 1)
  omega
theorem own_nz {h a : Int32} (q : h = (a &&& 63) + 1) : h + 1 ≠ 0 := fun z => by
  have h1 := own_h q
  rw [z, own_zero] at h1
  omega
theorem own_i {i h a b : Int32} (q : h = (a &&& 63) + 1) (hi : i = (b &&& 2147483647) % (h + 1)) : 0 ≤ i.toInt ∧ i.toInt ≤ h.toInt := by
  have h1 := own_h q
  have h3 : 0 ≤ (b &&& 2147483647).toInt ∧ (b &&& 2147483647).toInt ≤ 2147483647 := c_and b 2147483647 (by decide)
  have h4 := (c_iremV (b &&& 2147483647) (h + 1)).1 h3.1 (by omega)
  subst hi
  omega
theorem own_prods {i h j s : Int32} (hi : 0 ≤ i.toInt) (hih : i.toInt ≤ h.toInt) (hh : h.toInt ≤ 64) (hj : 0 ≤ j.toInt) (hjs : j.toInt ≤ s.toInt) (hs : s.toInt ≤ 64) : (85 * i * s + 15 * j * h).toInt = 85 * (i.toInt * s.toInt) + 15 * (j.toInt * h.toInt) ∧ (100 * i * j).toInt = 100 * (i.toInt * j.toInt) := by
  have b : ∀ {x y : Int}, 0 ≤ x → x ≤ 64 → 0 ≤ y → y ≤ 64 → 0 ≤ x * y ∧ x * y ≤ 4096 := fun {x y} h1 h2 h3 h4 => by
    have q1 := Int.mul_nonneg h1 h3
    have q2 := Int.mul_le_mul_of_nonneg_right h2 h3
    omega
  have k : ∀ (c x y : Int32) (C : Int), c.toInt = C → 0 ≤ C → C ≤ 100 → 0 ≤ x.toInt → x.toInt ≤ 64 → 0 ≤ y.toInt → y.toInt ≤ 64 → (c * x * y).toInt = C * (x.toInt * y.toInt) := fun c x y C e c0 c1 h1 h2 h3 h4 => by
    have q1 := c_imul c x
    have q2 := rng32 (c * x)
    have q3 := c_imul (c * x) y
    have q4 := rng32 (c * x * y)
    have e1 : (c * x).toInt = C * x.toInt := by
      rw [e] at q1
      have u := Int.mul_nonneg c0 h1
      have v := Int.mul_le_mul_of_nonneg_right c1 h1
      omega
    rw [e1, Int.mul_assoc] at q3
    have w := b h1 h2 h3 h4
    have u := Int.mul_nonneg c0 w.1
    have v := Int.mul_le_mul_of_nonneg_right c1 w.1
    omega
  have k1 := k 85 i s 85 rfl (by decide) (by decide) hi (by omega) (by omega) hs
  have k2 := k 15 j h 15 rfl (by decide) (by decide) hj (by omega) (by omega) hh
  have k3 := k 100 i j 100 rfl (by decide) (by decide) hi (by omega) hj (by omega)
  refine ⟨?_, k3⟩
  have q1 := c_iadd (85 * i * s) (15 * j * h)
  have q2 := rng32 (85 * i * s + 15 * j * h)
  have w1 := b hi (by omega) (show 0 ≤ s.toInt by omega) hs
  have w2 := b hj (by omega) (show 0 ≤ h.toInt by omega) hh
  omega
section
open Jvm.FP Jvm.FP.Core Jvm.Free.Fl
theorem own_pos {x : UInt64} (f : DFin x) (h : 0 < dv x) : cmpValue (FP.dcmp x 0) .l = 1 := cmpV_gt f zero_dv.1 (by rw [zero_dv.2]; exact h) _
theorem own_nil {i h : Int32} (hi : i = 0) (h0 : 0 < h.toInt) : cmpValue (FP.dcmp (FP.ddiv (FP.i2d i) (FP.i2d h)) 0) .l = 0 := by
  obtain ⟨f, b0, b1, b2, b3⟩ := own_quot (k := i) (d := h) (by rw [hi, own_zero]; omega) (by rw [hi, own_zero]; omega) h0
  exact cmpV_eq f zero_dv.1 (by rw [zero_dv.2]; exact b3 (by rw [hi]; rfl)) _
end
set_option maxRecDepth 65536 in
set_option maxHeartbeats 40000000 in
theorem rm1 (l : Launch) (Z : State) (a0 : Array Value) (hw : ∀ d ∈ tables_1, d.before a0 Z = true) (ws : List Jvm.Cond) (n0 : Nat) (p' r' z : UInt64) (h0 : Heap) (hn0 : n0 ≤ h0.size) (hz : (cmpValue (FP.dcmp p' 0) .l = 1 ∧ cmpValue (FP.dcmp r' 0) .l = 1 ∧ FP.Core.DFin (nD p' r') ∧ FP.Core.DFin (aD p') ∧ FP.Core.DFin (bD r') ∧ FP.Core.DFin (dD p' r') ∧ FP.Core.DFin (wD p' r') ∧ z = wD p' r') ∨ (cmpValue (FP.dcmp p' 0) .l = 0 ∧ z = 0) ∨ (cmpValue (FP.dcmp p' 0) .l = 1 ∧ cmpValue (FP.dcmp r' 0) .l = 0 ∧ z = 0)) :
    Con l Z n0 (⟨"com/example/cold_grader/coldgrader/scores/MeaningScore", "weighing", "(DD)D"⟩ : MethodName) prog_119_method_6_code 6 (some .double) ws ({ frames := 0, cells := 0, slots := 0, locals := 0 } : Room) #[(.double p'), (.double r')] h0 (fun v h => v = some (.double z) ∧ h = h0) := by
  refine con_start (plainFor_of_name (by first | (simp [plainName, overriddenIn]; done) | decide +kernel)) (fr0 := fun m => mkF m 0 #[.val (.double p'), .second, .val (.double r'), .second, .unset, .unset] []) (fun m => by first | (simp [entryFrame, mkF, argsToLocals, Value.category]; done) | rfl) ?_
  intro p e s m below meth c T0 hx hZ hby hml hown hnm hret hlk X0
  replace hown : s.vm.findClass "com/example/cold_grader/coldgrader/scores/MeaningScore" = some m.cls := hown
  replace hml : c.maxLocals = 6 := hml
  rcases hz with ⟨h1, h2, f1, f2, f3, f4, f5, rfl⟩ | ⟨h1, rfl⟩ | ⟨h1, h2, rfl⟩
  · skip
    refine g_dconst0 X0 hx (pc' := 1) rfl (hb hby d1_0) ?_
    refine g_dstore X0 hx (pc' := 3) rfl (hb hby d1_1) (l' := #[.val (.double p'), .second, .val (.double r'), .second, .val (.double (0 : UInt64)), .second]) rfl ?_
    refine g_dloadN X0 hx (pc' := 4) rfl (hb hby d1_3) rfl ?_
    refine g_dconst0 X0 hx (pc' := 5) rfl (hb hby d1_4) ?_
    refine g_dcmp X0 hx (pc' := 6) (z := (1 : Int32)) rfl (hb hby d1_5) h1 ?_
    refine g_ifN X0 hx (pcN := 9) (hb hby d1_6) rfl (show ¬ (¬ 0 < (1 : Int32)) from by decide) ?_
    refine g_dloadN X0 hx (pc' := 10) rfl (hb hby d1_9) rfl ?_
    refine g_dconst0 X0 hx (pc' := 11) rfl (hb hby d1_10) ?_
    refine g_dcmp X0 hx (pc' := 12) (z := (1 : Int32)) rfl (hb hby d1_11) h2 ?_
    refine g_ifN X0 hx (pcN := 15) (hb hby d1_12) rfl (show ¬ (¬ 0 < (1 : Int32)) from by decide) ?_
    refine g_dloadN X0 hx (pc' := 16) rfl (hb hby d1_15) rfl ?_
    refine g_dloadN X0 hx (pc' := 17) rfl (hb hby d1_16) rfl ?_
    refine g_dmul X0 hx (pc' := 18) (z := (FP.dmul p' r')) rfl (hb hby d1_17) (noNaN_of_fin f1) rfl ?_
    refine g_ldc2D X0 hx hZ hown (hw _ (List.mem_of_getElem? (i := 5) rfl)) (pc' := 21) (v := (4605831338911806259 : UInt64)) rfl (hb hby d1_18) ?_
    refine g_dloadN X0 hx (pc' := 22) rfl (hb hby d1_21) rfl ?_
    refine g_dmul X0 hx (pc' := 23) (z := (FP.dmul (4605831338911806259 : UInt64) p')) rfl (hb hby d1_22) (noNaN_of_fin f2) rfl ?_
    refine g_ldc2D X0 hx hZ hown (hw _ (List.mem_of_getElem? (i := 6) rfl)) (pc' := 26) (v := (4594572339843380019 : UInt64)) rfl (hb hby d1_23) ?_
    refine g_dloadN X0 hx (pc' := 27) rfl (hb hby d1_26) rfl ?_
    refine g_dmul X0 hx (pc' := 28) (z := (FP.dmul (4594572339843380019 : UInt64) r')) rfl (hb hby d1_27) (noNaN_of_fin f3) rfl ?_
    refine g_dadd X0 hx (pc' := 29) (z := (FP.dadd (FP.dmul (4605831338911806259 : UInt64) p') (FP.dmul (4594572339843380019 : UInt64) r'))) rfl (hb hby d1_28) (noNaN_of_fin f4) rfl ?_
    refine g_ddiv X0 hx (pc' := 30) (z := (FP.ddiv (FP.dmul p' r') (FP.dadd (FP.dmul (4605831338911806259 : UInt64) p') (FP.dmul (4594572339843380019 : UInt64) r')))) rfl (hb hby d1_29) (noNaN_of_fin f5) rfl ?_
    refine g_dstore X0 hx (pc' := 32) rfl (hb hby d1_30) (l' := #[.val (.double p'), .second, .val (.double r'), .second, .val (.double (FP.ddiv (FP.dmul p' r') (FP.dadd (FP.dmul (4605831338911806259 : UInt64) p') (FP.dmul (4594572339843380019 : UInt64) r')))), .second]) rfl ?_
    refine g_dload X0 hx (pc' := 34) rfl (hb hby d1_32) rfl ?_
    exact g_retD X0 hx hlk hret (hb hby d1_34) (by decide) (by decide) (⟨rfl, rfl⟩)
  · skip
    refine g_dconst0 X0 hx (pc' := 1) rfl (hb hby d1_0) ?_
    refine g_dstore X0 hx (pc' := 3) rfl (hb hby d1_1) (l' := #[.val (.double p'), .second, .val (.double r'), .second, .val (.double (0 : UInt64)), .second]) rfl ?_
    refine g_dloadN X0 hx (pc' := 4) rfl (hb hby d1_3) rfl ?_
    refine g_dconst0 X0 hx (pc' := 5) rfl (hb hby d1_4) ?_
    refine g_dcmp X0 hx (pc' := 6) (z := (0 : Int32)) rfl (hb hby d1_5) h1 ?_
    refine g_ifY X0 hx (pcY := 32) (hb hby d1_6) (by decide) (by decide) (show ¬ 0 < (0 : Int32) from by decide) ?_
    refine g_dload X0 hx (pc' := 34) rfl (hb hby d1_32) rfl ?_
    exact g_retD X0 hx hlk hret (hb hby d1_34) (by decide) (by decide) (⟨rfl, rfl⟩)
  · skip
    refine g_dconst0 X0 hx (pc' := 1) rfl (hb hby d1_0) ?_
    refine g_dstore X0 hx (pc' := 3) rfl (hb hby d1_1) (l' := #[.val (.double p'), .second, .val (.double r'), .second, .val (.double (0 : UInt64)), .second]) rfl ?_
    refine g_dloadN X0 hx (pc' := 4) rfl (hb hby d1_3) rfl ?_
    refine g_dconst0 X0 hx (pc' := 5) rfl (hb hby d1_4) ?_
    refine g_dcmp X0 hx (pc' := 6) (z := (1 : Int32)) rfl (hb hby d1_5) h1 ?_
    refine g_ifN X0 hx (pcN := 9) (hb hby d1_6) rfl (show ¬ (¬ 0 < (1 : Int32)) from by decide) ?_
    refine g_dloadN X0 hx (pc' := 10) rfl (hb hby d1_9) rfl ?_
    refine g_dconst0 X0 hx (pc' := 11) rfl (hb hby d1_10) ?_
    refine g_dcmp X0 hx (pc' := 12) (z := (0 : Int32)) rfl (hb hby d1_11) h2 ?_
    refine g_ifY X0 hx (pcY := 32) (hb hby d1_12) (by decide) (by decide) (show ¬ 0 < (0 : Int32) from by decide) ?_
    refine g_dload X0 hx (pc' := 34) rfl (hb hby d1_32) rfl ?_
    exact g_retD X0 hx hlk hret (hb hby d1_34) (by decide) (by decide) (⟨rfl, rfl⟩)
set_option maxRecDepth 65536 in
set_option maxHeartbeats 40000000 in
theorem rm0 (l : Launch) (Z : State) (a0 : Array Value) (hw : ∀ d ∈ tables_1, d.before a0 Z = true) (ws : List Jvm.Cond) (n0 : Nat) (x0 : Int32) (x1 : Int32) (x2 : Int32) (x3 : Int32) (h0 : Heap) (hn0 : n0 ≤ h0.size)  :
    Con l Z n0 x code maxLocals ret ws room_1 #[(.int x0), (.int x1), (.int x2), (.int x3)] h0 (fun v h => v = some (.int 1)) := by
  refine con_start (plainFor_of_name (by first | (simp [plainName, overriddenIn]; done) | decide +kernel)) (fr0 := fun m => mkF m 0 #[.val (.int x0), .val (.int x1), .val (.int x2), .val (.int x3), .unset, .unset, .unset, .unset, .unset, .unset, .unset, .unset, .unset, .unset, .unset, .unset, .unset, .unset, .unset, .unset, .unset, .unset] []) (fun m => by first | (simp [entryFrame, mkF, argsToLocals, Value.category, maxLocals]; done) | rfl) ?_
  intro p e s m below meth c T0 hx hZ hby hml hown hnm hret hlk X0
  replace hown : s.vm.findClass "com/example/cold_grader/coldgrader/scores/MeaningScoreWeighingPinLaw" = some m.cls := hown
  replace hml : c.maxLocals = 22 := hml
  refine g_iloadN X0 hx (pc' := 1) rfl (hb hby at_0) rfl ?_
  refine g_bipush X0 hx (pc' := 3) (z := (63 : Int32)) rfl (hb hby at_1) rfl ?_
  refine g_iand X0 hx (pc' := 4) rfl (hb hby at_3) ?_
  refine g_iconst X0 hx (pc' := 5) (z := (1 : Int32)) rfl (hb hby at_4) rfl ?_
  refine g_iadd X0 hx (pc' := 6) rfl (hb hby at_5) ?_
  refine g_absI (fun h' h_h' => ?_)
  refine g_istore X0 hx (pc' := 8) rfl (hb hby at_6) (l' := #[.val (.int x0), .val (.int x1), .val (.int x2), .val (.int x3), .val (.int h'), .unset, .unset, .unset, .unset, .unset, .unset, .unset, .unset, .unset, .unset, .unset, .unset, .unset, .unset, .unset, .unset, .unset]) rfl ?_
  refine g_iloadN X0 hx (pc' := 9) rfl (hb hby at_8) rfl ?_
  refine g_ldcI X0 hx hZ hown (hw _ (List.mem_of_getElem? (i := 0) rfl)) (pc' := 11) (v := (2147483647 : Int32)) rfl (hb hby at_9) ?_
  refine g_iand X0 hx (pc' := 12) rfl (hb hby at_11) ?_
  refine g_iload X0 hx (pc' := 14) rfl (hb hby at_12) rfl ?_
  refine g_iconst X0 hx (pc' := 15) (z := (1 : Int32)) rfl (hb hby at_14) rfl ?_
  refine g_iadd X0 hx (pc' := 16) rfl (hb hby at_15) ?_
  refine g_irem X0 hx (pc' := 17) rfl (hb hby at_16) (own_nz h_h') ?_
  refine g_absI (fun i h_i => ?_)
  refine g_istore X0 hx (pc' := 19) rfl (hb hby at_17) (l' := #[.val (.int x0), .val (.int x1), .val (.int x2), .val (.int x3), .val (.int h'), .val (.int i), .unset, .unset, .unset, .unset, .unset, .unset, .unset, .unset, .unset, .unset, .unset, .unset, .unset, .unset, .unset, .unset]) rfl ?_
  refine g_iloadN X0 hx (pc' := 20) rfl (hb hby at_19) rfl ?_
  refine g_bipush X0 hx (pc' := 22) (z := (63 : Int32)) rfl (hb hby at_20) rfl ?_
  refine g_iand X0 hx (pc' := 23) rfl (hb hby at_22) ?_
  refine g_iconst X0 hx (pc' := 24) (z := (1 : Int32)) rfl (hb hby at_23) rfl ?_
  refine g_iadd X0 hx (pc' := 25) rfl (hb hby at_24) ?_
  refine g_absI (fun s' h_s' => ?_)
  refine g_istore X0 hx (pc' := 27) rfl (hb hby at_25) (l' := #[.val (.int x0), .val (.int x1), .val (.int x2), .val (.int x3), .val (.int h'), .val (.int i), .val (.int s'), .unset, .unset, .unset, .unset, .unset, .unset, .unset, .unset, .unset, .unset, .unset, .unset, .unset, .unset, .unset]) rfl ?_
  refine g_iloadN X0 hx (pc' := 28) rfl (hb hby at_27) rfl ?_
  refine g_ldcI X0 hx hZ hown (hw _ (List.mem_of_getElem? (i := 0) rfl)) (pc' := 30) (v := (2147483647 : Int32)) rfl (hb hby at_28) ?_
  refine g_iand X0 hx (pc' := 31) rfl (hb hby at_30) ?_
  refine g_iload X0 hx (pc' := 33) rfl (hb hby at_31) rfl ?_
  refine g_iconst X0 hx (pc' := 34) (z := (1 : Int32)) rfl (hb hby at_33) rfl ?_
  refine g_iadd X0 hx (pc' := 35) rfl (hb hby at_34) ?_
  refine g_irem X0 hx (pc' := 36) rfl (hb hby at_35) (own_nz h_s') ?_
  refine g_absI (fun j h_j => ?_)
  refine g_istore X0 hx (pc' := 38) rfl (hb hby at_36) (l' := #[.val (.int x0), .val (.int x1), .val (.int x2), .val (.int x3), .val (.int h'), .val (.int i), .val (.int s'), .val (.int j), .unset, .unset, .unset, .unset, .unset, .unset, .unset, .unset, .unset, .unset, .unset, .unset, .unset, .unset]) rfl ?_
  have bh := own_h h_h'
  have bs := own_h h_s'
  have bi := own_i h_h' h_i
  have bj := own_i h_s' h_j
  have nn1 := (own_quot (k := i) (d := h') bi.1 bi.2 (by omega)).1
  have nn2 := (own_quot (k := j) (d := s') bj.1 bj.2 (by omega)).1
  refine g_iload X0 hx (pc' := 40) rfl (hb hby at_38) rfl ?_
  refine g_i2d X0 hx (pc' := 41) rfl (hb hby at_40) ?_
  refine g_iload X0 hx (pc' := 43) rfl (hb hby at_41) rfl ?_
  refine g_i2d X0 hx (pc' := 44) rfl (hb hby at_43) ?_
  refine g_ddiv X0 hx (pc' := 45) (z := (FP.ddiv (FP.i2d i) (FP.i2d h'))) rfl (hb hby at_44) (noNaN_of_fin nn1) rfl ?_
  refine g_absD (fun pd h_pd => ?_)
  refine g_dstore X0 hx (pc' := 47) rfl (hb hby at_45) (l' := #[.val (.int x0), .val (.int x1), .val (.int x2), .val (.int x3), .val (.int h'), .val (.int i), .val (.int s'), .val (.int j), .val (.double pd), .second, .unset, .unset, .unset, .unset, .unset, .unset, .unset, .unset, .unset, .unset, .unset, .unset]) rfl ?_
  refine g_iload X0 hx (pc' := 49) rfl (hb hby at_47) rfl ?_
  refine g_i2d X0 hx (pc' := 50) rfl (hb hby at_49) ?_
  refine g_iload X0 hx (pc' := 52) rfl (hb hby at_50) rfl ?_
  refine g_i2d X0 hx (pc' := 53) rfl (hb hby at_52) ?_
  refine g_ddiv X0 hx (pc' := 54) (z := (FP.ddiv (FP.i2d j) (FP.i2d s'))) rfl (hb hby at_53) (noNaN_of_fin nn2) rfl ?_
  refine g_absD (fun rd h_rd => ?_)
  refine g_dstore X0 hx (pc' := 56) rfl (hb hby at_54) (l' := #[.val (.int x0), .val (.int x1), .val (.int x2), .val (.int x3), .val (.int h'), .val (.int i), .val (.int s'), .val (.int j), .val (.double pd), .second, .val (.double rd), .second, .unset, .unset, .unset, .unset, .unset, .unset, .unset, .unset, .unset, .unset]) rfl ?_
  rcases (show i = 0 ∨ (¬ i = 0 ∧ j = 0) ∨ (¬ i = 0 ∧ ¬ j = 0) from by by_cases q1 : i = 0 <;> by_cases q2 : j = 0 <;> simp [q1, q2]) with q1 | ⟨q1, q2⟩ | ⟨q1, q2⟩
  · skip
    refine g_dload X0 hx (pc' := 58) rfl (hb hby at_56) rfl ?_
    refine g_dload X0 hx (pc' := 60) rfl (hb hby at_58) rfl ?_
    refine g_callS X0 hx hZ hown (hw _ (List.mem_of_getElem? (i := 1) rfl)) (hw _ (List.mem_of_getElem? (i := 2) rfl)) (hw _ (List.mem_of_getElem? (i := 3) rfl)) (hw _ (List.mem_of_getElem? (i := 4) rfl)) (by decide) (rm1 l Z a0 hw [] n0 pd rd (0 : UInt64) h0 hn0 (Or.inr (Or.inl ⟨by rw [h_pd]; exact own_nil q1 (by omega), rfl⟩))) pd_0 rfl rfl (by rw [hml]; rfl) (pc' := 63) rfl (hb hby at_60) (argsL := [(.double pd), (.double rd)]) (rest := []) rfl (W := 0) (Nat.le_of_eq rfl) (by decide) (by decide) (by decide) (by decide) (fun v1 T1 h1 X1 hQ1 => ?_)
    obtain ⟨rfl, he1⟩ := hQ1
    rw [he1] at X1
    show Go p e below s n0 _ _ _ (T1.setTop (mkF m 63 #[.val (.int x0), .val (.int x1), .val (.int x2), .val (.int x3), .val (.int h'), .val (.int i), .val (.int s'), .val (.int j), .val (.double pd), .second, .val (.double rd), .second, .unset, .unset, .unset, .unset, .unset, .unset, .unset, .unset, .unset, .unset] [(.double (0 : UInt64))]))
    refine g_dstore X1 hx (pc' := 65) rfl (hb hby at_63) (l' := #[.val (.int x0), .val (.int x1), .val (.int x2), .val (.int x3), .val (.int h'), .val (.int i), .val (.int s'), .val (.int j), .val (.double pd), .second, .val (.double rd), .second, .val (.double (0 : UInt64)), .second, .unset, .unset, .unset, .unset, .unset, .unset, .unset, .unset]) rfl ?_
    refine g_iload X1 hx (pc' := 67) rfl (hb hby at_65) rfl ?_
    refine g_ifY X1 hx (pcY := 75) (hb hby at_67) (by decide) (by decide) (show i = 0 from q1) ?_
    refine g_dload X1 hx (pc' := 77) rfl (hb hby at_75) rfl ?_
    refine g_dconst0 X1 hx (pc' := 78) rfl (hb hby at_77) ?_
    refine g_dcmp X1 hx (pc' := 79) (z := (0 : Int32)) rfl (hb hby at_78) (by decide +kernel) ?_
    refine g_ifN X1 hx (pcN := 82) (hb hby at_79) rfl (show ¬ (¬ (0 : Int32) = 0) from not_not_intro rfl) ?_
    refine g_iconst X1 hx (pc' := 83) (z := (1 : Int32)) rfl (hb hby at_82) rfl ?_
    refine g_goto X1 hx (pc' := 87) (hb hby at_83) (by decide) (by decide) ?_
    exact g_retZ X1 hx hlk hret (by first | exact Or.inl rfl | exact Or.inr rfl) (hb hby at_87) (by decide) (by decide) (rfl)
  · skip
    have ni : 1 ≤ i.toInt := by
      have u : i.toInt ≠ 0 := fun u => q1 (Int32.toInt_inj.mp u)
      omega
    have pq := own_pq ni bi.2 bh.2.1
    refine g_dload X0 hx (pc' := 58) rfl (hb hby at_56) rfl ?_
    refine g_dload X0 hx (pc' := 60) rfl (hb hby at_58) rfl ?_
    refine g_callS X0 hx hZ hown (hw _ (List.mem_of_getElem? (i := 1) rfl)) (hw _ (List.mem_of_getElem? (i := 2) rfl)) (hw _ (List.mem_of_getElem? (i := 3) rfl)) (hw _ (List.mem_of_getElem? (i := 4) rfl)) (by decide) (rm1 l Z a0 hw [] n0 pd rd (0 : UInt64) h0 hn0 (Or.inr (Or.inr ⟨by rw [h_pd]; exact own_pos pq.1 pq.2.1, by rw [h_rd]; exact own_nil q2 (by omega), rfl⟩))) pd_0 rfl rfl (by rw [hml]; rfl) (pc' := 63) rfl (hb hby at_60) (argsL := [(.double pd), (.double rd)]) (rest := []) rfl (W := 0) (Nat.le_of_eq rfl) (by decide) (by decide) (by decide) (by decide) (fun v2 T2 h2 X2 hQ2 => ?_)
    obtain ⟨rfl, he2⟩ := hQ2
    rw [he2] at X2
    show Go p e below s n0 _ _ _ (T2.setTop (mkF m 63 #[.val (.int x0), .val (.int x1), .val (.int x2), .val (.int x3), .val (.int h'), .val (.int i), .val (.int s'), .val (.int j), .val (.double pd), .second, .val (.double rd), .second, .unset, .unset, .unset, .unset, .unset, .unset, .unset, .unset, .unset, .unset] [(.double (0 : UInt64))]))
    refine g_dstore X2 hx (pc' := 65) rfl (hb hby at_63) (l' := #[.val (.int x0), .val (.int x1), .val (.int x2), .val (.int x3), .val (.int h'), .val (.int i), .val (.int s'), .val (.int j), .val (.double pd), .second, .val (.double rd), .second, .val (.double (0 : UInt64)), .second, .unset, .unset, .unset, .unset, .unset, .unset, .unset, .unset]) rfl ?_
    refine g_iload X2 hx (pc' := 67) rfl (hb hby at_65) rfl ?_
    refine g_ifN X2 hx (pcN := 70) (hb hby at_67) rfl (show ¬ (i = 0) from q1) ?_
    refine g_iload X2 hx (pc' := 72) rfl (hb hby at_70) rfl ?_
    refine g_ifN X2 hx (pcN := 75) (hb hby at_72) rfl (show ¬ (¬ j = 0) from not_not_intro q2) ?_
    refine g_dload X2 hx (pc' := 77) rfl (hb hby at_75) rfl ?_
    refine g_dconst0 X2 hx (pc' := 78) rfl (hb hby at_77) ?_
    refine g_dcmp X2 hx (pc' := 79) (z := (0 : Int32)) rfl (hb hby at_78) (by decide +kernel) ?_
    refine g_ifN X2 hx (pcN := 82) (hb hby at_79) rfl (show ¬ (¬ (0 : Int32) = 0) from not_not_intro rfl) ?_
    refine g_iconst X2 hx (pc' := 83) (z := (1 : Int32)) rfl (hb hby at_82) rfl ?_
    refine g_goto X2 hx (pc' := 87) (hb hby at_83) (by decide) (by decide) ?_
    exact g_retZ X2 hx hlk hret (by first | exact Or.inl rfl | exact Or.inr rfl) (hb hby at_87) (by decide) (by decide) (rfl)
  · skip
    have ni : 1 ≤ i.toInt := by
      have u : i.toInt ≠ 0 := fun u => q1 (Int32.toInt_inj.mp u)
      omega
    have nj : 1 ≤ j.toInt := by
      have u : j.toInt ≠ 0 := fun u => q2 (Int32.toInt_inj.mp u)
      omega
    have pq := own_pq ni bi.2 bh.2.1
    have rq := own_pq nj bj.2 bs.2.1
    rw [← h_pd] at pq
    rw [← h_rd] at rq
    have wt := own_wt ni bi.2 bh.2.1 nj bj.2 bs.2.1 pq.1 pq.2.1 pq.2.2.1 pq.2.2.2 rq.1 rq.2.1 rq.2.2.1 rq.2.2.2
    have pr := own_prods bi.1 bi.2 bh.2.1 bj.1 bj.2 bs.2.1
    have en := own_end ni bi.2 bh.2.1 nj bj.2 bs.2.1 pr.1 pr.2 wt.2.2.2.2.1 wt.2.2.2.2.2.1 wt.2.2.2.2.2.2.1 wt.2.2.2.2.2.2.2
    refine g_dload X0 hx (pc' := 58) rfl (hb hby at_56) rfl ?_
    refine g_dload X0 hx (pc' := 60) rfl (hb hby at_58) rfl ?_
    refine g_callS X0 hx hZ hown (hw _ (List.mem_of_getElem? (i := 1) rfl)) (hw _ (List.mem_of_getElem? (i := 2) rfl)) (hw _ (List.mem_of_getElem? (i := 3) rfl)) (hw _ (List.mem_of_getElem? (i := 4) rfl)) (by decide) (rm1 l Z a0 hw [] n0 pd rd (wD pd rd) h0 hn0 (Or.inl ⟨own_pos pq.1 pq.2.1, own_pos rq.1 rq.2.1, wt.1, wt.2.1, wt.2.2.1, wt.2.2.2.1, wt.2.2.2.2.1, rfl⟩)) pd_0 rfl rfl (by rw [hml]; rfl) (pc' := 63) rfl (hb hby at_60) (argsL := [(.double pd), (.double rd)]) (rest := []) rfl (W := 0) (Nat.le_of_eq rfl) (by decide) (by decide) (by decide) (by decide) (fun v3 T3 h3 X3 hQ3 => ?_)
    obtain ⟨rfl, he3⟩ := hQ3
    rw [he3] at X3
    show Go p e below s n0 _ _ _ (T3.setTop (mkF m 63 #[.val (.int x0), .val (.int x1), .val (.int x2), .val (.int x3), .val (.int h'), .val (.int i), .val (.int s'), .val (.int j), .val (.double pd), .second, .val (.double rd), .second, .unset, .unset, .unset, .unset, .unset, .unset, .unset, .unset, .unset, .unset] [(.double (wD pd rd))]))
    refine g_dstore X3 hx (pc' := 65) rfl (hb hby at_63) (l' := #[.val (.int x0), .val (.int x1), .val (.int x2), .val (.int x3), .val (.int h'), .val (.int i), .val (.int s'), .val (.int j), .val (.double pd), .second, .val (.double rd), .second, .val (.double (wD pd rd)), .second, .unset, .unset, .unset, .unset, .unset, .unset, .unset, .unset]) rfl ?_
    refine g_iload X3 hx (pc' := 67) rfl (hb hby at_65) rfl ?_
    refine g_ifN X3 hx (pcN := 70) (hb hby at_67) rfl (show ¬ (i = 0) from q1) ?_
    refine g_iload X3 hx (pc' := 72) rfl (hb hby at_70) rfl ?_
    refine g_ifY X3 hx (pcY := 88) (hb hby at_72) (by decide) (by decide) (show ¬ j = 0 from q2) ?_
    refine g_dload X3 hx (pc' := 90) rfl (hb hby at_88) rfl ?_
    refine g_bipush X3 hx (pc' := 92) (z := (85 : Int32)) rfl (hb hby at_90) rfl ?_
    refine g_iload X3 hx (pc' := 94) rfl (hb hby at_92) rfl ?_
    refine g_imul X3 hx (pc' := 95) rfl (hb hby at_94) ?_
    refine g_iload X3 hx (pc' := 97) rfl (hb hby at_95) rfl ?_
    refine g_imul X3 hx (pc' := 98) rfl (hb hby at_97) ?_
    refine g_bipush X3 hx (pc' := 100) (z := (15 : Int32)) rfl (hb hby at_98) rfl ?_
    refine g_iload X3 hx (pc' := 102) rfl (hb hby at_100) rfl ?_
    refine g_imul X3 hx (pc' := 103) rfl (hb hby at_102) ?_
    refine g_iload X3 hx (pc' := 105) rfl (hb hby at_103) rfl ?_
    refine g_imul X3 hx (pc' := 106) rfl (hb hby at_105) ?_
    refine g_iadd X3 hx (pc' := 107) rfl (hb hby at_106) ?_
    refine g_i2d X3 hx (pc' := 108) rfl (hb hby at_107) ?_
    refine g_dmul X3 hx (pc' := 109) (z := (FP.dmul (wD pd rd) (FP.i2d ((((85 : Int32) * i) * s') + (((15 : Int32) * j) * h'))))) rfl (hb hby at_108) en.1 rfl ?_
    refine g_dstore X3 hx (pc' := 111) rfl (hb hby at_109) (l' := #[.val (.int x0), .val (.int x1), .val (.int x2), .val (.int x3), .val (.int h'), .val (.int i), .val (.int s'), .val (.int j), .val (.double pd), .second, .val (.double rd), .second, .val (.double (wD pd rd)), .second, .val (.double (FP.dmul (wD pd rd) (FP.i2d ((((85 : Int32) * i) * s') + (((15 : Int32) * j) * h'))))), .second, .unset, .unset, .unset, .unset, .unset, .unset]) rfl ?_
    refine g_bipush X3 hx (pc' := 113) (z := (100 : Int32)) rfl (hb hby at_111) rfl ?_
    refine g_iload X3 hx (pc' := 115) rfl (hb hby at_113) rfl ?_
    refine g_imul X3 hx (pc' := 116) rfl (hb hby at_115) ?_
    refine g_iload X3 hx (pc' := 118) rfl (hb hby at_116) rfl ?_
    refine g_imul X3 hx (pc' := 119) rfl (hb hby at_118) ?_
    refine g_i2d X3 hx (pc' := 120) rfl (hb hby at_119) ?_
    refine g_dstore X3 hx (pc' := 122) rfl (hb hby at_120) (l' := #[.val (.int x0), .val (.int x1), .val (.int x2), .val (.int x3), .val (.int h'), .val (.int i), .val (.int s'), .val (.int j), .val (.double pd), .second, .val (.double rd), .second, .val (.double (wD pd rd)), .second, .val (.double (FP.dmul (wD pd rd) (FP.i2d ((((85 : Int32) * i) * s') + (((15 : Int32) * j) * h'))))), .second, .val (.double (FP.i2d (((100 : Int32) * i) * j))), .second, .unset, .unset, .unset, .unset]) rfl ?_
    refine g_dload X3 hx (pc' := 124) rfl (hb hby at_122) rfl ?_
    refine g_dload X3 hx (pc' := 126) rfl (hb hby at_124) rfl ?_
    refine g_dsub X3 hx (pc' := 127) (z := (FP.dsub (FP.dmul (wD pd rd) (FP.i2d ((((85 : Int32) * i) * s') + (((15 : Int32) * j) * h')))) (FP.i2d (((100 : Int32) * i) * j)))) rfl (hb hby at_126) en.2.1 rfl ?_
    refine g_dstore X3 hx (pc' := 129) rfl (hb hby at_127) (l' := #[.val (.int x0), .val (.int x1), .val (.int x2), .val (.int x3), .val (.int h'), .val (.int i), .val (.int s'), .val (.int j), .val (.double pd), .second, .val (.double rd), .second, .val (.double (wD pd rd)), .second, .val (.double (FP.dmul (wD pd rd) (FP.i2d ((((85 : Int32) * i) * s') + (((15 : Int32) * j) * h'))))), .second, .val (.double (FP.i2d (((100 : Int32) * i) * j))), .second, .val (.double (FP.dsub (FP.dmul (wD pd rd) (FP.i2d ((((85 : Int32) * i) * s') + (((15 : Int32) * j) * h')))) (FP.i2d (((100 : Int32) * i) * j)))), .second, .unset, .unset]) rfl ?_
    refine g_ldc2D X3 hx hZ hown (hw _ (List.mem_of_getElem? (i := 7) rfl)) (pc' := 132) (v := (4517110426252607488 : UInt64)) rfl (hb hby at_129) ?_
    refine g_dstore X3 hx (pc' := 134) rfl (hb hby at_132) (l' := #[.val (.int x0), .val (.int x1), .val (.int x2), .val (.int x3), .val (.int h'), .val (.int i), .val (.int s'), .val (.int j), .val (.double pd), .second, .val (.double rd), .second, .val (.double (wD pd rd)), .second, .val (.double (FP.dmul (wD pd rd) (FP.i2d ((((85 : Int32) * i) * s') + (((15 : Int32) * j) * h'))))), .second, .val (.double (FP.i2d (((100 : Int32) * i) * j))), .second, .val (.double (FP.dsub (FP.dmul (wD pd rd) (FP.i2d ((((85 : Int32) * i) * s') + (((15 : Int32) * j) * h')))) (FP.i2d (((100 : Int32) * i) * j)))), .second, .val (.double (4517110426252607488 : UInt64)), .second]) rfl ?_
    refine g_dload X3 hx (pc' := 136) rfl (hb hby at_134) rfl ?_
    refine g_dneg X3 hx (pc' := 137) rfl (hb hby at_136) ?_
    refine g_dload X3 hx (pc' := 139) rfl (hb hby at_137) rfl ?_
    refine g_dcmp X3 hx (pc' := 140) (z := (-1 : Int32)) rfl (hb hby at_139) en.2.2.1 ?_
    refine g_ifN X3 hx (pcN := 143) (hb hby at_140) rfl (show ¬ (¬ (-1 : Int32) < 0) from by decide) ?_
    refine g_dload X3 hx (pc' := 145) rfl (hb hby at_143) rfl ?_
    refine g_dload X3 hx (pc' := 147) rfl (hb hby at_145) rfl ?_
    refine g_dcmp X3 hx (pc' := 148) (z := (-1 : Int32)) rfl (hb hby at_147) en.2.2.2 ?_
    refine g_ifN X3 hx (pcN := 151) (hb hby at_148) rfl (show ¬ (¬ (-1 : Int32) < 0) from by decide) ?_
    refine g_iconst X3 hx (pc' := 152) (z := (1 : Int32)) rfl (hb hby at_151) rfl ?_
    refine g_goto X3 hx (pc' := 156) (hb hby at_152) (by decide) (by decide) ?_
    exact g_retZ X3 hx hlk hret (by first | exact Or.inl rfl | exact Or.inr rfl) (hb hby at_156) (by decide) (by decide) (rfl)
set_option maxRecDepth 65536 in
set_option maxHeartbeats 40000000 in
theorem comes_1 {Post : Tables → Env → Array Value → State → Outcome → State → Prop} (hpost : ∀ tb e args s v u, (limb_1_1.after args s (.returned v) u = true ∧ limb_1_2.after args s (.returned v) u = true ∧ True) → FrameEnd s (.returned v) u (Jvm.fieldLocs frame_1_writes args s ++ Jvm.arrayLocs frame_1_arrays args s ++ Jvm.staticLocs frame_1_statics s) 0 0 → Post tb e args s (.returned v) u) :
    ArmFor flags0 classFile x code maxLocals ret World_1 tables_1 room_1 Calls_1 rest_1 Pre_1 Post := by
  intro l hfl _ _ p e ha hc hk s m args below hf hA hF happ hP
  obtain ⟨hcalls, hrest, hpre⟩ := hP
  obtain ⟨-, -, -, hnamed, -, -, -, hat⟩ := (Spec.applies_iff hf).mp happ
  obtain ⟨hg, hn⟩ := and_e (Cond.before_iff.mp (show (Jvm.Cond.and given_1 narrow_1).before args s = true from hpre))
  obtain ⟨hcount, hg0⟩ := and_e hg
  obtain ⟨ha0, hg1⟩ := and_e hg0
  obtain ⟨ha1, hg2⟩ := and_e hg1
  obtain ⟨ha2, hg3⟩ := and_e hg2
  have ha3 := hg3
  obtain ⟨w0, w1, w2, w3, rfl⟩ : ∃ w0 w1 w2 w3 : Value, args = #[w0, w1, w2, w3] := by
    have hs : args.size = 4 := by simpa [Cond.value, given_1] using hcount
    obtain ⟨L⟩ := args
    match L, hs with
    | [w0, w1, w2, w3], _ => exact ⟨w0, w1, w2, w3, rfl⟩
  have hw := fun d (hd : d ∈ tables_1) => atoms_spec (ws := Jvm.Cond.code x code maxLocals ret :: tables_1) hat d (List.mem_cons_of_mem _ hd)
  obtain ⟨i0, ei0⟩ := is_v ha0
  obtain rfl : w0 = (.int i0) := Option.some.inj ei0
  obtain ⟨i1, ei1⟩ := is_v ha1
  obtain rfl : w1 = (.int i1) := Option.some.inj ei1
  obtain ⟨i2, ei2⟩ := is_v ha2
  obtain rfl : w2 = (.int i2) := Option.some.inj ei2
  obtain ⟨i3, ei3⟩ := is_v ha3
  obtain rfl : w3 = (.int i3) := Option.some.inj ei3
  obtain ⟨n, o, h1, h2, h3, _, L, rfl, ⟨N, rfl⟩, hq⟩ := rm0 l s _ hw tables_1 s.heap.size i0 i1 i2 i3 s.heap (Nat.le_refl _)  p e ha hc hk s m _ below hf ((Spec.applies_iff_loose hf).mp happ).1 ⟨rfl, State.Warmed39.refl s, rfl⟩ trivial
  refine ⟨n, _, h1, h2, h3, hpost _ _ _ _ _ _ ⟨Cond.after_iff.mpr rfl, Cond.after_iff.mpr (eq_i res_at (Term.int_eval (1)) rfl), trivial⟩ ⟨hq.1, hq.2.1, (hq.2.2.sift fun y hy => Or.inr (N y hy)).mono (by decide) (by decide)⟩⟩
theorem main_1_1 : Claimed_1_1 := comes_1 fun _ _ _ _ _ _ h hF => ⟨h.1, hF⟩
theorem main_1_2 : Claimed_1_2 := comes_1 fun _ _ _ _ _ _ h hF => ⟨h.2.1, hF⟩
end Jvm.Pilot.@@N@@
-- WITNESS
namespace Jvm.Pilot.@@N@@
open Jvm Jvm.ClassFile Sem Op Lib Jvm.Free Jvm.Stand Jvm.Pilot.@@N@@.Jvm.D
/-! MADE BY PROGRAM (witnessworld.py) out of the Statement's table words and the real class files: 11 classes; the members and pool entries that the words name. The judged class is class 1, her method 1. -/
namespace start1
open Jvm.ClassFile
def u (s : String) : CpInfo := .utf8 (stringToUtf16 s)
/-- a pool by its gaps: so many unusable entries, then the entry; so many at the end -/
def gap : Nat → List CpInfo → List CpInfo
  | 0, r => r
  | n + 1, r => .unusable :: gap n r
def poolList (es : List (Nat × CpInfo)) (last : Nat) : List CpInfo := es.foldr (fun e r => gap e.1 (e.2 :: r)) (gap last [])
def pool (es : List (Nat × CpInfo)) (last : Nat) : Array CpInfo := ⟨poolList es last⟩
def fileOf (pool : Array CpInfo) (this : Nat) (attrs : Array Attribute := #[]) (ms : Array MethodInfo := #[]) (fl : Nat := 33) (sup : Nat := 0) (ifs : Array Nat := #[]) (fds : Array FieldInfo := #[]) : ClassFile where
  minorVersion := 0
  majorVersion := 65
  constantPool := pool
  accessFlags := fl
  thisClass := this
  superClass := sup
  interfaces := ifs
  fields := fds
  methods := ms
  attributes := attrs
def plain (name : String) (sup : Option ClassId) : Class where
  name := name
  kind := .ordinary
  loader := none
  accessFlags := 33
  super := sup
  interfaces := #[]
  cf := none
  fields := #[]
  methods := #[]
  instanceTypes := #[]
  staticTypes := #[]
  resolved := #[]
  callSites := []
  init := .initialized
  statics := none
  mirror := none

def pool0 : Array CpInfo := pool [(5, u "<init>"), (0, u "()V"), (1, .class_ 10), (1, u "java/lang/Object")] 113

def k0m0 : Method := { name := "<init>", desc := "()V", sig := { parameters := [], returnType := none }, accessFlags := 1, code := none }
/-- java/lang/Object -/
def k0 : Class := { plain "java/lang/Object" none with
  accessFlags := 33
  interfaces := #[]
  cf := some (fileOf pool0 8 #[] #[{ accessFlags := 1, nameIndex := 5, descriptorIndex := 6, attributes := #[] }] 33 0 #[] #[])
  fields := #[]
  methods := #[k0m0]
  instanceTypes := #[]
  staticTypes := #[]
  resolved := Array.replicate 124 none
  statics := none }

def pool1 : Array CpInfo := pool [(2, .class_ 4), (1, u "java/lang/Object"), (0, u "<init>"), (0, u "()V"), (0, .integer 2147483647), (0, .methodref 9 10), (0, .class_ 11), (0, .nameAndType 12 13), (0, u "com/example/cold_grader/coldgrader/scores/MeaningScore"), (0, u "weighing"), (0, u "(DD)D"), (0, .double 4517110426252607488), (1, .class_ 17), (0, u "com/example/cold_grader/coldgrader/scores/MeaningScoreWeighingPinLaw"), (2, u "law"), (0, u "(IIII)Z")] 3

def k1m0 : Method := { name := "<init>", desc := "()V", sig := { parameters := [], returnType := none }, accessFlags := 2, code := none }
def k1c1 : Code := { maxStack := 5, maxLocals := 22, code := code, exceptionTable := #[], attributes := #[] }
def k1m1 : Method := { name := "law", desc := "(IIII)Z", sig := { parameters := [.int, .int, .int, .int], returnType := some .boolean }, accessFlags := 9, code := some k1c1 }
/-- com/example/cold_grader/coldgrader/scores/MeaningScoreWeighingPinLaw -/
def k1 : Class := { plain "com/example/cold_grader/coldgrader/scores/MeaningScoreWeighingPinLaw" (some 0) with
  accessFlags := 49
  interfaces := #[]
  cf := some (fileOf pool1 16 #[] #[{ accessFlags := 2, nameIndex := 5, descriptorIndex := 6, attributes := #[] }, { accessFlags := 9, nameIndex := 20, descriptorIndex := 21, attributes := #[] }] 49 2 #[] #[])
  fields := #[]
  methods := #[k1m0, k1m1]
  instanceTypes := #[]
  staticTypes := #[]
  resolved := Array.replicate 25 none
  statics := none }

def pool2 : Array CpInfo := pool [(2, .class_ 4), (1, u "java/lang/Object"), (0, u "<init>"), (0, u "()V"), (0, .class_ 8), (0, u "java/lang/Record")] 13

def k2m0 : Method := { name := "<init>", desc := "()V", sig := { parameters := [], returnType := none }, accessFlags := 4, code := none }
/-- java/lang/Record -/
def k2 : Class := { plain "java/lang/Record" (some 0) with
  accessFlags := 1057
  interfaces := #[]
  cf := some (fileOf pool2 7 #[] #[{ accessFlags := 4, nameIndex := 5, descriptorIndex := 6, attributes := #[] }] 1057 2 #[] #[])
  fields := #[]
  methods := #[k2m0]
  instanceTypes := #[]
  staticTypes := #[]
  resolved := Array.replicate 22 none
  statics := none }

def pool3 : Array CpInfo := pool [(28, .class_ 29), (0, u "com/example/cold_grader/coldgrader/scores/SentenceScore"), (8, .class_ 39), (0, u "java/lang/Object")] 11

/-- com/example/cold_grader/coldgrader/scores/SentenceScore -/
def k3 : Class := { plain "com/example/cold_grader/coldgrader/scores/SentenceScore" (some 0) with
  accessFlags := 1537
  interfaces := #[]
  cf := some (fileOf pool3 28 #[] #[] 1537 38 #[] #[])
  fields := #[]
  methods := #[]
  instanceTypes := #[]
  staticTypes := #[]
  resolved := Array.replicate 51 none
  statics := none }

def pool4 : Array CpInfo := pool [(2, .class_ 4), (1, u "java/lang/Record"), (12, .class_ 19), (1, u "com/example/cold_grader/coldgrader/scores/MeaningScore"), (0, u "matched"), (0, u "I"), (2, u "hypothesisWords"), (2, u "sourceWords"), (9, u "weighing"), (0, u "(DD)D"), (4, .double 4605831338911806259), (1, .double 4594572339843380019), (14, .class_ 61), (0, u "com/example/cold_grader/coldgrader/scores/SentenceScore"), (0, u "PRECISION_WEIGHT"), (0, u "D"), (1, u "RECALL_WEIGHT")] 42

def k4c0 : Code := { maxStack := 8, maxLocals := 6, code := prog_119_method_6_code, exceptionTable := #[], attributes := #[] }
def k4m0 : Method := { name := "weighing", desc := "(DD)D", sig := { parameters := [.double, .double], returnType := some .double }, accessFlags := 9, code := some k4c0 }
/-- com/example/cold_grader/coldgrader/scores/MeaningScore -/
def k4 : Class := { plain "com/example/cold_grader/coldgrader/scores/MeaningScore" (some 2) with
  accessFlags := 49
  interfaces := #[3]
  cf := some (fileOf pool4 17 #[] #[{ accessFlags := 9, nameIndex := 37, descriptorIndex := 38, attributes := #[] }] 49 2 #[60] #[{ accessFlags := 18, nameIndex := 20, descriptorIndex := 21, attributes := #[] }, { accessFlags := 18, nameIndex := 24, descriptorIndex := 21, attributes := #[] }, { accessFlags := 18, nameIndex := 27, descriptorIndex := 21, attributes := #[] }, { accessFlags := 26, nameIndex := 62, descriptorIndex := 63, attributes := #[] }, { accessFlags := 26, nameIndex := 65, descriptorIndex := 63, attributes := #[] }])
  fields := #[{ name := "matched", type := .int, accessFlags := 18, slot := 0, constantValue := 0 }, { name := "hypothesisWords", type := .int, accessFlags := 18, slot := 1, constantValue := 0 }, { name := "sourceWords", type := .int, accessFlags := 18, slot := 2, constantValue := 0 }, { name := "PRECISION_WEIGHT", type := .double, accessFlags := 26, slot := 0, constantValue := 0 }, { name := "RECALL_WEIGHT", type := .double, accessFlags := 26, slot := 1, constantValue := 0 }]
  methods := #[k4m0]
  instanceTypes := #[.int, .int, .int]
  staticTypes := #[.double, .double]
  resolved := Array.replicate 108 none
  statics := none }

def pool5 : Array CpInfo := pool [(1, u "java/lang/Cloneable"), (0, .class_ 1), (0, u "java/lang/Object"), (0, .class_ 3)] 3

/-- java/lang/Cloneable -/
def k5 : Class := { plain "java/lang/Cloneable" (some 0) with
  accessFlags := 1537
  interfaces := #[]
  cf := some (fileOf pool5 2 #[] #[] 1537 4 #[] #[])
  fields := #[]
  methods := #[]
  instanceTypes := #[]
  staticTypes := #[]
  resolved := Array.replicate 8 none
  statics := none }

def pool6 : Array CpInfo := pool [(1, u "java/io/Serializable"), (0, .class_ 1), (0, u "java/lang/Object"), (0, .class_ 3)] 3

/-- java/io/Serializable -/
def k6 : Class := { plain "java/io/Serializable" (some 0) with
  accessFlags := 1537
  interfaces := #[]
  cf := some (fileOf pool6 2 #[] #[] 1537 4 #[] #[])
  fields := #[]
  methods := #[]
  instanceTypes := #[]
  staticTypes := #[]
  resolved := Array.replicate 8 none
  statics := none }

/-- the primitive byte -/
def k7 : Class := { plain "byte" none with kind := .primitive 'B', accessFlags := 0x411 }
/-- [B -/
def k8 : Class := { plain "[B" (some 0) with kind := .array 7 .byte, interfaces := #[5, 6], accessFlags := 1041 }

/-- the primitive int -/
def k9 : Class := { plain "int" none with kind := .primitive 'I', accessFlags := 0x411 }
/-- [I -/
def k10 : Class := { plain "[I" (some 0) with kind := .array 9 .int, interfaces := #[5, 6], accessFlags := 1041 }

def heap : Heap := #[]
def classes : Array Class := #[k0, k1, k2, k3, k4, k5, k6, k7, k8, k9, k10]
def interned : List (Array UInt16 × Addr) := []
def slotsUsed : Nat := 0
def theMethod : MethodId := ⟨1, 1⟩
def args0 : Array Value := #[.int 5, .int 3, .int 2, .int 7]
def aboutOver (below : List Frame) : State where
  vm := { classes := classes, interned := interned.toArray }
  heap := heap
  slotsUsed := slotsUsed
  threads := #[{ frames := .invoking theMethod args0 :: below }]
def below0 : List Frame := [.native { method := ⟨0, 0⟩, args := #[] }]
def about1 : State := aboutOver below0
def p0 : Program := .bare "" "" ""
def e0 : Env := launch0.env 0 0 0
theorem w_frames : about1.frames = Frame.invoking theMethod args0 :: below0 := rfl
set_option maxRecDepth 65536 in
theorem w_args : argsFit about1.vm theMethod args0 = true := by decide +kernel
set_option maxRecDepth 65536 in
theorem w_heap : heapFits about1 = true := by decide +kernel
set_option maxRecDepth 65536 in
theorem w_runnable : about1.curStatus? = some .runnable := by decide +kernel
set_option maxRecDepth 65536 in
theorem w_alone : about1.alone = true := by decide +kernel
set_option maxRecDepth 65536 in
theorem w_named : about1.methodNamed? x = some theMethod := by decide +kernel
set_option maxRecDepth 65536 in
theorem w_hears : about1.hears theMethod below0 = true := by decide +kernel
set_option maxRecDepth 65536 in
theorem w_ripe : about1.ripe theMethod args0 below0 = true := by decide +kernel
theorem w_running : about1.status = .running := rfl
set_option maxRecDepth 65536 in
theorem w_room : about1.hasRoom e0.platform room_1 = true :=
  launch0.hasRoom_least _ room_1 (by decide +kernel) (by decide +kernel) (by decide +kernel) (by decide +kernel) (by decide +kernel) (by decide +kernel)
theorem allAtoms_all (ts : List Jvm.Cond) (a : Array Jvm.Value) (st : Jvm.State) : (allAtoms ts).before a st = ts.all (fun c => c.before a st) := by
  induction ts with
  | nil => rfl
  | cons c t ih =>
    show (Jvm.Cond.and c (allAtoms t)).before a st = _
    rw [Jvm.Cond.before_and, ih, List.all_cons]
def words1 : List Jvm.Cond := Jvm.Cond.code x code maxLocals ret :: tables_1
/-- a 'code' word, met by the world's own term for the bytes: nothing is compared byte by byte -/
theorem code_word {y : MethodName} {bytes : ByteArray} {mx : Nat} {rt : Option FieldType} {a : Array Value} {s : State} {m : MethodId} {meth : Method} {c : Code} (h1 : s.methodNamed? y = some m) (h2 : s.vm.method? m = some meth) (h3 : meth.code = some c) (h4 : c.code = bytes)
    (h5 : (c.maxLocals == mx && c.exceptionTable.isEmpty && decide (c.maxStack ≤ mostOperands) && decide (meth.sig.returnType = rt) && !meth.locks && decide (parseMethodDescriptor y.desc = some meth.sig)) = true) : (Jvm.Cond.code y bytes mx rt).before a s = true := by
  simp only [Bool.and_eq_true, beq_iff_eq, Bool.not_eq_true', decide_eq_true_eq] at h5
  obtain ⟨⟨⟨⟨⟨g1, g2⟩, g3⟩, g4⟩, g5⟩, g6⟩ := h5
  simp [Cond.before, Cond.holds, Cond.value, h1, h2, h3, h4, g1, g2, g3, g4, g5, g6]
def isCode : Jvm.Cond → Bool
  | .code _ _ _ _ => true
  | _ => false
theorem all_split {L : List Jvm.Cond} {P : Jvm.Cond → Bool} (h1 : L.all (fun c => isCode c || P c) = true) (h2 : ∀ c ∈ L.filter isCode, P c = true) : L.all P = true := by
  refine List.all_eq_true.mpr fun c hc => ?_
  have h := List.all_eq_true.mp h1 c hc
  rcases Bool.eq_false_or_eq_true (isCode c) with hi | hi
  · exact h2 c (List.mem_filter.mpr ⟨hc, hi⟩)
  · simpa [hi] using h
set_option maxRecDepth 65536 in
theorem w_c0 : (Jvm.Cond.code x code maxLocals ret).before args0 about1 = true := code_word (m := ⟨1, 1⟩) (meth := k1m1) (c := k1c1) (by decide +kernel) rfl rfl rfl (by decide +kernel)
set_option maxRecDepth 65536 in
theorem w_c1 : (Jvm.Cond.code ({ cls := "com/example/cold_grader/coldgrader/scores/MeaningScore", name := "weighing", desc := "(DD)D" } : Jvm.MethodName) prog_119_method_6_code (6 : Nat) (Option.some Jvm.ClassFile.FieldType.double)).before args0 about1 = true := code_word (m := ⟨4, 0⟩) (meth := k4m0) (c := k4c0) (by decide +kernel) rfl rfl rfl (by decide +kernel)
def codes1 : List Jvm.Cond := [Jvm.Cond.code x code maxLocals ret, Jvm.Cond.code ({ cls := "com/example/cold_grader/coldgrader/scores/MeaningScore", name := "weighing", desc := "(DD)D" } : Jvm.MethodName) prog_119_method_6_code (6 : Nat) (Option.some Jvm.ClassFile.FieldType.double)]
set_option maxRecDepth 65536 in
theorem codes_eq : words1.filter isCode = codes1 := rfl
theorem w_codes : ∀ c ∈ words1.filter isCode, c.before args0 about1 = true := by
  rw [codes_eq]
  intro c hc
  simp only [codes1, List.mem_cons, List.not_mem_nil, or_false] at hc
  rcases hc with rfl | rfl
  · exact w_c0
  · exact w_c1
set_option maxRecDepth 65536 in
theorem w_t1 : words1.all (fun c => isCode c || c.before args0 about1) = true := by decide +kernel
theorem w_tables : (allAtoms (Jvm.Cond.code x code maxLocals ret :: tables_1)).before args0 about1 = true := by
  rw [allAtoms_all]
  show words1.all (fun c => c.before args0 about1) = true
  refine all_split ?_ w_codes
  rw [w_t1]
set_option maxRecDepth 65536 in
theorem w_case : (Jvm.Cond.and given_1 narrow_1).before args0 about1 = true := by decide +kernel
theorem w_applies : (headSpec (Jvm.Cond.code x code maxLocals ret :: tables_1) room_1).applies x e0.platform about1 = true :=
  (Spec.applies_iff w_frames).mpr ⟨w_running, w_runnable, w_alone, w_named, w_hears, w_ripe, w_room, w_tables⟩
theorem atStart : AtStart classFile x code maxLocals ret World_1 tables_1 room_1 Calls_1 rest_1 Pre_1 launch0 p0 e0 about1 theMethod args0 below0 :=
  ⟨lists_1, trivial, launch0.admits_env _ _ _, launch0.least_env, fairChoices_fair.cas, fairChoices_fair.clock, w_frames, w_args, w_heap, w_applies, trivial, trivial, w_case⟩
end start1
theorem witness_1 : WitnessClaimed_1 := ⟨start1.p0, start1.e0, start1.about1, start1.theMethod, start1.args0, start1.below0, start1.atStart⟩
end Jvm.Pilot.@@N@@
