import JvmDerived
import JvmDerived.Pilot.@@N@@Statement
import JvmDerived.Pilot.@@N@@Code
set_option linter.unusedVariables false
set_option linter.unusedSimpArgs false
namespace Jvm.Pilot.@@N@@
open Jvm Jvm.ClassFile Sem Op Lib Jvm.Free Jvm.Stand Jvm.LawKit Jvm.RoadKit Bundle Jvm.Pilot.@@N@@.Jvm.D
section OwnKit
open Jvm.FP Jvm.Free.Fl
variable {p : Program} {l : Launch} {e : Env} {R : Room} {s : State} {m : MethodId} {args : Array Value} {below : List Frame} {meth : Method} {c : Code} {T : State} {Z : State} {a0 : Array Value} {h : Heap} {n0 cells slots nc ns pc pc' : Nat} {Ls : Array Slot} {st rest : List Value} {Q : Option Value → Heap → Prop}
/-- a contract: the method returns, what it leaves is Q, and nothing below n0 is written -/
def Con (l : Launch) (Z : State) (n0 : Nat) (y : MethodName) (bytes : ByteArray) (ml : Nat) (ret : Option FieldType) (ws : List Jvm.Cond) (rm : Room) (as : Array Value) (h0 : Heap) (Q : Option Value → Heap → Prop) : Prop :=
  MetFree l y (head1 (Jvm.Cond.code y bytes ml ret :: ws) rm) (fun a U => a = as ∧ Z.Warmed39 U.vm ∧ U.heap = h0) (fun _ _ _ _ _ => True) (fun _ U o U' => ∃ v L, o = .returned v ∧ (Fr n0 L ∧ Q v U'.heap) ∧ FrameEnd U o U' L rm.cells rm.slots)
/-- where a walk stands, the places written kept to themselves -/
def Wk (p : Program) (l : Launch) (e : Env) (R : Room) (s : State) (m : MethodId) (args : Array Value) (below : List Frame) (meth : Method) (c : Code) (n0 : Nat) (T : State) (h : Heap) (cells slots : Nat) : Prop :=
  ∃ locs, Stand p l e R s m args below meth c T locs cells slots ∧ Fr n0 locs ∧ T.heap = h
/-- from t the run ends, and leaves Q -/
def Go (p : Program) (e : Env) (below : List Frame) (s : State) (n0 : Nat) (Q : Option Value → Heap → Prop) (nc ns : Nat) (t : State) : Prop :=
  ∃ s₂ o, Steps p.tables e below t s₂ ∧ s₂.status = .running ∧ Ended s₂ below o ∧ ∃ v L, o = .returned v ∧ (Fr n0 L ∧ Q v s₂.heap) ∧ FrameEnd s o s₂ L nc ns
theorem Wk.here (X : Wk p l e R s m args below meth c n0 T h cells slots) : At T m c below := by obtain ⟨_, X, -⟩ := X; exact X.here
theorem Wk.heap (X : Wk p l e R s m args below meth c n0 T h cells slots) : T.heap = h := by obtain ⟨_, -, -, q⟩ := X; exact q
theorem go_back {t t' : State} (b : ∀ target, Steps p.tables e below t' target → Steps p.tables e below t target) (k : Go p e below s n0 Q nc ns t') : Go p e below s n0 Q nc ns t := by
  obtain ⟨u, o, h1, r⟩ := k
  exact ⟨u, o, b u h1, r⟩
theorem con_start {y : MethodName} {bytes : ByteArray} {ml : Nat} {ret : Option FieldType} {ws : List Jvm.Cond} {rm : Room} {as : Array Value} {h0 : Heap} (hpl : plainFor y = true) {fr0 : MethodId → JFrame} (hfr : ∀ m, entryFrame m as ml = fr0 m)
    (k : ∀ (p : Program) (e : Env) (s : State) (m : MethodId) (below : List Frame) (meth : Method) (c : Code) (s₁ : State), p.tables.exec = Jvm.exec → Z.Warmed39 s.vm → c.code = bytes → c.maxLocals = ml → s.vm.findClass y.cls = some m.cls → meth.name = y.name → meth.sig.returnType = ret → meth.locks = false →
      Wk p l e rm s m as below meth c n0 s₁ h0 0 0 → Go p e below s n0 Q rm.cells rm.slots (s₁.setTop (fr0 m))) : Con l Z n0 y bytes ml ret ws rm as h0 Q := by
  refine MetFree.of_bodySF hpl hisR ?_
  intro p e s m args below meth c s₁ Bd hml0 hP hK
  obtain ⟨rfl, hZ, hh⟩ := hP
  rw [hfr]
  exact k p e s m below meth c s₁ Bd.exec hZ Bd.bytes hml0 (findClass_of_methodNamed Bd.named) (name_of_methodNamed Bd.named Bd.method).1 Bd.returns Bd.notSynchronized ⟨[], Stand.of_body Bd, Fr.nil n0, by rw [← hh, Bd.state]; rfl⟩
/-- what an int branch asks -/
def cP : ClassFile.Cond → Int32 → Int32 → Prop
  | .eq, x, y => x = y
  | .ne, x, y => ¬ x = y
  | .lt, x, y => x < y
  | .ge, x, y => ¬ x < y
  | .gt, x, y => y < x
  | .le, x, y => ¬ y < x
theorem cP_yes {cd : ClassFile.Cond} {x y : Int32} (q : cP cd x y) : if_icmp.holds cd x y = true := by
  cases cd
  · exact (teq q).1
  · exact (feq q).2
  · exact (tlt q).1
  · exact (flt q).2.1
  · exact (tlt q).2.2.1
  · exact (flt q).2.2.2
theorem cP_no {cd : ClassFile.Cond} {x y : Int32} (q : ¬ cP cd x y) : if_icmp.holds cd x y = false := by
  cases cd
  · exact (feq q).1
  · exact (teq (Classical.not_not.mp q)).2
  · exact (flt q).1
  · exact (tlt (Classical.not_not.mp q)).2.1
  · exact (flt q).2.2.1
  · exact (tlt (Classical.not_not.mp q)).2.2.2
theorem g_iload (X : Wk p l e R s m args below meth c n0 T h cells slots) (hx : p.tables.exec = Jvm.exec) {k : Nat} {v : Int32} (hp : pc + 2 = pc') (hd : decode c.code pc = .ok (.iload k, 2)) (hl : Ls[k]? = some (.val (.int v))) (k : Go p e below s n0 Q nc ns (T.setTop (mkF m pc' Ls (.int v :: st)))) : Go p e below s n0 Q nc ns (T.setTop (mkF m pc Ls (st))) := by
  subst hp; exact go_back (fun _ j => XS.iload X.here hx rfl hd hl j) k
theorem g_iloadN (X : Wk p l e R s m args below meth c n0 T h cells slots) (hx : p.tables.exec = Jvm.exec) {k : Fin 4} {v : Int32} (hp : pc + 1 = pc') (hd : decode c.code pc = .ok (.iload_n k, 1)) (hl : Ls[k.val]? = some (.val (.int v))) (k : Go p e below s n0 Q nc ns (T.setTop (mkF m pc' Ls (.int v :: st)))) : Go p e below s n0 Q nc ns (T.setTop (mkF m pc Ls (st))) := by
  subst hp; exact go_back (fun _ j => XS.iloadN X.here hx rfl hd hl j) k
theorem g_istore (X : Wk p l e R s m args below meth c n0 T h cells slots) (hx : p.tables.exec = Jvm.exec) {k : Nat} {x : Int32} {l' : Array Slot} (hp : pc + 2 = pc') (hd : decode c.code pc = .ok (.istore k, 2)) (hl : storeLocals Ls k (.int x) = some l') (k : Go p e below s n0 Q nc ns (T.setTop (mkF m pc' l' (rest)))) : Go p e below s n0 Q nc ns (T.setTop (mkF m pc Ls (.int x :: rest))) := by
  subst hp; exact go_back (fun _ j => XS.istore X.here hx rfl hd rfl hl j) k
theorem g_istoreN (X : Wk p l e R s m args below meth c n0 T h cells slots) (hx : p.tables.exec = Jvm.exec) {k : Fin 4} {x : Int32} {l' : Array Slot} (hp : pc + 1 = pc') (hd : decode c.code pc = .ok (.istore_n k, 1)) (hl : storeLocals Ls k.val (.int x) = some l') (k : Go p e below s n0 Q nc ns (T.setTop (mkF m pc' l' (rest)))) : Go p e below s n0 Q nc ns (T.setTop (mkF m pc Ls (.int x :: rest))) := by
  subst hp; exact go_back (fun _ j => XS.istoreN X.here hx rfl hd rfl hl j) k
theorem g_absI {x : Int32} (k : ∀ z : Int32, z = x → Go p e below s n0 Q nc ns (T.setTop (mkF m pc Ls (.int z :: rest)))) : Go p e below s n0 Q nc ns (T.setTop (mkF m pc Ls (.int x :: rest))) := k x rfl
theorem g_lload (X : Wk p l e R s m args below meth c n0 T h cells slots) (hx : p.tables.exec = Jvm.exec) {k : Nat} {v : Int64} (hp : pc + 2 = pc') (hd : decode c.code pc = .ok (.lload k, 2)) (hl : Ls[k]? = some (.val (.long v))) (k : Go p e below s n0 Q nc ns (T.setTop (mkF m pc' Ls (.long v :: st)))) : Go p e below s n0 Q nc ns (T.setTop (mkF m pc Ls (st))) := by
  subst hp; exact go_back (fun _ j => XS.lload X.here hx rfl hd hl j) k
theorem g_lloadN (X : Wk p l e R s m args below meth c n0 T h cells slots) (hx : p.tables.exec = Jvm.exec) {k : Fin 4} {v : Int64} (hp : pc + 1 = pc') (hd : decode c.code pc = .ok (.lload_n k, 1)) (hl : Ls[k.val]? = some (.val (.long v))) (k : Go p e below s n0 Q nc ns (T.setTop (mkF m pc' Ls (.long v :: st)))) : Go p e below s n0 Q nc ns (T.setTop (mkF m pc Ls (st))) := by
  subst hp; exact go_back (fun _ j => XS.lloadN X.here hx rfl hd hl j) k
theorem g_lstore (X : Wk p l e R s m args below meth c n0 T h cells slots) (hx : p.tables.exec = Jvm.exec) {k : Nat} {x : Int64} {l' : Array Slot} (hp : pc + 2 = pc') (hd : decode c.code pc = .ok (.lstore k, 2)) (hl : storeLocals Ls k (.long x) = some l') (k : Go p e below s n0 Q nc ns (T.setTop (mkF m pc' l' (rest)))) : Go p e below s n0 Q nc ns (T.setTop (mkF m pc Ls (.long x :: rest))) := by
  subst hp; exact go_back (fun _ j => XS.lstore X.here hx rfl hd rfl hl j) k
theorem g_lstoreN (X : Wk p l e R s m args below meth c n0 T h cells slots) (hx : p.tables.exec = Jvm.exec) {k : Fin 4} {x : Int64} {l' : Array Slot} (hp : pc + 1 = pc') (hd : decode c.code pc = .ok (.lstore_n k, 1)) (hl : storeLocals Ls k.val (.long x) = some l') (k : Go p e below s n0 Q nc ns (T.setTop (mkF m pc' l' (rest)))) : Go p e below s n0 Q nc ns (T.setTop (mkF m pc Ls (.long x :: rest))) := by
  subst hp; exact go_back (fun _ j => XS.lstoreN X.here hx rfl hd rfl hl j) k
theorem g_absL {x : Int64} (k : ∀ z : Int64, z = x → Go p e below s n0 Q nc ns (T.setTop (mkF m pc Ls (.long z :: rest)))) : Go p e below s n0 Q nc ns (T.setTop (mkF m pc Ls (.long x :: rest))) := k x rfl
theorem g_dload (X : Wk p l e R s m args below meth c n0 T h cells slots) (hx : p.tables.exec = Jvm.exec) {k : Nat} {v : UInt64} (hp : pc + 2 = pc') (hd : decode c.code pc = .ok (.dload k, 2)) (hl : Ls[k]? = some (.val (.double v))) (k : Go p e below s n0 Q nc ns (T.setTop (mkF m pc' Ls (.double v :: st)))) : Go p e below s n0 Q nc ns (T.setTop (mkF m pc Ls (st))) := by
  subst hp; exact go_back (fun _ j => XS.dload X.here hx rfl hd hl j) k
theorem g_dloadN (X : Wk p l e R s m args below meth c n0 T h cells slots) (hx : p.tables.exec = Jvm.exec) {k : Fin 4} {v : UInt64} (hp : pc + 1 = pc') (hd : decode c.code pc = .ok (.dload_n k, 1)) (hl : Ls[k.val]? = some (.val (.double v))) (k : Go p e below s n0 Q nc ns (T.setTop (mkF m pc' Ls (.double v :: st)))) : Go p e below s n0 Q nc ns (T.setTop (mkF m pc Ls (st))) := by
  subst hp; exact go_back (fun _ j => XS.dloadN X.here hx rfl hd hl j) k
theorem g_dstore (X : Wk p l e R s m args below meth c n0 T h cells slots) (hx : p.tables.exec = Jvm.exec) {k : Nat} {x : UInt64} {l' : Array Slot} (hp : pc + 2 = pc') (hd : decode c.code pc = .ok (.dstore k, 2)) (hl : storeLocals Ls k (.double x) = some l') (k : Go p e below s n0 Q nc ns (T.setTop (mkF m pc' l' (rest)))) : Go p e below s n0 Q nc ns (T.setTop (mkF m pc Ls (.double x :: rest))) := by
  subst hp; exact go_back (fun _ j => XS.dstore X.here hx rfl hd rfl hl j) k
theorem g_dstoreN (X : Wk p l e R s m args below meth c n0 T h cells slots) (hx : p.tables.exec = Jvm.exec) {k : Fin 4} {x : UInt64} {l' : Array Slot} (hp : pc + 1 = pc') (hd : decode c.code pc = .ok (.dstore_n k, 1)) (hl : storeLocals Ls k.val (.double x) = some l') (k : Go p e below s n0 Q nc ns (T.setTop (mkF m pc' l' (rest)))) : Go p e below s n0 Q nc ns (T.setTop (mkF m pc Ls (.double x :: rest))) := by
  subst hp; exact go_back (fun _ j => XS.dstoreN X.here hx rfl hd rfl hl j) k
theorem g_absD {x : UInt64} (k : ∀ z : UInt64, z = x → Go p e below s n0 Q nc ns (T.setTop (mkF m pc Ls (.double z :: rest)))) : Go p e below s n0 Q nc ns (T.setTop (mkF m pc Ls (.double x :: rest))) := k x rfl
theorem g_aload (X : Wk p l e R s m args below meth c n0 T h cells slots) (hx : p.tables.exec = Jvm.exec) {k : Nat} {v : Value} (hp : pc + 2 = pc') (hd : decode c.code pc = .ok (.aload k, 2)) (hl : Ls[k]? = some (.val v)) (hv : v.isRef = true) (k : Go p e below s n0 Q nc ns (T.setTop (mkF m pc' Ls (v :: st)))) : Go p e below s n0 Q nc ns (T.setTop (mkF m pc Ls (st))) := by
  subst hp; exact go_back (fun _ j => XS.aload X.here hx rfl hd hl hv j) k
theorem g_aloadN (X : Wk p l e R s m args below meth c n0 T h cells slots) (hx : p.tables.exec = Jvm.exec) {k : Fin 4} {v : Value} (hp : pc + 1 = pc') (hd : decode c.code pc = .ok (.aload_n k, 1)) (hl : Ls[k.val]? = some (.val v)) (hv : v.isRef = true) (k : Go p e below s n0 Q nc ns (T.setTop (mkF m pc' Ls (v :: st)))) : Go p e below s n0 Q nc ns (T.setTop (mkF m pc Ls (st))) := by
  subst hp; exact go_back (fun _ j => XS.aloadN X.here hx rfl hd hl hv j) k
theorem g_astore (X : Wk p l e R s m args below meth c n0 T h cells slots) (hx : p.tables.exec = Jvm.exec) {k : Nat} {x : Value} {l' : Array Slot} (hp : pc + 2 = pc') (hd : decode c.code pc = .ok (.astore k, 2)) (hv : x.isRef = true) (hl : storeLocals Ls k x = some l') (k : Go p e below s n0 Q nc ns (T.setTop (mkF m pc' l' (rest)))) : Go p e below s n0 Q nc ns (T.setTop (mkF m pc Ls (x :: rest))) := by
  subst hp; exact go_back (fun _ j => XS.astore X.here hx rfl hd rfl hv hl j) k
theorem g_astoreN (X : Wk p l e R s m args below meth c n0 T h cells slots) (hx : p.tables.exec = Jvm.exec) {k : Fin 4} {x : Value} {l' : Array Slot} (hp : pc + 1 = pc') (hd : decode c.code pc = .ok (.astore_n k, 1)) (hv : x.isRef = true) (hl : storeLocals Ls k.val x = some l') (k : Go p e below s n0 Q nc ns (T.setTop (mkF m pc' l' (rest)))) : Go p e below s n0 Q nc ns (T.setTop (mkF m pc Ls (x :: rest))) := by
  subst hp; exact go_back (fun _ j => XS.astoreN X.here hx rfl hd rfl hv hl j) k
theorem g_iconst (X : Wk p l e R s m args below meth c n0 T h cells slots) (hx : p.tables.exec = Jvm.exec) {i : Int} {z : Int32} (hp : pc + 1 = pc') (hd : decode c.code pc = .ok (.iconst i, 1)) (hz : Int32.ofInt i = z) (k : Go p e below s n0 Q nc ns (T.setTop (mkF m pc' Ls (.int z :: st)))) : Go p e below s n0 Q nc ns (T.setTop (mkF m pc Ls (st))) := by
  subst hp; exact go_back (fun _ j => XS.iconst X.here hx rfl hd (show Steps _ _ _ (T.setTop (mkF m (pc + 1) Ls (.int (Int32.ofInt i) :: st))) _ from hz ▸ j)) k
theorem g_bipush (X : Wk p l e R s m args below meth c n0 T h cells slots) (hx : p.tables.exec = Jvm.exec) {i : Int} {z : Int32} (hp : pc + 2 = pc') (hd : decode c.code pc = .ok (.bipush i, 2)) (hz : (Int8.ofInt i).toInt32 = z) (k : Go p e below s n0 Q nc ns (T.setTop (mkF m pc' Ls (.int z :: st)))) : Go p e below s n0 Q nc ns (T.setTop (mkF m pc Ls (st))) := by
  subst hp; exact go_back (fun _ j => XS.bipush X.here hx rfl hd (show Steps _ _ _ (T.setTop (mkF m (pc + 2) Ls (.int (Int8.ofInt i).toInt32 :: st))) _ from hz ▸ j)) k
theorem g_sipush (X : Wk p l e R s m args below meth c n0 T h cells slots) (hx : p.tables.exec = Jvm.exec) {i : Int} {z : Int32} (hp : pc + 3 = pc') (hd : decode c.code pc = .ok (.sipush i, 3)) (hz : (Int16.ofInt i).toInt32 = z) (k : Go p e below s n0 Q nc ns (T.setTop (mkF m pc' Ls (.int z :: st)))) : Go p e below s n0 Q nc ns (T.setTop (mkF m pc Ls (st))) := by
  subst hp; exact go_back (fun _ j => XS.sipush X.here hx rfl hd (show Steps _ _ _ (T.setTop (mkF m (pc + 3) Ls (.int (Int16.ofInt i).toInt32 :: st))) _ from hz ▸ j)) k
theorem g_lconst (X : Wk p l e R s m args below meth c n0 T h cells slots) (hx : p.tables.exec = Jvm.exec) {i : Fin 2} {z : Int64} (hp : pc + 1 = pc') (hd : decode c.code pc = .ok (.lconst i, 1)) (hz : Int64.ofNat i = z) (k : Go p e below s n0 Q nc ns (T.setTop (mkF m pc' Ls (.long z :: st)))) : Go p e below s n0 Q nc ns (T.setTop (mkF m pc Ls (st))) := by
  subst hp; exact go_back (fun _ j => XS.lconst X.here hx rfl hd (show Steps _ _ _ (T.setTop (mkF m (pc + 1) Ls (.long (Int64.ofNat i) :: st))) _ from hz ▸ j)) k
theorem g_dconst0 (X : Wk p l e R s m args below meth c n0 T h cells slots) (hx : p.tables.exec = Jvm.exec)  (hp : pc + 1 = pc') (hd : decode c.code pc = .ok (.dconst 0, 1))  (k : Go p e below s n0 Q nc ns (T.setTop (mkF m pc' Ls (.double 0 :: st)))) : Go p e below s n0 Q nc ns (T.setTop (mkF m pc Ls (st))) := by
  subst hp; exact go_back (fun _ j => XS.dconst0 X.here hx rfl hd rfl j) k
theorem g_dconst1 (X : Wk p l e R s m args below meth c n0 T h cells slots) (hx : p.tables.exec = Jvm.exec)  (hp : pc + 1 = pc') (hd : decode c.code pc = .ok (.dconst 1, 1))  (k : Go p e below s n0 Q nc ns (T.setTop (mkF m pc' Ls (.double 4607182418800017408 :: st)))) : Go p e below s n0 Q nc ns (T.setTop (mkF m pc Ls (st))) := by
  subst hp; exact go_back (fun _ j => XS.dconst1 X.here hx rfl hd rfl j) k
theorem g_aconst_null (X : Wk p l e R s m args below meth c n0 T h cells slots) (hx : p.tables.exec = Jvm.exec)  (hp : pc + 1 = pc') (hd : decode c.code pc = .ok (.aconst_null, 1))  (k : Go p e below s n0 Q nc ns (T.setTop (mkF m pc' Ls (.null :: st)))) : Go p e below s n0 Q nc ns (T.setTop (mkF m pc Ls (st))) := by
  subst hp; exact go_back (fun _ j => XS.aconstNull X.here hx rfl hd j) k
theorem g_iadd (X : Wk p l e R s m args below meth c n0 T h cells slots) (hx : p.tables.exec = Jvm.exec) {x y : Int32} (hp : pc + 1 = pc') (hd : decode c.code pc = .ok (.iadd, 1))  (k : Go p e below s n0 Q nc ns (T.setTop (mkF m pc' Ls (.int (x + y) :: rest)))) : Go p e below s n0 Q nc ns (T.setTop (mkF m pc Ls (.int y :: .int x :: rest))) := by
  subst hp; exact go_back (fun _ j => XS.iadd X.here hx rfl hd rfl j) k
theorem g_ladd (X : Wk p l e R s m args below meth c n0 T h cells slots) (hx : p.tables.exec = Jvm.exec) {x y : Int64} (hp : pc + 1 = pc') (hd : decode c.code pc = .ok (.ladd, 1))  (k : Go p e below s n0 Q nc ns (T.setTop (mkF m pc' Ls (.long (x + y) :: rest)))) : Go p e below s n0 Q nc ns (T.setTop (mkF m pc Ls (.long y :: .long x :: rest))) := by
  subst hp; exact go_back (fun _ j => XS.ladd X.here hx rfl hd rfl j) k
theorem g_isub (X : Wk p l e R s m args below meth c n0 T h cells slots) (hx : p.tables.exec = Jvm.exec) {x y : Int32} (hp : pc + 1 = pc') (hd : decode c.code pc = .ok (.isub, 1))  (k : Go p e below s n0 Q nc ns (T.setTop (mkF m pc' Ls (.int (x - y) :: rest)))) : Go p e below s n0 Q nc ns (T.setTop (mkF m pc Ls (.int y :: .int x :: rest))) := by
  subst hp; exact go_back (fun _ j => XS.isub X.here hx rfl hd rfl j) k
theorem g_lsub (X : Wk p l e R s m args below meth c n0 T h cells slots) (hx : p.tables.exec = Jvm.exec) {x y : Int64} (hp : pc + 1 = pc') (hd : decode c.code pc = .ok (.lsub, 1))  (k : Go p e below s n0 Q nc ns (T.setTop (mkF m pc' Ls (.long (x - y) :: rest)))) : Go p e below s n0 Q nc ns (T.setTop (mkF m pc Ls (.long y :: .long x :: rest))) := by
  subst hp; exact go_back (fun _ j => XS.lsub X.here hx rfl hd rfl j) k
theorem g_imul (X : Wk p l e R s m args below meth c n0 T h cells slots) (hx : p.tables.exec = Jvm.exec) {x y : Int32} (hp : pc + 1 = pc') (hd : decode c.code pc = .ok (.imul, 1))  (k : Go p e below s n0 Q nc ns (T.setTop (mkF m pc' Ls (.int (x * y) :: rest)))) : Go p e below s n0 Q nc ns (T.setTop (mkF m pc Ls (.int y :: .int x :: rest))) := by
  subst hp; exact go_back (fun _ j => XS.imul X.here hx rfl hd rfl j) k
theorem g_lmul (X : Wk p l e R s m args below meth c n0 T h cells slots) (hx : p.tables.exec = Jvm.exec) {x y : Int64} (hp : pc + 1 = pc') (hd : decode c.code pc = .ok (.lmul, 1))  (k : Go p e below s n0 Q nc ns (T.setTop (mkF m pc' Ls (.long (x * y) :: rest)))) : Go p e below s n0 Q nc ns (T.setTop (mkF m pc Ls (.long y :: .long x :: rest))) := by
  subst hp; exact go_back (fun _ j => XS.lmul X.here hx rfl hd rfl j) k
theorem g_iand (X : Wk p l e R s m args below meth c n0 T h cells slots) (hx : p.tables.exec = Jvm.exec) {x y : Int32} (hp : pc + 1 = pc') (hd : decode c.code pc = .ok (.iand, 1))  (k : Go p e below s n0 Q nc ns (T.setTop (mkF m pc' Ls (.int (x &&& y) :: rest)))) : Go p e below s n0 Q nc ns (T.setTop (mkF m pc Ls (.int y :: .int x :: rest))) := by
  subst hp; exact go_back (fun _ j => XS.iand X.here hx rfl hd rfl j) k
theorem g_land (X : Wk p l e R s m args below meth c n0 T h cells slots) (hx : p.tables.exec = Jvm.exec) {x y : Int64} (hp : pc + 1 = pc') (hd : decode c.code pc = .ok (.land, 1))  (k : Go p e below s n0 Q nc ns (T.setTop (mkF m pc' Ls (.long (x &&& y) :: rest)))) : Go p e below s n0 Q nc ns (T.setTop (mkF m pc Ls (.long y :: .long x :: rest))) := by
  subst hp; exact go_back (fun _ j => XS.land X.here hx rfl hd rfl j) k
theorem g_ior (X : Wk p l e R s m args below meth c n0 T h cells slots) (hx : p.tables.exec = Jvm.exec) {x y : Int32} (hp : pc + 1 = pc') (hd : decode c.code pc = .ok (.ior, 1))  (k : Go p e below s n0 Q nc ns (T.setTop (mkF m pc' Ls (.int (x ||| y) :: rest)))) : Go p e below s n0 Q nc ns (T.setTop (mkF m pc Ls (.int y :: .int x :: rest))) := by
  subst hp; exact go_back (fun _ j => XS.ior X.here hx rfl hd rfl j) k
theorem g_lor (X : Wk p l e R s m args below meth c n0 T h cells slots) (hx : p.tables.exec = Jvm.exec) {x y : Int64} (hp : pc + 1 = pc') (hd : decode c.code pc = .ok (.lor, 1))  (k : Go p e below s n0 Q nc ns (T.setTop (mkF m pc' Ls (.long (x ||| y) :: rest)))) : Go p e below s n0 Q nc ns (T.setTop (mkF m pc Ls (.long y :: .long x :: rest))) := by
  subst hp; exact go_back (fun _ j => XS.lor X.here hx rfl hd rfl j) k
theorem g_ixor (X : Wk p l e R s m args below meth c n0 T h cells slots) (hx : p.tables.exec = Jvm.exec) {x y : Int32} (hp : pc + 1 = pc') (hd : decode c.code pc = .ok (.ixor, 1))  (k : Go p e below s n0 Q nc ns (T.setTop (mkF m pc' Ls (.int (x ^^^ y) :: rest)))) : Go p e below s n0 Q nc ns (T.setTop (mkF m pc Ls (.int y :: .int x :: rest))) := by
  subst hp; exact go_back (fun _ j => XS.ixor X.here hx rfl hd rfl j) k
theorem g_lxor (X : Wk p l e R s m args below meth c n0 T h cells slots) (hx : p.tables.exec = Jvm.exec) {x y : Int64} (hp : pc + 1 = pc') (hd : decode c.code pc = .ok (.lxor, 1))  (k : Go p e below s n0 Q nc ns (T.setTop (mkF m pc' Ls (.long (x ^^^ y) :: rest)))) : Go p e below s n0 Q nc ns (T.setTop (mkF m pc Ls (.long y :: .long x :: rest))) := by
  subst hp; exact go_back (fun _ j => XS.lxor X.here hx rfl hd rfl j) k
theorem g_idiv (X : Wk p l e R s m args below meth c n0 T h cells slots) (hx : p.tables.exec = Jvm.exec) {x y : Int32} (hp : pc + 1 = pc') (hd : decode c.code pc = .ok (.idiv, 1)) (hy : y ≠ 0) (k : Go p e below s n0 Q nc ns (T.setTop (mkF m pc' Ls (.int (x / y) :: rest)))) : Go p e below s n0 Q nc ns (T.setTop (mkF m pc Ls (.int y :: .int x :: rest))) := by
  subst hp; exact go_back (fun _ j => XS.idiv X.here hx rfl hd rfl hy j) k
theorem g_irem (X : Wk p l e R s m args below meth c n0 T h cells slots) (hx : p.tables.exec = Jvm.exec) {x y : Int32} (hp : pc + 1 = pc') (hd : decode c.code pc = .ok (.irem, 1)) (hy : y ≠ 0) (k : Go p e below s n0 Q nc ns (T.setTop (mkF m pc' Ls (.int (x % y) :: rest)))) : Go p e below s n0 Q nc ns (T.setTop (mkF m pc Ls (.int y :: .int x :: rest))) := by
  subst hp; obtain ⟨_, X, -⟩ := X; exact go_back (fun _ j => iremM X hx (g := mkF m pc Ls (.int y :: .int x :: rest)) rfl hd rfl hy j) k
theorem g_ldiv (X : Wk p l e R s m args below meth c n0 T h cells slots) (hx : p.tables.exec = Jvm.exec) {x y : Int64} (hp : pc + 1 = pc') (hd : decode c.code pc = .ok (.ldiv, 1)) (hy : y ≠ 0) (k : Go p e below s n0 Q nc ns (T.setTop (mkF m pc' Ls (.long (x / y) :: rest)))) : Go p e below s n0 Q nc ns (T.setTop (mkF m pc Ls (.long y :: .long x :: rest))) := by
  subst hp; exact go_back (fun _ j => XS.ldiv X.here hx rfl hd rfl hy j) k
theorem g_lrem (X : Wk p l e R s m args below meth c n0 T h cells slots) (hx : p.tables.exec = Jvm.exec) {x y : Int64} (hp : pc + 1 = pc') (hd : decode c.code pc = .ok (.lrem, 1)) (hy : y ≠ 0) (k : Go p e below s n0 Q nc ns (T.setTop (mkF m pc' Ls (.long (x - (x / y) * y) :: rest)))) : Go p e below s n0 Q nc ns (T.setTop (mkF m pc Ls (.long y :: .long x :: rest))) := by
  subst hp; exact go_back (fun _ j => XS.lrem X.here hx rfl hd rfl hy j) k
theorem g_ishl (X : Wk p l e R s m args below meth c n0 T h cells slots) (hx : p.tables.exec = Jvm.exec) {x y : Int32} (hp : pc + 1 = pc') (hd : decode c.code pc = .ok (.ishl, 1))  (k : Go p e below s n0 Q nc ns (T.setTop (mkF m pc' Ls (.int (x <<< (y &&& 31)) :: rest)))) : Go p e below s n0 Q nc ns (T.setTop (mkF m pc Ls (.int y :: .int x :: rest))) := by
  subst hp; exact go_back (fun _ j => XS.ishl X.here hx rfl hd rfl j) k
theorem g_ishr (X : Wk p l e R s m args below meth c n0 T h cells slots) (hx : p.tables.exec = Jvm.exec) {x y : Int32} (hp : pc + 1 = pc') (hd : decode c.code pc = .ok (.ishr, 1))  (k : Go p e below s n0 Q nc ns (T.setTop (mkF m pc' Ls (.int (x >>> (y &&& 31)) :: rest)))) : Go p e below s n0 Q nc ns (T.setTop (mkF m pc Ls (.int y :: .int x :: rest))) := by
  subst hp; exact go_back (fun _ j => XS.ishr X.here hx rfl hd rfl j) k
theorem g_iushr (X : Wk p l e R s m args below meth c n0 T h cells slots) (hx : p.tables.exec = Jvm.exec) {x y : Int32} (hp : pc + 1 = pc') (hd : decode c.code pc = .ok (.iushr, 1))  (k : Go p e below s n0 Q nc ns (T.setTop (mkF m pc' Ls (.int ((x.toUInt32 >>> (y &&& 31).toUInt32).toInt32) :: rest)))) : Go p e below s n0 Q nc ns (T.setTop (mkF m pc Ls (.int y :: .int x :: rest))) := by
  subst hp; exact go_back (fun _ j => XS.iushr X.here hx rfl hd rfl j) k
theorem g_lshl (X : Wk p l e R s m args below meth c n0 T h cells slots) (hx : p.tables.exec = Jvm.exec) {x : Int64} {y : Int32} (hp : pc + 1 = pc') (hd : decode c.code pc = .ok (.lshl, 1))  (k : Go p e below s n0 Q nc ns (T.setTop (mkF m pc' Ls (.long (x <<< (y &&& 0x3f).toInt64) :: rest)))) : Go p e below s n0 Q nc ns (T.setTop (mkF m pc Ls (.int y :: .long x :: rest))) := by
  subst hp; exact go_back (fun _ j => XS.lshl X.here hx rfl hd rfl j) k
theorem g_lshr (X : Wk p l e R s m args below meth c n0 T h cells slots) (hx : p.tables.exec = Jvm.exec) {x : Int64} {y : Int32} (hp : pc + 1 = pc') (hd : decode c.code pc = .ok (.lshr, 1))  (k : Go p e below s n0 Q nc ns (T.setTop (mkF m pc' Ls (.long (x >>> (y &&& 0x3f).toInt64) :: rest)))) : Go p e below s n0 Q nc ns (T.setTop (mkF m pc Ls (.int y :: .long x :: rest))) := by
  subst hp; exact go_back (fun _ j => XS.lshr X.here hx rfl hd rfl j) k
theorem g_lushr (X : Wk p l e R s m args below meth c n0 T h cells slots) (hx : p.tables.exec = Jvm.exec) {x : Int64} {y : Int32} (hp : pc + 1 = pc') (hd : decode c.code pc = .ok (.lushr, 1))  (k : Go p e below s n0 Q nc ns (T.setTop (mkF m pc' Ls (.long ((x.toUInt64 >>> (y &&& 0x3f).toInt64.toUInt64).toInt64) :: rest)))) : Go p e below s n0 Q nc ns (T.setTop (mkF m pc Ls (.int y :: .long x :: rest))) := by
  subst hp; exact go_back (fun _ j => XS.lushr X.here hx rfl hd rfl j) k
theorem g_ineg (X : Wk p l e R s m args below meth c n0 T h cells slots) (hx : p.tables.exec = Jvm.exec) {x : Int32} (hp : pc + 1 = pc') (hd : decode c.code pc = .ok (.ineg, 1))  (k : Go p e below s n0 Q nc ns (T.setTop (mkF m pc' Ls (.int (-x) :: rest)))) : Go p e below s n0 Q nc ns (T.setTop (mkF m pc Ls (.int x :: rest))) := by
  subst hp; exact go_back (fun _ j => XS.ineg X.here hx rfl hd rfl j) k
theorem g_lneg (X : Wk p l e R s m args below meth c n0 T h cells slots) (hx : p.tables.exec = Jvm.exec) {x : Int64} (hp : pc + 1 = pc') (hd : decode c.code pc = .ok (.lneg, 1))  (k : Go p e below s n0 Q nc ns (T.setTop (mkF m pc' Ls (.long (-x) :: rest)))) : Go p e below s n0 Q nc ns (T.setTop (mkF m pc Ls (.long x :: rest))) := by
  subst hp; exact go_back (fun _ j => XS.lneg X.here hx rfl hd rfl j) k
theorem g_i2l (X : Wk p l e R s m args below meth c n0 T h cells slots) (hx : p.tables.exec = Jvm.exec) {x : Int32} (hp : pc + 1 = pc') (hd : decode c.code pc = .ok (.i2l, 1))  (k : Go p e below s n0 Q nc ns (T.setTop (mkF m pc' Ls (.long x.toInt64 :: rest)))) : Go p e below s n0 Q nc ns (T.setTop (mkF m pc Ls (.int x :: rest))) := by
  subst hp; exact go_back (fun _ j => XS.i2l X.here hx rfl hd rfl j) k
theorem g_l2i (X : Wk p l e R s m args below meth c n0 T h cells slots) (hx : p.tables.exec = Jvm.exec) {x : Int64} (hp : pc + 1 = pc') (hd : decode c.code pc = .ok (.l2i, 1))  (k : Go p e below s n0 Q nc ns (T.setTop (mkF m pc' Ls (.int x.toInt32 :: rest)))) : Go p e below s n0 Q nc ns (T.setTop (mkF m pc Ls (.long x :: rest))) := by
  subst hp; exact go_back (fun _ j => XS.l2i X.here hx rfl hd rfl j) k
theorem g_i2b (X : Wk p l e R s m args below meth c n0 T h cells slots) (hx : p.tables.exec = Jvm.exec) {x : Int32} (hp : pc + 1 = pc') (hd : decode c.code pc = .ok (.i2b, 1))  (k : Go p e below s n0 Q nc ns (T.setTop (mkF m pc' Ls (.int x.toInt8.toInt32 :: rest)))) : Go p e below s n0 Q nc ns (T.setTop (mkF m pc Ls (.int x :: rest))) := by
  subst hp; exact go_back (fun _ j => XS.i2b X.here hx rfl hd rfl j) k
theorem g_i2s (X : Wk p l e R s m args below meth c n0 T h cells slots) (hx : p.tables.exec = Jvm.exec) {x : Int32} (hp : pc + 1 = pc') (hd : decode c.code pc = .ok (.i2s, 1))  (k : Go p e below s n0 Q nc ns (T.setTop (mkF m pc' Ls (.int x.toInt16.toInt32 :: rest)))) : Go p e below s n0 Q nc ns (T.setTop (mkF m pc Ls (.int x :: rest))) := by
  subst hp; exact go_back (fun _ j => XS.i2s X.here hx rfl hd rfl j) k
theorem g_i2c (X : Wk p l e R s m args below meth c n0 T h cells slots) (hx : p.tables.exec = Jvm.exec) {x : Int32} (hp : pc + 1 = pc') (hd : decode c.code pc = .ok (.i2c, 1))  (k : Go p e below s n0 Q nc ns (T.setTop (mkF m pc' Ls (.int x.toUInt32.toUInt16.toUInt32.toInt32 :: rest)))) : Go p e below s n0 Q nc ns (T.setTop (mkF m pc Ls (.int x :: rest))) := by
  subst hp; exact go_back (fun _ j => XS.i2c X.here hx rfl hd rfl j) k
theorem g_lcmp (X : Wk p l e R s m args below meth c n0 T h cells slots) (hx : p.tables.exec = Jvm.exec) {x y : Int64} (hp : pc + 1 = pc') (hd : decode c.code pc = .ok (.lcmp, 1))  (k : Go p e below s n0 Q nc ns (T.setTop (mkF m pc' Ls (.int (lcmpW x y) :: rest)))) : Go p e below s n0 Q nc ns (T.setTop (mkF m pc Ls (.long y :: .long x :: rest))) := by
  subst hp; exact go_back (fun _ j => XS.lcmp X.here hx rfl hd rfl j) k
theorem g_i2d (X : Wk p l e R s m args below meth c n0 T h cells slots) (hx : p.tables.exec = Jvm.exec) {x : Int32} (hp : pc + 1 = pc') (hd : decode c.code pc = .ok (.i2d, 1))  (k : Go p e below s n0 Q nc ns (T.setTop (mkF m pc' Ls (.double (FP.i2d x) :: rest)))) : Go p e below s n0 Q nc ns (T.setTop (mkF m pc Ls (.int x :: rest))) := by
  subst hp; exact go_back (fun _ j => XS.i2dS X.here hx rfl hd rfl rfl j) k
theorem g_l2d (X : Wk p l e R s m args below meth c n0 T h cells slots) (hx : p.tables.exec = Jvm.exec) {x : Int64} (hp : pc + 1 = pc') (hd : decode c.code pc = .ok (.l2d, 1))  (k : Go p e below s n0 Q nc ns (T.setTop (mkF m pc' Ls (.double (FP.l2d x) :: rest)))) : Go p e below s n0 Q nc ns (T.setTop (mkF m pc Ls (.long x :: rest))) := by
  subst hp; exact go_back (fun _ j => XS.l2dS X.here hx rfl hd rfl rfl j) k
theorem g_dneg (X : Wk p l e R s m args below meth c n0 T h cells slots) (hx : p.tables.exec = Jvm.exec) {x : UInt64} (hp : pc + 1 = pc') (hd : decode c.code pc = .ok (.dneg, 1))  (k : Go p e below s n0 Q nc ns (T.setTop (mkF m pc' Ls (.double (FP.dneg x) :: rest)))) : Go p e below s n0 Q nc ns (T.setTop (mkF m pc Ls (.double x :: rest))) := by
  subst hp; exact go_back (fun _ j => XS.dnegS X.here hx rfl hd rfl rfl j) k
theorem g_dcmp (X : Wk p l e R s m args below meth c n0 T h cells slots) (hx : p.tables.exec = Jvm.exec) {o : CmpOp} {x y : UInt64} {z : Int32} (hp : pc + 1 = pc') (hd : decode c.code pc = .ok (.dcmp o, 1)) (hz : cmpValue (FP.dcmp x y) o = z) (k : Go p e below s n0 Q nc ns (T.setTop (mkF m pc' Ls (.int z :: rest)))) : Go p e below s n0 Q nc ns (T.setTop (mkF m pc Ls (.double y :: .double x :: rest))) := by
  subst hp; exact go_back (fun _ j => XS.dcmpS X.here hx rfl hd rfl hz j) k
theorem g_dadd (X : Wk p l e R s m args below meth c n0 T h cells slots) (hx : p.tables.exec = Jvm.exec) {x y z : UInt64} (hp : pc + 1 = pc') (hd : decode c.code pc = .ok (.dadd, 1)) (hn : NoNaN64 (FP.dadd x y)) (hz : FP.dadd x y = z) (k : Go p e below s n0 Q nc ns (T.setTop (mkF m pc' Ls (.double z :: rest)))) : Go p e below s n0 Q nc ns (T.setTop (mkF m pc Ls (.double y :: .double x :: rest))) := by
  subst hp; exact go_back (fun _ j => XS.daddS X.here hx rfl hd rfl hn hz j) k
theorem g_dsub (X : Wk p l e R s m args below meth c n0 T h cells slots) (hx : p.tables.exec = Jvm.exec) {x y z : UInt64} (hp : pc + 1 = pc') (hd : decode c.code pc = .ok (.dsub, 1)) (hn : NoNaN64 (FP.dsub x y)) (hz : FP.dsub x y = z) (k : Go p e below s n0 Q nc ns (T.setTop (mkF m pc' Ls (.double z :: rest)))) : Go p e below s n0 Q nc ns (T.setTop (mkF m pc Ls (.double y :: .double x :: rest))) := by
  subst hp; exact go_back (fun _ j => XS.dsubS X.here hx rfl hd rfl hn hz j) k
theorem g_dmul (X : Wk p l e R s m args below meth c n0 T h cells slots) (hx : p.tables.exec = Jvm.exec) {x y z : UInt64} (hp : pc + 1 = pc') (hd : decode c.code pc = .ok (.dmul, 1)) (hn : NoNaN64 (FP.dmul x y)) (hz : FP.dmul x y = z) (k : Go p e below s n0 Q nc ns (T.setTop (mkF m pc' Ls (.double z :: rest)))) : Go p e below s n0 Q nc ns (T.setTop (mkF m pc Ls (.double y :: .double x :: rest))) := by
  subst hp; exact go_back (fun _ j => XS.dmulS X.here hx rfl hd rfl hn hz j) k
theorem g_ddiv (X : Wk p l e R s m args below meth c n0 T h cells slots) (hx : p.tables.exec = Jvm.exec) {x y z : UInt64} (hp : pc + 1 = pc') (hd : decode c.code pc = .ok (.ddiv, 1)) (hn : NoNaN64 (FP.ddiv x y)) (hz : FP.ddiv x y = z) (k : Go p e below s n0 Q nc ns (T.setTop (mkF m pc' Ls (.double z :: rest)))) : Go p e below s n0 Q nc ns (T.setTop (mkF m pc Ls (.double y :: .double x :: rest))) := by
  subst hp; exact go_back (fun _ j => XS.ddivS X.here hx rfl hd rfl hn hz j) k
theorem g_dup (X : Wk p l e R s m args below meth c n0 T h cells slots) (hx : p.tables.exec = Jvm.exec) {x : Value} (hp : pc + 1 = pc') (hd : decode c.code pc = .ok (.dup, 1)) (hc : x.category = 1) (k : Go p e below s n0 Q nc ns (T.setTop (mkF m pc' Ls (x :: x :: rest)))) : Go p e below s n0 Q nc ns (T.setTop (mkF m pc Ls (x :: rest))) := by
  subst hp; exact go_back (fun _ j => XS.dup X.here hx rfl hd rfl hc j) k
theorem g_dup_x1 (X : Wk p l e R s m args below meth c n0 T h cells slots) (hx : p.tables.exec = Jvm.exec) {x y : Value} (hp : pc + 1 = pc') (hd : decode c.code pc = .ok (.dup_x1, 1)) (hc : x.category = 1) (hc' : y.category = 1) (k : Go p e below s n0 Q nc ns (T.setTop (mkF m pc' Ls (x :: y :: x :: rest)))) : Go p e below s n0 Q nc ns (T.setTop (mkF m pc Ls (x :: y :: rest))) := by
  subst hp; exact go_back (fun _ j => XS.dupX1 X.here hx rfl hd rfl hc hc' j) k
theorem g_pop (X : Wk p l e R s m args below meth c n0 T h cells slots) (hx : p.tables.exec = Jvm.exec) {x : Value} (hp : pc + 1 = pc') (hd : decode c.code pc = .ok (.pop, 1)) (hc : x.category = 1) (k : Go p e below s n0 Q nc ns (T.setTop (mkF m pc' Ls (rest)))) : Go p e below s n0 Q nc ns (T.setTop (mkF m pc Ls (x :: rest))) := by
  subst hp; exact go_back (fun _ j => XS.pop X.here hx rfl hd rfl hc j) k
theorem g_dup2 (X : Wk p l e R s m args below meth c n0 T h cells slots) (hx : p.tables.exec = Jvm.exec) {x y : Value} (hp : pc + 1 = pc') (hd : decode c.code pc = .ok (.dup2, 1)) (hc : x.category = 1) (hc' : y.category = 1) (k : Go p e below s n0 Q nc ns (T.setTop (mkF m pc' Ls (x :: y :: x :: y :: rest)))) : Go p e below s n0 Q nc ns (T.setTop (mkF m pc Ls (x :: y :: rest))) := by
  subst hp; exact go_back (fun _ j => Jvm.Free.XT.dup2 X.here hx rfl hd rfl hc hc' j) k
theorem g_iinc (X : Wk p l e R s m args below meth c n0 T h cells slots) (hx : p.tables.exec = Jvm.exec) {k : Nat} {cst : Int} {x : Int32} {l' : Array Slot} (hp : pc + 3 = pc') (hd : decode c.code pc = .ok (.iinc k cst, 3)) (hl : Ls[k]? = some (.val (.int x))) (hl' : storeLocals Ls k (.int (x + Int32.ofInt cst)) = some l') (q : Go p e below s n0 Q nc ns (T.setTop (mkF m pc' l' st))) : Go p e below s n0 Q nc ns (T.setTop (mkF m pc Ls st)) := by
  subst hp; exact go_back (fun _ j => XS.iinc X.here hx rfl hd hl hl' j) q
theorem g_goto (X : Wk p l e R s m args below meth c n0 T h cells slots) (hx : p.tables.exec = Jvm.exec) {o : Int} (hd : decode c.code pc = .ok (.goto o, 3)) (ho : 0 ≤ (pc : Int) + o) (hp : ((pc : Int) + o).toNat = pc') (k : Go p e below s n0 Q nc ns (T.setTop (mkF m pc' Ls st))) : Go p e below s n0 Q nc ns (T.setTop (mkF m pc Ls st)) :=
  go_back (fun _ j => XS.goto X.here hx rfl rfl hd ho hp j) k
theorem g_ifY (X : Wk p l e R s m args below meth c n0 T h cells slots) (hx : p.tables.exec = Jvm.exec) {cd : ClassFile.Cond} {o : Int} {x : Int32} {pcY : Nat} (hd : decode c.code pc = .ok (.ifCond cd o, 3)) (ho : 0 ≤ (pc : Int) + o) (hY : ((pc : Int) + o).toNat = pcY) (q : cP cd x 0) (k : Go p e below s n0 Q nc ns (T.setTop (mkF m pcY Ls rest))) : Go p e below s n0 Q nc ns (T.setTop (mkF m pc Ls (.int x :: rest))) :=
  go_back (fun _ j => XS.ifYes X.here hx rfl rfl hd rfl ((if0 _ _).trans (cP_yes q)) ho hY j) k
theorem g_ifN (X : Wk p l e R s m args below meth c n0 T h cells slots) (hx : p.tables.exec = Jvm.exec) {cd : ClassFile.Cond} {o : Int} {x : Int32} {pcN : Nat} (hd : decode c.code pc = .ok (.ifCond cd o, 3)) (hN : pc + 3 = pcN) (q : ¬ cP cd x 0) (k : Go p e below s n0 Q nc ns (T.setTop (mkF m pcN Ls rest))) : Go p e below s n0 Q nc ns (T.setTop (mkF m pc Ls (.int x :: rest))) := by
  subst hN; exact go_back (fun _ j => XS.ifNo X.here hx rfl hd rfl ((if0 _ _).trans (cP_no q)) j) k
theorem g_if (X : Wk p l e R s m args below meth c n0 T h cells slots) (hx : p.tables.exec = Jvm.exec) {cd : ClassFile.Cond} {o : Int} {x : Int32} {pcY pcN : Nat} (hd : decode c.code pc = .ok (.ifCond cd o, 3)) (ho : 0 ≤ (pc : Int) + o) (hY : ((pc : Int) + o).toNat = pcY) (hN : pc + 3 = pcN) (kY : cP cd x 0 → Go p e below s n0 Q nc ns (T.setTop (mkF m pcY Ls rest))) (kN : ¬ cP cd x 0 → Go p e below s n0 Q nc ns (T.setTop (mkF m pcN Ls rest))) : Go p e below s n0 Q nc ns (T.setTop (mkF m pc Ls (.int x :: rest))) := by
  by_cases q : cP cd x 0
  · exact g_ifY X hx hd ho hY q (kY q)
  · exact g_ifN X hx hd hN q (kN q)
theorem g_icmpY (X : Wk p l e R s m args below meth c n0 T h cells slots) (hx : p.tables.exec = Jvm.exec) {cd : ClassFile.Cond} {o : Int} {x y : Int32} {pcY : Nat} (hd : decode c.code pc = .ok (.if_icmp cd o, 3)) (ho : 0 ≤ (pc : Int) + o) (hY : ((pc : Int) + o).toNat = pcY) (q : cP cd x y) (k : Go p e below s n0 Q nc ns (T.setTop (mkF m pcY Ls rest))) : Go p e below s n0 Q nc ns (T.setTop (mkF m pc Ls (.int y :: .int x :: rest))) :=
  go_back (fun _ j => XS.icmpYes X.here hx rfl rfl hd rfl (cP_yes q) ho hY j) k
theorem g_icmpN (X : Wk p l e R s m args below meth c n0 T h cells slots) (hx : p.tables.exec = Jvm.exec) {cd : ClassFile.Cond} {o : Int} {x y : Int32} {pcN : Nat} (hd : decode c.code pc = .ok (.if_icmp cd o, 3)) (hN : pc + 3 = pcN) (q : ¬ cP cd x y) (k : Go p e below s n0 Q nc ns (T.setTop (mkF m pcN Ls rest))) : Go p e below s n0 Q nc ns (T.setTop (mkF m pc Ls (.int y :: .int x :: rest))) := by
  subst hN; exact go_back (fun _ j => XS.icmpNo X.here hx rfl hd rfl (cP_no q) j) k
theorem g_icmp (X : Wk p l e R s m args below meth c n0 T h cells slots) (hx : p.tables.exec = Jvm.exec) {cd : ClassFile.Cond} {o : Int} {x y : Int32} {pcY pcN : Nat} (hd : decode c.code pc = .ok (.if_icmp cd o, 3)) (ho : 0 ≤ (pc : Int) + o) (hY : ((pc : Int) + o).toNat = pcY) (hN : pc + 3 = pcN) (kY : cP cd x y → Go p e below s n0 Q nc ns (T.setTop (mkF m pcY Ls rest))) (kN : ¬ cP cd x y → Go p e below s n0 Q nc ns (T.setTop (mkF m pcN Ls rest))) : Go p e below s n0 Q nc ns (T.setTop (mkF m pc Ls (.int y :: .int x :: rest))) := by
  by_cases q : cP cd x y
  · exact g_icmpY X hx hd ho hY q (kY q)
  · exact g_icmpN X hx hd hN q (kN q)
theorem g_ifnullY (X : Wk p l e R s m args below meth c n0 T h cells slots) (hx : p.tables.exec = Jvm.exec) {o : Int} {pcY : Nat} (hd : decode c.code pc = .ok (.ifnull o, 3)) (ho : 0 ≤ (pc : Int) + o) (hY : ((pc : Int) + o).toNat = pcY) (k : Go p e below s n0 Q nc ns (T.setTop (mkF m pcY Ls rest))) : Go p e below s n0 Q nc ns (T.setTop (mkF m pc Ls (.null :: rest))) :=
  go_back (fun _ j => XS.ifnullYes X.here hx rfl rfl hd rfl ho hY j) k
theorem g_ifnullN (X : Wk p l e R s m args below meth c n0 T h cells slots) (hx : p.tables.exec = Jvm.exec) {o : Int} {b : Addr} {pcN : Nat} (hd : decode c.code pc = .ok (.ifnull o, 3)) (hN : pc + 3 = pcN) (k : Go p e below s n0 Q nc ns (T.setTop (mkF m pcN Ls rest))) : Go p e below s n0 Q nc ns (T.setTop (mkF m pc Ls (.ref b :: rest))) := by
  subst hN; exact go_back (fun _ j => XS.ifnullNo X.here hx rfl hd rfl j) k
theorem g_ifnonnullY (X : Wk p l e R s m args below meth c n0 T h cells slots) (hx : p.tables.exec = Jvm.exec) {o : Int} {b : Addr} {pcY : Nat} (hd : decode c.code pc = .ok (.ifnonnull o, 3)) (ho : 0 ≤ (pc : Int) + o) (hY : ((pc : Int) + o).toNat = pcY) (k : Go p e below s n0 Q nc ns (T.setTop (mkF m pcY Ls rest))) : Go p e below s n0 Q nc ns (T.setTop (mkF m pc Ls (.ref b :: rest))) :=
  go_back (fun _ j => XS.ifnonnullYes X.here hx rfl rfl hd rfl ho hY j) k
theorem g_ifnonnullN (X : Wk p l e R s m args below meth c n0 T h cells slots) (hx : p.tables.exec = Jvm.exec) {o : Int} {pcN : Nat} (hd : decode c.code pc = .ok (.ifnonnull o, 3)) (hN : pc + 3 = pcN) (k : Go p e below s n0 Q nc ns (T.setTop (mkF m pcN Ls rest))) : Go p e below s n0 Q nc ns (T.setTop (mkF m pc Ls (.null :: rest))) := by
  subst hN; exact go_back (fun _ j => XS.ifnonnullNo X.here hx rfl hd rfl j) k
theorem g_normI {x z : Int32} (hz : x = z) (k : Go p e below s n0 Q nc ns (T.setTop (mkF m pc Ls (.int z :: rest)))) : Go p e below s n0 Q nc ns (T.setTop (mkF m pc Ls (.int x :: rest))) := hz ▸ k
theorem g_normD {x z : UInt64} (hz : x = z) (k : Go p e below s n0 Q nc ns (T.setTop (mkF m pc Ls (.double z :: rest)))) : Go p e below s n0 Q nc ns (T.setTop (mkF m pc Ls (.double x :: rest))) := hz ▸ k
theorem g_iincC (X : Wk p l e R s m args below meth c n0 T h cells slots) (hx : p.tables.exec = Jvm.exec) {k : Nat} {cst : Int} {x z : Int32} {l' : Array Slot} (hp : pc + 3 = pc') (hd : decode c.code pc = .ok (.iinc k cst, 3)) (hl : Ls[k]? = some (.val (.int x))) (hz : x + Int32.ofInt cst = z) (hl' : storeLocals Ls k (.int z) = some l') (q : Go p e below s n0 Q nc ns (T.setTop (mkF m pc' l' st))) : Go p e below s n0 Q nc ns (T.setTop (mkF m pc Ls st)) := by
  subst hz; exact g_iinc X hx hp hd hl hl' q
theorem g_ldcI (X : Wk p l e R s m args below meth c n0 T h cells slots) (hx : p.tables.exec = Jvm.exec) (hZ : Z.Warmed39 s.vm) {own : String} {index : Nat} {v : Int32} (hown : s.vm.findClass own = some m.cls) (w : (Jvm.Cond.constant own index v).before a0 Z = true) (hp : pc + 2 = pc') (hd : decode c.code pc = .ok (.ldc index, 2))
    (k : Go p e below s n0 Q nc ns (T.setTop (mkF m pc' Ls (.int v :: st)))) : Go p e below s n0 Q nc ns (T.setTop (mkF m pc Ls st)) := by
  subst hp; obtain ⟨_, X, -⟩ := X
  exact go_back (X.ldcInt hx hown (mvT hZ w) (g := mkF m pc Ls st) rfl hd) k
theorem g_ldc2L (X : Wk p l e R s m args below meth c n0 T h cells slots) (hx : p.tables.exec = Jvm.exec) (hZ : Z.Warmed39 s.vm) {own : String} {index : Nat} {v : Int64} (hown : s.vm.findClass own = some m.cls) (w : (Jvm.Cond.constantLong own index v).before a0 Z = true) (hp : pc + 3 = pc') (hd : decode c.code pc = .ok (.ldc2_w index, 3))
    (k : Go p e below s n0 Q nc ns (T.setTop (mkF m pc' Ls (.long v :: st)))) : Go p e below s n0 Q nc ns (T.setTop (mkF m pc Ls st)) := by
  subst hp; obtain ⟨_, X, -⟩ := X
  exact go_back (X.ldc2Long hx hown (mvT hZ w) (g := mkF m pc Ls st) rfl hd) k
theorem g_ldc2D (X : Wk p l e R s m args below meth c n0 T h cells slots) (hx : p.tables.exec = Jvm.exec) (hZ : Z.Warmed39 s.vm) {own : String} {index : Nat} {v : UInt64} (hown : s.vm.findClass own = some m.cls) (w : (Jvm.Cond.constantDouble own index v).before a0 Z = true) (hp : pc + 3 = pc') (hd : decode c.code pc = .ok (.ldc2_w index, 3))
    (k : Go p e below s n0 Q nc ns (T.setTop (mkF m pc' Ls (.double v :: st)))) : Go p e below s n0 Q nc ns (T.setTop (mkF m pc Ls st)) := by
  subst hp; obtain ⟨_, X, -⟩ := X
  exact go_back (X.ldc2DoubleC hx hown (mvT hZ w) (g := mkF m pc Ls st) rfl hd) k
theorem g_getF (X : Wk p l e R s m args below meth c n0 T h cells slots) (hx : p.tables.exec = Jvm.exec) (hZ : Z.Warmed39 s.vm) {own R0 O n d : String} {index : Nat} (hown : s.vm.findClass own = some m.cls) (w : (Jvm.Cond.fieldLink own index R0 n d).before a0 Z = true) (via : Via Z R0 O n d) {a : Addr} {v : Value} (F : Fld Z h a O n d v) (hp : pc + 3 = pc') (hd : decode c.code pc = .ok (.getfield index, 3))
    (k : ∀ T', Wk p l e R s m args below meth c n0 T' h cells slots → Go p e below s n0 Q nc ns (T'.setTop (mkF m pc' Ls (v :: rest)))) : Go p e below s n0 Q nc ns (T.setTop (mkF m pc Ls (.ref a :: rest))) := by
  subst hp; obtain ⟨locs, X, N, eT⟩ := X
  obtain ⟨T', X', e', b⟩ := getF X hx hZ hown (host := "") (Or.inl w) via eT F (g := mkF m pc Ls (.ref a :: rest)) rfl rfl hd
  exact go_back b (k T' ⟨locs, X', N, e'⟩)
theorem g_getS (X : Wk p l e R s m args below meth c n0 T h cells slots) (hx : p.tables.exec = Jvm.exec) (hZ : Z.Warmed39 s.vm) {own R0 O n d : String} {index : Nat} (hown : s.vm.findClass own = some m.cls) (w : (Jvm.Cond.fieldLink own index R0 n d).before a0 Z = true) (via : Via Z R0 O n d) {v : Value} (F : Sta Z h O n d v) (hp : pc + 3 = pc') (hd : decode c.code pc = .ok (.getstatic index, 3))
    (k : ∀ T', Wk p l e R s m args below meth c n0 T' h cells slots → Go p e below s n0 Q nc ns (T'.setTop (mkF m pc' Ls (v :: st)))) : Go p e below s n0 Q nc ns (T.setTop (mkF m pc Ls st)) := by
  subst hp; obtain ⟨locs, X, N, eT⟩ := X
  obtain ⟨T', X', e', b⟩ := getS X hx hZ hown w via eT F (g := mkF m pc Ls st) rfl hd (host := "")
  exact go_back b (k T' ⟨locs, X', N, e'⟩)
theorem g_putF (X : Wk p l e R s m args below meth c n0 T h cells slots) (hx : p.tables.exec = Jvm.exec) (hZ : Z.Warmed39 s.vm) {own R0 O n d C : String} {index kk : Nat} {ty : FieldType} (hown : s.vm.findClass own = some m.cls) (w : (Jvm.Cond.fieldLink own index R0 n d).before a0 Z = true) (via : Via Z R0 O n d) {a : Addr} {v old : Value} (F : Fld Z h a O n d old) (E : Exa Z h a C)
    (L : (Jvm.Cond.lays C O n d).before a0 Z = true ∨ ((Jvm.Cond.laysFinal C O n d).before a0 Z = true ∧ own = O ∧ meth.name = "<init>")) (wi : (Jvm.Cond.instantiable C kk).before a0 Z = true) (hty : parseFieldDescriptor d = some ty) (hn : narrow ty v = v) (hf : fits ty v = true) (hna : n0 ≤ a) (hp : pc + 3 = pc') (hd : decode c.code pc = .ok (.putfield index, 3))
    (k : ∀ T' h', Wk p l e R s m args below meth c n0 T' h' cells slots → Wr h h' a (Jvm.RoadKit.slotOf Z O n d) v → Go p e below s n0 Q nc ns (T'.setTop (mkF m pc' Ls rest))) : Go p e below s n0 Q nc ns (T.setTop (mkF m pc Ls (v :: .ref a :: rest))) := by
  subst hp; obtain ⟨locs, X, N, eT⟩ := X
  obtain ⟨T', h', X', e', W', b⟩ := putF X hx hZ hown (host := "") (Or.inl w) via eT F E L wi hty hn hf (g := mkF m pc Ls (v :: .ref a :: rest)) rfl rfl hd
  exact go_back b (k T' h' ⟨_, X', Fr.snoc X' N hna, e'⟩ W')
theorem g_newO (X : Wk p l e R s m args below meth c n0 T h cells slots) (hx : p.tables.exec = Jvm.exec) (hZ : Z.Warmed39 s.vm) {own C : String} {index n : Nat} (hown : s.vm.findClass own = some m.cls) (w : (Jvm.Cond.classLink own index C).before a0 Z = true) (wi : (Jvm.Cond.instantiable C n).before a0 Z = true) (wz : (Jvm.Cond.initialized C).before a0 Z = true) (hp : pc + 3 = pc') (hd : decode c.code pc = .ok (.new index, 3)) (hc : cells + 1 ≤ R.cells) (hl : slots + n ≤ R.slots)
    (k : ∀ T' h' a, a = h.size → Wk p l e R s m args below meth c n0 T' h' (cells + 1) (slots + n) → Ext h h' → Exa Z h' a C → (∀ {O nm d : String} {ty : FieldType}, Laid Z a0 C O nm d → parseFieldDescriptor d = some ty → Fld Z h' a O nm d (defaultValue ty)) → Go p e below s n0 Q nc ns (T'.setTop (mkF m pc' Ls (.ref a :: st)))) : Go p e below s n0 Q nc ns (T.setTop (mkF m pc Ls st)) := by
  subst hp; obtain ⟨locs, X, N, eT⟩ := X
  obtain ⟨T', h', X', e', E', A', D', -, b⟩ := newO X hx hZ hown w wi wz eT (g := mkF m pc Ls st) rfl hd hc hl
  exact go_back b (k T' h' h.size rfl ⟨_, X', N, e'⟩ E' A' (fun L q => D' L q))
theorem g_initO (X : Wk p l e R s m args below meth c n0 T h cells slots) (hx : p.tables.exec = Jvm.exec) (hZ : Z.Warmed39 s.vm) {own : String} {index : Nat} (hown : s.vm.findClass own = some m.cls) (w1 : (Jvm.Cond.methodLink own index Lib.objectInit).before a0 Z = true) (w2 : (Jvm.Cond.instanceMethod Lib.objectInit).before a0 Z = true) (w3 : (Jvm.Cond.code Lib.objectInit ⟨#[0xb1]⟩ 1 none).before a0 Z = true) {a : Addr} (hsz : Ls.size = c.maxLocals) (hp : pc + 3 = pc') (hd : decode c.code pc = .ok (.invokespecial index, 3)) (hf : 1 ≤ R.frames) {W : Nat} (hW : 2 * 0 + (rest.map fun v => v.category).sum ≤ W) (hl : W + 12 ≤ R.locals)
    (k : ∀ T', Wk p l e R s m args below meth c n0 T' h cells slots → Go p e below s n0 Q nc ns (T'.setTop (mkF m pc' Ls rest))) : Go p e below s n0 Q nc ns (T.setTop (mkF m pc Ls (.ref a :: rest))) := by
  subst hp; obtain ⟨locs, X, N, eT⟩ := X
  obtain ⟨T', X', e', b⟩ := initO X hx hZ hown w1 w2 w3 eT (g := mkF m pc Ls (.ref a :: rest)) rfl hsz rfl hd hf hW hl
  exact go_back b (k T' ⟨_, X', N, e'⟩)
section Calls
variable {y z : MethodName} {bytes : ByteArray} {maxL : Nat} {ret : Option FieldType} {rm : Room} {as : Array Value} {Qc : Option Value → Heap → Prop} {own : String} {index W : Nat} {argsL : List Value} {ps : List FieldType} {r : Option FieldType}
theorem g_callS (X : Wk p l e R s m args below meth c n0 T h cells slots) (hx : p.tables.exec = Jvm.exec) (hZ : Z.Warmed39 s.vm) (hown : s.vm.findClass own = some m.cls) (w1 : (Jvm.Cond.methodLink own index y).before a0 Z = true) (w2 : (Jvm.Cond.static y).before a0 Z = true) (w3 : (Jvm.Cond.initialized y.cls).before a0 Z = true) (w4 : (Jvm.Cond.code y bytes maxL ret).before a0 Z = true)
    (hy : y.cls ≠ "java/lang/invoke/MethodHandle" ∧ y.cls ≠ "java/lang/invoke/VarHandle") (hM : Con l Z n0 y bytes maxL ret [] rm as h Qc) (hlen : parseMethodDescriptor y.desc = some ⟨ps, r⟩) (hl : argsL.length = ps.length) (has : as = argsL.toArray) (hsz : Ls.size = c.maxLocals) (hp : pc + 3 = pc') (hd : decode c.code pc = .ok (.invokestatic index, 3))
    (hst : st = argsL.reverse ++ rest) (hW : 2 * 0 + (rest.map fun v => v.category).sum ≤ W) (hf : rm.frames + 1 ≤ R.frames) (hlo : W + (maxL + 11) + rm.locals ≤ R.locals) (hc : cells + rm.cells ≤ R.cells) (hs : slots + rm.slots ≤ R.slots)
    (k : ∀ v T' h', Wk p l e R s m args below meth c n0 T' h' (cells + rm.cells) (slots + rm.slots) → Qc v h' → Go p e below s n0 Q nc ns (T'.setTop (mkF m pc' Ls (v.toList ++ rest)))) : Go p e below s n0 Q nc ns (T.setTop (mkF m pc Ls st)) := by
  subst hp; subst has; obtain ⟨locs, X, N, eT⟩ := X
  obtain ⟨v, vm1, ⟨U, L1, c1, s1⟩, -, X', ⟨Lc, hQ, l1, y1, z1⟩, b⟩ := Jvm.LawKit.callS X hx hown (mvT hZ w1) (mvT hZ w2) (mvT hZ w3) (mvT hZ w4) hy (backOf (W := W) (Q := fun v h L => Fr n0 L ∧ Qc v h) hM hZ w4 w3 hf hlo) (g := mkF m pc Ls st) rfl hsz (argsL := argsL) (rest := rest) (lenOf hlen hl) hst hW hd (fun _ _ => ⟨rfl, eT, hc, hs⟩)
  dsimp only [Pt.U, Pt.locs, Pt.cells, Pt.slots] at X' l1 y1 z1 b hQ
  subst l1 y1 z1
  exact go_back b (k v U U.heap ⟨_, X', Fr.app N hQ.1, rfl⟩ hQ.2)
theorem g_callI (X : Wk p l e R s m args below meth c n0 T h cells slots) (hx : p.tables.exec = Jvm.exec) (hZ : Z.Warmed39 s.vm) (hown : s.vm.findClass own = some m.cls) (hy1 : y.name = "<init>") (w1 : (Jvm.Cond.methodLink own index y).before a0 Z = true) (w2 : (Jvm.Cond.instanceMethod y).before a0 Z = true) (w3 : (Jvm.Cond.initialized y.cls).before a0 Z = true) (w4 : (Jvm.Cond.code y bytes maxL none).before a0 Z = true)
    (hy : y.cls ≠ "java/lang/invoke/MethodHandle" ∧ y.cls ≠ "java/lang/invoke/VarHandle") {a : Addr} (hM : Con l Z n0 y bytes maxL none [] rm as h Qc) (hlen : parseMethodDescriptor y.desc = some ⟨ps, r⟩) (hl : argsL.length = ps.length) (has : as = (Value.ref a :: argsL).toArray) (hsz : Ls.size = c.maxLocals) (hp : pc + 3 = pc') (hd : decode c.code pc = .ok (.invokespecial index, 3))
    (hst : st = argsL.reverse ++ .ref a :: rest) (hW : 2 * 0 + (rest.map fun v => v.category).sum ≤ W) (hf : rm.frames + 1 ≤ R.frames) (hlo : W + (maxL + 11) + rm.locals ≤ R.locals) (hc : cells + rm.cells ≤ R.cells) (hs : slots + rm.slots ≤ R.slots)
    (k : ∀ v T' h', Wk p l e R s m args below meth c n0 T' h' (cells + rm.cells) (slots + rm.slots) → Qc v h' → Go p e below s n0 Q nc ns (T'.setTop (mkF m pc' Ls (v.toList ++ rest)))) : Go p e below s n0 Q nc ns (T.setTop (mkF m pc Ls st)) := by
  subst hp; subst has; obtain ⟨locs, X, N, eT⟩ := X
  obtain ⟨v, vm1, ⟨U, L1, c1, s1⟩, -, X', ⟨Lc, hQ, l1, y1, z1⟩, b⟩ := X.specialBack hx hy1 hown (mvT hZ w1) (mvT hZ w2) (mvT hZ w4) hy (backOf (W := W) (Q := fun v h L => Fr n0 L ∧ Qc v h) hM hZ w4 w3 hf hlo) (g := mkF m pc Ls st) rfl hsz (Steps.refl _) (a := a) (argsL := argsL) (rest := rest) (lenOf hlen hl) hst hW hd (fun _ _ => ⟨rfl, eT, hc, hs⟩)
  dsimp only [Pt.U, Pt.locs, Pt.cells, Pt.slots] at X' l1 y1 z1 b hQ
  subst l1 y1 z1
  exact go_back (fun _ j => b.trans j) (k v U U.heap ⟨_, X', Fr.app N hQ.1, rfl⟩ hQ.2)
theorem g_callV (X : Wk p l e R s m args below meth c n0 T h cells slots) (hx : p.tables.exec = Jvm.exec) (hZ : Z.Warmed39 s.vm) (hown : s.vm.findClass own = some m.cls) {C : String} (w1 : (Jvm.Cond.methodLink own index y).before a0 Z = true) (w2 : (Jvm.Cond.declares y).before a0 Z = true) (w5 : (Jvm.Cond.selects C y y).before a0 Z = true) (w6 : (Jvm.Cond.instanceMethod y).before a0 Z = true) (w3 : (Jvm.Cond.initialized y.cls).before a0 Z = true) (w4 : (Jvm.Cond.code y bytes maxL ret).before a0 Z = true)
    (hy : y.cls ≠ "java/lang/invoke/MethodHandle" ∧ y.cls ≠ "java/lang/invoke/VarHandle") {a : Addr} (E : Exa Z h a C) (hM : Con l Z n0 y bytes maxL ret [] rm as h Qc) (hlen : parseMethodDescriptor y.desc = some ⟨ps, r⟩) (hl : argsL.length = ps.length) (has : as = (Value.ref a :: argsL).toArray) (hsz : Ls.size = c.maxLocals) (hp : pc + 3 = pc') (hd : decode c.code pc = .ok (.invokevirtual index, 3))
    (hst : st = argsL.reverse ++ .ref a :: rest) (hW : 2 * 0 + (rest.map fun v => v.category).sum ≤ W) (hf : rm.frames + 1 ≤ R.frames) (hlo : W + (maxL + 11) + rm.locals ≤ R.locals) (hc : cells + rm.cells ≤ R.cells) (hs : slots + rm.slots ≤ R.slots)
    (k : ∀ v T' h', Wk p l e R s m args below meth c n0 T' h' (cells + rm.cells) (slots + rm.slots) → Qc v h' → Go p e below s n0 Q nc ns (T'.setTop (mkF m pc' Ls (v.toList ++ rest)))) : Go p e below s n0 Q nc ns (T.setTop (mkF m pc Ls st)) := by
  subst hp; subst has; obtain ⟨locs, X, N, eT⟩ := X
  obtain ⟨cq, kq, qa, qb, qc⟩ := isOf hZ eT E
  obtain ⟨v, vm1, ⟨U, L1, c1, s1⟩, -, X', ⟨Lc, hQ, l1, y1, z1⟩, b⟩ := X.virtualBack hx (y := y) (z := y) hown (mvT hZ w1) (mvT hZ w2) (notFace_of_selects (args := #[]) (mvT hZ w5)) (mvT hZ w5) (mvT hZ w6) hy (backOf (W := W) (Q := fun v h L => Fr n0 L ∧ Qc v h) hM hZ w4 w3 hf hlo) qa qc (g := mkF m pc Ls st) rfl hsz (Steps.refl _) (argsL := argsL) (rest := rest) (lenOf hlen hl) hst hW hd (fun _ _ => ⟨rfl, eT, hc, hs⟩)
  dsimp only [Pt.U, Pt.locs, Pt.cells, Pt.slots] at X' l1 y1 z1 b hQ
  subst l1 y1 z1
  exact go_back (fun _ j => b.trans j) (k v U U.heap ⟨_, X', Fr.app N hQ.1, rfl⟩ hQ.2)
theorem g_nat (X : Wk p l e R s m args below meth c n0 T h cells slots) (hx : p.tables.exec = Jvm.exec) (hZ : Z.Warmed39 s.vm) (hown : s.vm.findClass own = some m.cls) (w1 : (Jvm.Cond.methodLink own index y).before a0 Z = true) (w2 : (Jvm.Cond.static y).before a0 Z = true) (w3 : (Jvm.Cond.initialized y.cls).before a0 Z = true) (w4 : (Jvm.Cond.code y bytes maxL ret).before a0 Z = true)
    (hy : y.cls ≠ "java/lang/invoke/MethodHandle" ∧ y.cls ≠ "java/lang/invoke/VarHandle") {F : Array Value → Prop} {val : Value} (hK : (Jvm.Cond.code y bytes maxL ret).before args s = true → Back l R p e below s args y 3 W (fun A a' => A.cells ≤ R.cells ∧ A.slots ≤ R.slots ∧ F a') (fun A _ v B => v = some val ∧ B = A)) (hlen : parseMethodDescriptor y.desc = some ⟨ps, r⟩) (hl : argsL.length = ps.length) (hsz : Ls.size = c.maxLocals) (hp : pc + 3 = pc') (hd : decode c.code pc = .ok (.invokestatic index, 3))
    (hst : st = argsL.reverse ++ rest) (hW : 2 * 0 + (rest.map fun v => v.category).sum ≤ W) (hc : cells ≤ R.cells) (hs : slots ≤ R.slots) (hF : F argsL.toArray)
    (k : ∀ T', Wk p l e R s m args below meth c n0 T' h cells slots → Go p e below s n0 Q nc ns (T'.setTop (mkF m pc' Ls (val :: rest)))) : Go p e below s n0 Q nc ns (T.setTop (mkF m pc Ls st)) := by
  subst hp; obtain ⟨locs, X, N, eT⟩ := X
  obtain ⟨T', X', e', b⟩ := natS X hx hZ hown w1 w2 w3 w4 hy eT hK (g := mkF m pc Ls st) rfl hsz (argsL := argsL) (rest := rest) (lenOf hlen hl) hst hW hd hc hs hF rfl
  exact go_back b (k T' ⟨_, X', N, e'⟩)
end Calls
theorem g_absD2 (X : Wk p l e R s m args below meth c n0 T h cells slots) (hx : p.tables.exec = Jvm.exec) (hZ : Z.Warmed39 s.vm) {own : String} {index W : Nat} (hown : s.vm.findClass own = some m.cls) (w1 : (Jvm.Cond.methodLink own index Jvm.Free.Fl.Abs.absDN).before a0 Z = true) (w2 : (Jvm.Cond.static Jvm.Free.Fl.Abs.absDN).before a0 Z = true) (w3 : (Jvm.Cond.initialized Jvm.Free.Fl.Abs.absDN.cls).before a0 Z = true) (w4 : (Jvm.Cond.code Jvm.Free.Fl.Abs.absDN Jvm.Free.Fl.Abs.absDCode 2 (some .double)).before a0 Z = true)
    {x : UInt64} (hn : NoNaN64 x) (hsz : Ls.size = c.maxLocals) (hp : pc + 3 = pc') (hd : decode c.code pc = .ok (.invokestatic index, 3)) (hW : 2 * 0 + (rest.map fun v => v.category).sum ≤ W) (hf : 1 ≤ R.frames) (hlo : W + 13 ≤ R.locals) (hc : cells ≤ R.cells) (hs : slots ≤ R.slots)
    (k : ∀ T', Wk p l e R s m args below meth c n0 T' h cells slots → Go p e below s n0 Q nc ns (T'.setTop (mkF m pc' Ls (.double (x &&& 0x7fffffffffffffff) :: rest)))) : Go p e below s n0 Q nc ns (T.setTop (mkF m pc Ls (.double x :: rest))) :=
  g_nat X hx hZ hown w1 w2 w3 w4 (by decide) (fun q => Jvm.Free.Fl.Abs.absD_pays x q hf hlo) (ps := [.double]) (r := some .double) (by decide +kernel) (argsL := [.double x]) rfl hsz hp hd rfl hW hc hs ⟨rfl, hn⟩ k
theorem g_ret (X : Wk p l e R s m args below meth c n0 T h cells slots) (hx : p.tables.exec = Jvm.exec) (hlk : meth.locks = false) {t : FieldType} {w : Value} {i : Instr} (hret : meth.sig.returnType = some t) (hn : narrow t w = w)
    (hi : (i = .ireturn ∧ (t = .int ∨ t = .boolean ∨ t = .byte ∨ t = .char ∨ t = .short) ∧ ∃ z, w = .int z) ∨ (i = .lreturn ∧ t = .long ∧ ∃ z, w = .long z) ∨ (i = .dreturn ∧ t = .double ∧ ∃ z, w = .double z) ∨ (i = .freturn ∧ t = .float ∧ ∃ z, w = .float z) ∨ (i = .areturn ∧ t.isReference = true ∧ w.isRef = true))
    (hd : decode c.code pc = .ok (i, 1)) (hc : cells ≤ nc) (hs : slots ≤ ns) (hQ : Q (some w) h) : Go p e below s n0 Q nc ns (T.setTop (mkF m pc Ls (w :: rest))) := by
  obtain ⟨locs, X, N, eT⟩ := X
  obtain ⟨fs, hr, hrun, hended, hW, hsame⟩ := X.leave (v := some w) (fun q => by rw [hret] at q; cases q) hlk
  exact ⟨_, _, retOut X hx hret hn hi hd hr, hrun, hended, _, _, rfl, ⟨N, by show Q (some w) T.heap; rw [eT]; exact hQ⟩, ⟨_, rfl⟩, hW, hsame.mono hc hs⟩
theorem g_retI (X : Wk p l e R s m args below meth c n0 T h cells slots) (hx : p.tables.exec = Jvm.exec) (hlk : meth.locks = false) {z : Int32} (hret : meth.sig.returnType = some .int) (hd : decode c.code pc = .ok (.ireturn, 1)) (hc : cells ≤ nc) (hs : slots ≤ ns) (hQ : Q (some (.int z)) h) : Go p e below s n0 Q nc ns (T.setTop (mkF m pc Ls (.int z :: rest))) :=
  g_ret X hx hlk hret rfl (Or.inl ⟨rfl, Or.inl rfl, z, rfl⟩) hd hc hs hQ
theorem g_retZ (X : Wk p l e R s m args below meth c n0 T h cells slots) (hx : p.tables.exec = Jvm.exec) (hlk : meth.locks = false) {z : Int32} (hret : meth.sig.returnType = some .boolean) (hz : z = 0 ∨ z = 1) (hd : decode c.code pc = .ok (.ireturn, 1)) (hc : cells ≤ nc) (hs : slots ≤ ns) (hQ : Q (some (.int z)) h) : Go p e below s n0 Q nc ns (T.setTop (mkF m pc Ls (.int z :: rest))) :=
  g_ret X hx hlk hret (by rcases hz with rfl | rfl <;> rfl) (Or.inl ⟨rfl, Or.inr (Or.inl rfl), z, rfl⟩) hd hc hs hQ
theorem g_retL (X : Wk p l e R s m args below meth c n0 T h cells slots) (hx : p.tables.exec = Jvm.exec) (hlk : meth.locks = false) {z : Int64} (hret : meth.sig.returnType = some .long) (hd : decode c.code pc = .ok (.lreturn, 1)) (hc : cells ≤ nc) (hs : slots ≤ ns) (hQ : Q (some (.long z)) h) : Go p e below s n0 Q nc ns (T.setTop (mkF m pc Ls (.long z :: rest))) :=
  g_ret X hx hlk hret rfl (Or.inr (Or.inl ⟨rfl, rfl, z, rfl⟩)) hd hc hs hQ
theorem g_retD (X : Wk p l e R s m args below meth c n0 T h cells slots) (hx : p.tables.exec = Jvm.exec) (hlk : meth.locks = false) {z : UInt64} (hret : meth.sig.returnType = some .double) (hd : decode c.code pc = .ok (.dreturn, 1)) (hc : cells ≤ nc) (hs : slots ≤ ns) (hQ : Q (some (.double z)) h) : Go p e below s n0 Q nc ns (T.setTop (mkF m pc Ls (.double z :: rest))) :=
  g_ret X hx hlk hret rfl (Or.inr (Or.inr (Or.inl ⟨rfl, rfl, z, rfl⟩))) hd hc hs hQ
theorem g_retV (X : Wk p l e R s m args below meth c n0 T h cells slots) (hx : p.tables.exec = Jvm.exec) (hlk : meth.locks = false) (hret : meth.sig.returnType = none) (hd : decode c.code pc = .ok (.return_, 1)) (hc : cells ≤ nc) (hs : slots ≤ ns) (hQ : Q none h) : Go p e below s n0 Q nc ns (T.setTop (mkF m pc Ls [])) := by
  obtain ⟨locs, X, N, eT⟩ := X
  obtain ⟨fs, hr, hrun, hended, hW, hsame⟩ := X.leave (v := none) (fun _ => rfl) hlk
  exact ⟨_, _, X.returnOut hx hret hd hr, hrun, hended, _, _, rfl, ⟨N, by show Q none T.heap; rw [eT]; exact hQ⟩, ⟨_, rfl⟩, hW, hsame.mono hc hs⟩
end OwnKit
theorem d1_0 : decode method_2_code 0 = .ok (.lload_n 0, 1) := by decide +kernel
theorem d1_1 : decode method_2_code 1 = .ok (.bipush 8, 2) := by decide +kernel
theorem d1_3 : decode method_2_code 3 = .ok (.iload_n 2, 1) := by decide +kernel
theorem d1_4 : decode method_2_code 4 = .ok (.imul, 1) := by decide +kernel
theorem d1_5 : decode method_2_code 5 = .ok (.lushr, 1) := by decide +kernel
theorem d1_6 : decode method_2_code 6 = .ok (.l2i, 1) := by decide +kernel
theorem d1_7 : decode method_2_code 7 = .ok (.i2b, 1) := by decide +kernel
theorem d1_8 : decode method_2_code 8 = .ok (.ireturn, 1) := by decide +kernel
theorem d2_0 : decode method_3_code 0 = .ok (.lload_n 0, 1) := by decide +kernel
theorem d2_1 : decode method_3_code 1 = .ok (.bipush 48, 2) := by decide +kernel
theorem d2_3 : decode method_3_code 3 = .ok (.iconst 3, 1) := by decide +kernel
theorem d2_4 : decode method_3_code 4 = .ok (.iload_n 2, 1) := by decide +kernel
theorem d2_5 : decode method_3_code 5 = .ok (.imul, 1) := by decide +kernel
theorem d2_6 : decode method_3_code 6 = .ok (.iadd, 1) := by decide +kernel
theorem d2_7 : decode method_3_code 7 = .ok (.lushr, 1) := by decide +kernel
theorem d2_8 : decode method_3_code 8 = .ok (.l2i, 1) := by decide +kernel
theorem d2_9 : decode method_3_code 9 = .ok (.bipush 7, 2) := by decide +kernel
theorem d2_11 : decode method_3_code 11 = .ok (.iand, 1) := by decide +kernel
theorem d2_12 : decode method_3_code 12 = .ok (.istore_n 3, 1) := by decide +kernel
theorem d2_13 : decode method_3_code 13 = .ok (.iconst 1, 1) := by decide +kernel
theorem d2_14 : decode method_3_code 14 = .ok (.iload_n 3, 1) := by decide +kernel
theorem d2_15 : decode method_3_code 15 = .ok (.iconst 3, 1) := by decide +kernel
theorem d2_16 : decode method_3_code 16 = .ok (.iand, 1) := by decide +kernel
theorem d2_17 : decode method_3_code 17 = .ok (.ishl, 1) := by decide +kernel
theorem d2_18 : decode method_3_code 18 = .ok (.istore 4, 2) := by decide +kernel
theorem d2_20 : decode method_3_code 20 = .ok (.iload_n 3, 1) := by decide +kernel
theorem d2_21 : decode method_3_code 21 = .ok (.iconst 4, 1) := by decide +kernel
theorem d2_22 : decode method_3_code 22 = .ok (.iand, 1) := by decide +kernel
theorem d2_23 : decode method_3_code 23 = .ok (.ifCond .eq 9, 3) := by decide +kernel
theorem d2_26 : decode method_3_code 26 = .ok (.iload 4, 2) := by decide +kernel
theorem d2_28 : decode method_3_code 28 = .ok (.ineg, 1) := by decide +kernel
theorem d2_29 : decode method_3_code 29 = .ok (.goto 5, 3) := by decide +kernel
theorem d2_32 : decode method_3_code 32 = .ok (.iload 4, 2) := by decide +kernel
theorem d2_34 : decode method_3_code 34 = .ok (.ireturn, 1) := by decide +kernel
theorem d3_0 : decode method_4_code 0 = .ok (.iload_n 1, 1) := by decide +kernel
theorem d3_1 : decode method_4_code 1 = .ok (.iload_n 0, 1) := by decide +kernel
theorem d3_2 : decode method_4_code 2 = .ok (.if_icmp .lt 6, 3) := by decide +kernel
theorem d3_5 : decode method_4_code 5 = .ok (.lload 8, 2) := by decide +kernel
theorem d3_7 : decode method_4_code 7 = .ok (.lreturn, 1) := by decide +kernel
theorem d3_8 : decode method_4_code 8 = .ok (.lload_n 2, 1) := by decide +kernel
theorem d3_9 : decode method_4_code 9 = .ok (.lload 8, 2) := by decide +kernel
theorem d3_11 : decode method_4_code 11 = .ok (.lmul, 1) := by decide +kernel
theorem d3_12 : decode method_4_code 12 = .ok (.lstore 14, 2) := by decide +kernel
theorem d3_14 : decode method_4_code 14 = .ok (.iload_n 1, 1) := by decide +kernel
theorem d3_15 : decode method_4_code 15 = .ok (.iconst 1, 1) := by decide +kernel
theorem d3_16 : decode method_4_code 16 = .ok (.iadd, 1) := by decide +kernel
theorem d3_17 : decode method_4_code 17 = .ok (.iload_n 0, 1) := by decide +kernel
theorem d3_18 : decode method_4_code 18 = .ok (.if_icmp .ge 13, 3) := by decide +kernel
theorem d3_21 : decode method_4_code 21 = .ok (.lload 14, 2) := by decide +kernel
theorem d3_23 : decode method_4_code 23 = .ok (.lload 4, 2) := by decide +kernel
theorem d3_25 : decode method_4_code 25 = .ok (.lload 10, 2) := by decide +kernel
theorem d3_27 : decode method_4_code 27 = .ok (.lmul, 1) := by decide +kernel
theorem d3_28 : decode method_4_code 28 = .ok (.ladd, 1) := by decide +kernel
theorem d3_29 : decode method_4_code 29 = .ok (.lstore 14, 2) := by decide +kernel
theorem d3_31 : decode method_4_code 31 = .ok (.iload_n 1, 1) := by decide +kernel
theorem d3_32 : decode method_4_code 32 = .ok (.iconst 2, 1) := by decide +kernel
theorem d3_33 : decode method_4_code 33 = .ok (.iadd, 1) := by decide +kernel
theorem d3_34 : decode method_4_code 34 = .ok (.iload_n 0, 1) := by decide +kernel
theorem d3_35 : decode method_4_code 35 = .ok (.if_icmp .ge 13, 3) := by decide +kernel
theorem d3_38 : decode method_4_code 38 = .ok (.lload 14, 2) := by decide +kernel
theorem d3_40 : decode method_4_code 40 = .ok (.lload 6, 2) := by decide +kernel
theorem d3_42 : decode method_4_code 42 = .ok (.lload 12, 2) := by decide +kernel
theorem d3_44 : decode method_4_code 44 = .ok (.lmul, 1) := by decide +kernel
theorem d3_45 : decode method_4_code 45 = .ok (.ladd, 1) := by decide +kernel
theorem d3_46 : decode method_4_code 46 = .ok (.lstore 14, 2) := by decide +kernel
theorem d3_48 : decode method_4_code 48 = .ok (.lload 14, 2) := by decide +kernel
theorem d3_50 : decode method_4_code 50 = .ok (.lreturn, 1) := by decide +kernel
theorem d4_0 : decode method_5_code 0 = .ok (.iload_n 3, 1) := by decide +kernel
theorem d4_1 : decode method_5_code 1 = .ok (.iload_n 1, 1) := by decide +kernel
theorem d4_2 : decode method_5_code 2 = .ok (.if_icmp .ge 13, 3) := by decide +kernel
theorem d4_5 : decode method_5_code 5 = .ok (.aload_n 0, 1) := by decide +kernel
theorem d4_6 : decode method_5_code 6 = .ok (.iload_n 2, 1) := by decide +kernel
theorem d4_7 : decode method_5_code 7 = .ok (.iload_n 1, 1) := by decide +kernel
theorem d4_8 : decode method_5_code 8 = .ok (.imul, 1) := by decide +kernel
theorem d4_9 : decode method_5_code 9 = .ok (.iload_n 3, 1) := by decide +kernel
theorem d4_10 : decode method_5_code 10 = .ok (.iadd, 1) := by decide +kernel
theorem d4_11 : decode method_5_code 11 = .ok (.lload 4, 2) := by decide +kernel
theorem d4_13 : decode method_5_code 13 = .ok (.l2d, 1) := by decide +kernel
theorem d4_14 : decode method_5_code 14 = .ok (.dastore, 1) := by decide +kernel
theorem d4_15 : decode method_5_code 15 = .ok (.return_, 1) := by decide +kernel
theorem d5_0 : decode prog_16_method_3_code 0 = .ok (.iload_n 2, 1) := by decide +kernel
theorem d5_1 : decode prog_16_method_3_code 1 = .ok (.iconst 1, 1) := by decide +kernel
theorem d5_2 : decode prog_16_method_3_code 2 = .ok (.isub, 1) := by decide +kernel
theorem d5_3 : decode prog_16_method_3_code 3 = .ok (.istore 5, 2) := by decide +kernel
theorem d5_5 : decode prog_16_method_3_code 5 = .ok (.iload 5, 2) := by decide +kernel
theorem d5_7 : decode prog_16_method_3_code 7 = .ok (.ifCond .lt 127, 3) := by decide +kernel
theorem d5_10 : decode prog_16_method_3_code 10 = .ok (.iload 5, 2) := by decide +kernel
theorem d5_12 : decode prog_16_method_3_code 12 = .ok (.iload 4, 2) := by decide +kernel
theorem d5_14 : decode prog_16_method_3_code 14 = .ok (.imul, 1) := by decide +kernel
theorem d5_15 : decode prog_16_method_3_code 15 = .ok (.istore 6, 2) := by decide +kernel
theorem d5_17 : decode prog_16_method_3_code 17 = .ok (.iload 5, 2) := by decide +kernel
theorem d5_19 : decode prog_16_method_3_code 19 = .ok (.iconst 1, 1) := by decide +kernel
theorem d5_20 : decode prog_16_method_3_code 20 = .ok (.iadd, 1) := by decide +kernel
theorem d5_21 : decode prog_16_method_3_code 21 = .ok (.istore 7, 2) := by decide +kernel
theorem d5_23 : decode prog_16_method_3_code 23 = .ok (.iload 7, 2) := by decide +kernel
theorem d5_25 : decode prog_16_method_3_code 25 = .ok (.iload_n 2, 1) := by decide +kernel
theorem d5_26 : decode prog_16_method_3_code 26 = .ok (.if_icmp .ge 63, 3) := by decide +kernel
theorem d5_29 : decode prog_16_method_3_code 29 = .ok (.aload_n 0, 1) := by decide +kernel
theorem d5_30 : decode prog_16_method_3_code 30 = .ok (.iload 5, 2) := by decide +kernel
theorem d5_32 : decode prog_16_method_3_code 32 = .ok (.iload_n 1, 1) := by decide +kernel
theorem d5_33 : decode prog_16_method_3_code 33 = .ok (.imul, 1) := by decide +kernel
theorem d5_34 : decode prog_16_method_3_code 34 = .ok (.iload 7, 2) := by decide +kernel
theorem d5_36 : decode prog_16_method_3_code 36 = .ok (.iadd, 1) := by decide +kernel
theorem d5_37 : decode prog_16_method_3_code 37 = .ok (.daload, 1) := by decide +kernel
theorem d5_38 : decode prog_16_method_3_code 38 = .ok (.dstore 8, 2) := by decide +kernel
theorem d5_40 : decode prog_16_method_3_code 40 = .ok (.iload 7, 2) := by decide +kernel
theorem d5_42 : decode prog_16_method_3_code 42 = .ok (.iload 4, 2) := by decide +kernel
theorem d5_44 : decode prog_16_method_3_code 44 = .ok (.imul, 1) := by decide +kernel
theorem d5_45 : decode prog_16_method_3_code 45 = .ok (.istore 10, 2) := by decide +kernel
theorem d5_47 : decode prog_16_method_3_code 47 = .ok (.iconst 0, 1) := by decide +kernel
theorem d5_48 : decode prog_16_method_3_code 48 = .ok (.istore 11, 2) := by decide +kernel
theorem d5_50 : decode prog_16_method_3_code 50 = .ok (.iload 11, 2) := by decide +kernel
theorem d5_52 : decode prog_16_method_3_code 52 = .ok (.iload 4, 2) := by decide +kernel
theorem d5_54 : decode prog_16_method_3_code 54 = .ok (.if_icmp .ge 29, 3) := by decide +kernel
theorem d5_57 : decode prog_16_method_3_code 57 = .ok (.aload_n 3, 1) := by decide +kernel
theorem d5_58 : decode prog_16_method_3_code 58 = .ok (.iload 6, 2) := by decide +kernel
theorem d5_60 : decode prog_16_method_3_code 60 = .ok (.iload 11, 2) := by decide +kernel
theorem d5_62 : decode prog_16_method_3_code 62 = .ok (.iadd, 1) := by decide +kernel
theorem d5_63 : decode prog_16_method_3_code 63 = .ok (.dup2, 1) := by decide +kernel
theorem d5_64 : decode prog_16_method_3_code 64 = .ok (.daload, 1) := by decide +kernel
theorem d5_65 : decode prog_16_method_3_code 65 = .ok (.dload 8, 2) := by decide +kernel
theorem d5_67 : decode prog_16_method_3_code 67 = .ok (.aload_n 3, 1) := by decide +kernel
theorem d5_68 : decode prog_16_method_3_code 68 = .ok (.iload 10, 2) := by decide +kernel
theorem d5_70 : decode prog_16_method_3_code 70 = .ok (.iload 11, 2) := by decide +kernel
theorem d5_72 : decode prog_16_method_3_code 72 = .ok (.iadd, 1) := by decide +kernel
theorem d5_73 : decode prog_16_method_3_code 73 = .ok (.daload, 1) := by decide +kernel
theorem d5_74 : decode prog_16_method_3_code 74 = .ok (.dmul, 1) := by decide +kernel
theorem d5_75 : decode prog_16_method_3_code 75 = .ok (.dsub, 1) := by decide +kernel
theorem d5_76 : decode prog_16_method_3_code 76 = .ok (.dastore, 1) := by decide +kernel
theorem d5_77 : decode prog_16_method_3_code 77 = .ok (.iinc 11 1, 3) := by decide +kernel
theorem d5_80 : decode prog_16_method_3_code 80 = .ok (.goto (-30), 3) := by decide +kernel
theorem d5_83 : decode prog_16_method_3_code 83 = .ok (.iinc 7 1, 3) := by decide +kernel
theorem d5_86 : decode prog_16_method_3_code 86 = .ok (.goto (-63), 3) := by decide +kernel
theorem d5_89 : decode prog_16_method_3_code 89 = .ok (.aload_n 0, 1) := by decide +kernel
theorem d5_90 : decode prog_16_method_3_code 90 = .ok (.iload 5, 2) := by decide +kernel
theorem d5_92 : decode prog_16_method_3_code 92 = .ok (.iload_n 1, 1) := by decide +kernel
theorem d5_93 : decode prog_16_method_3_code 93 = .ok (.imul, 1) := by decide +kernel
theorem d5_94 : decode prog_16_method_3_code 94 = .ok (.iload 5, 2) := by decide +kernel
theorem d5_96 : decode prog_16_method_3_code 96 = .ok (.iadd, 1) := by decide +kernel
theorem d5_97 : decode prog_16_method_3_code 97 = .ok (.daload, 1) := by decide +kernel
theorem d5_98 : decode prog_16_method_3_code 98 = .ok (.dstore 7, 2) := by decide +kernel
theorem d5_100 : decode prog_16_method_3_code 100 = .ok (.iconst 0, 1) := by decide +kernel
theorem d5_101 : decode prog_16_method_3_code 101 = .ok (.istore 9, 2) := by decide +kernel
theorem d5_103 : decode prog_16_method_3_code 103 = .ok (.iload 9, 2) := by decide +kernel
theorem d5_105 : decode prog_16_method_3_code 105 = .ok (.iload 4, 2) := by decide +kernel
theorem d5_107 : decode prog_16_method_3_code 107 = .ok (.if_icmp .ge 21, 3) := by decide +kernel
theorem d5_110 : decode prog_16_method_3_code 110 = .ok (.aload_n 3, 1) := by decide +kernel
theorem d5_111 : decode prog_16_method_3_code 111 = .ok (.iload 6, 2) := by decide +kernel
theorem d5_113 : decode prog_16_method_3_code 113 = .ok (.iload 9, 2) := by decide +kernel
theorem d5_115 : decode prog_16_method_3_code 115 = .ok (.iadd, 1) := by decide +kernel
theorem d5_116 : decode prog_16_method_3_code 116 = .ok (.dup2, 1) := by decide +kernel
theorem d5_117 : decode prog_16_method_3_code 117 = .ok (.daload, 1) := by decide +kernel
theorem d5_118 : decode prog_16_method_3_code 118 = .ok (.dload 7, 2) := by decide +kernel
theorem d5_120 : decode prog_16_method_3_code 120 = .ok (.ddiv, 1) := by decide +kernel
theorem d5_121 : decode prog_16_method_3_code 121 = .ok (.dastore, 1) := by decide +kernel
theorem d5_122 : decode prog_16_method_3_code 122 = .ok (.iinc 9 1, 3) := by decide +kernel
theorem d5_125 : decode prog_16_method_3_code 125 = .ok (.goto (-22), 3) := by decide +kernel
theorem d5_128 : decode prog_16_method_3_code 128 = .ok (.iinc 5 (-1), 3) := by decide +kernel
theorem d5_131 : decode prog_16_method_3_code 131 = .ok (.goto (-126), 3) := by decide +kernel
theorem d5_134 : decode prog_16_method_3_code 134 = .ok (.return_, 1) := by decide +kernel
theorem d6_0 : decode method_6_code 0 = .ok (.iload_n 3, 1) := by decide +kernel
theorem d6_1 : decode method_6_code 1 = .ok (.iload_n 1, 1) := by decide +kernel
theorem d6_2 : decode method_6_code 2 = .ok (.if_icmp .ge 17, 3) := by decide +kernel
theorem d6_5 : decode method_6_code 5 = .ok (.aload_n 0, 1) := by decide +kernel
theorem d6_6 : decode method_6_code 6 = .ok (.iload_n 2, 1) := by decide +kernel
theorem d6_7 : decode method_6_code 7 = .ok (.iload_n 1, 1) := by decide +kernel
theorem d6_8 : decode method_6_code 8 = .ok (.imul, 1) := by decide +kernel
theorem d6_9 : decode method_6_code 9 = .ok (.iload_n 3, 1) := by decide +kernel
theorem d6_10 : decode method_6_code 10 = .ok (.iadd, 1) := by decide +kernel
theorem d6_11 : decode method_6_code 11 = .ok (.daload, 1) := by decide +kernel
theorem d6_12 : decode method_6_code 12 = .ok (.lload 4, 2) := by decide +kernel
theorem d6_14 : decode method_6_code 14 = .ok (.l2d, 1) := by decide +kernel
theorem d6_15 : decode method_6_code 15 = .ok (.dcmp .l, 1) := by decide +kernel
theorem d6_16 : decode method_6_code 16 = .ok (.ifCond .ne 7, 3) := by decide +kernel
theorem d6_19 : decode method_6_code 19 = .ok (.iconst 1, 1) := by decide +kernel
theorem d6_20 : decode method_6_code 20 = .ok (.goto 4, 3) := by decide +kernel
theorem d6_24 : decode method_6_code 24 = .ok (.ireturn, 1) := by decide +kernel
theorem pd_0 : parseMethodDescriptor "(JI)I" = some ⟨[.long, .int], some .int⟩ := by decide +kernel
theorem pd_1 : parseMethodDescriptor "(IIJJJJJJ)J" = some ⟨[.int, .int, .long, .long, .long, .long, .long, .long], some .long⟩ := by decide +kernel
theorem pd_2 : parseMethodDescriptor "([DIIIJ)V" = some ⟨[(.array .double), .int, .int, .int, .long], none⟩ := by decide +kernel
theorem pd_3 : parseMethodDescriptor "([DII[DI)V" = some ⟨[(.array .double), .int, .int, (.array .double), .int], none⟩ := by decide +kernel
theorem pd_4 : parseMethodDescriptor "([DIIIJ)Z" = some ⟨[(.array .double), .int, .int, .int, .long], some .boolean⟩ := by decide +kernel
section OwnFP
open Jvm.FP Jvm.FP.Core Jvm.Free.Fl
/-- a double's value, counted in the format's least numbers (2^-1074) -/
def dv (x : UInt64) : Int := zval b64 (val64 x)
/-- what the whole number 1 counts -/
def oneU : Int := (one64 : Int)
/-- z least numbers are a finite double -/
def Rep (z : Int) : Prop := ∃ V : Datum, FP.Core.fits b64 V ∧ (∃ s c q, V = .fin s c q) ∧ zval b64 V = z
theorem oneU_pos : 0 < oneU := by have := one64_pos; unfold oneU; omega
theorem rep_neg {z : Int} (h : Rep z) : Rep (-z) := by
  obtain ⟨V, h1, ⟨s, c, q, rfl⟩, h3⟩ := h
  exact ⟨negate (.fin s c q), negate_fits h1, ⟨_, _, _, rfl⟩, by rw [zval_negate, h3]⟩
theorem rep_nat {c j : Nat} (hc : c < 2 ^ 53) (hj : j ≤ 2045) : Rep ((c * 2 ^ j : Nat) : Int) := by
  have hm : b64.qmax = 971 := by decide
  obtain ⟨c', q', h1, h2⟩ := round_exact good_b64 false (c := c) (q := -1074 + (j : Int)) hc (by rw [qmin_b64]; omega) (by rw [hm]; omega)
  refine ⟨round b64 (.fin false c (-1074 + (j : Int))), round_fits good_b64 _, ⟨_, _, _, h1⟩, ?_⟩
  rw [h1]
  show signed false (inUnits c' q' b64.qmin) = _
  rw [h2]
  show ((inUnits c (-1074 + (j : Int)) b64.qmin : Nat) : Int) = _
  unfold inUnits
  rw [qmin_b64, show (-1074 + (j : Int) - -1074).toNat = j by omega]
theorem rep_int {z : Int} {c j : Nat} (hc : c < 2 ^ 53) (hj : j ≤ 2045) (h : z.natAbs = c * 2 ^ j) : Rep z := by
  have q := rep_nat hc hj
  rw [← h] at q
  rcases Int.natAbs_eq z with e | e
  · rw [e]; exact q
  · rw [e]; exact rep_neg q
theorem rep_dv {x : UInt64} (h : DFin x) : Rep (dv x) := ⟨val64 x, val64_fits x, h, rfl⟩
theorem squeeze {d : Datum} (hf : FP.Core.fits b64 d) (hn : d ≠ .nan) {z : Int} (hr : Rep z) (h1 : ∀ V, FP.Core.fits b64 V → V ≠ .nan → zval b64 V = z → zval b64 d ≤ zval b64 V) (h2 : ∀ V, FP.Core.fits b64 V → V ≠ .nan → zval b64 V = z → zval b64 V ≤ zval b64 d) :
    (∃ s c q, d = .fin s c q) ∧ zval b64 d = z := by
  obtain ⟨V, v1, ⟨s, c, q, rfl⟩, v3⟩ := hr
  have e1 := h1 _ v1 (by simp) v3
  have e2 := h2 _ v1 (by simp) v3
  have e : zval b64 d = z := by omega
  refine ⟨?_, e⟩
  have ht := zmag_lt_top good_b64 v1
  cases d with
  | nan => exact absurd rfl hn
  | fin s' c' q' => exact ⟨_, _, _, rfl⟩
  | inf t =>
    exfalso
    rw [← v3] at e
    have a1 : (zval b64 (.inf t)).natAbs = b64.tails * 2 ^ (b64.exps - 2) := natAbs_signed _ _
    have a2 : (zval b64 (.fin s c q)).natAbs = inUnits c q b64.qmin := natAbs_signed _ _
    rw [e, a2] at a1
    omega
theorem add_le {x y : UInt64} (hx : DFin x) (hy : DFin y) {V : Datum} (fV : FP.Core.fits b64 V) (hV : V ≠ .nan) (h : dv x + dv y ≤ zval b64 V) : dv (FP.dadd x y) ≤ zval b64 V := by
  unfold dv; rw [val64_dadd]; exact sum_le good_b64 hx hy (val64_fits x) (val64_fits y) fV hV h
theorem add_ge {x y : UInt64} (hx : DFin x) (hy : DFin y) {V : Datum} (fV : FP.Core.fits b64 V) (hV : V ≠ .nan) (h : zval b64 V ≤ dv x + dv y) : zval b64 V ≤ dv (FP.dadd x y) := by
  unfold dv; rw [val64_dadd]; exact sum_ge good_b64 hx hy (val64_fits x) (val64_fits y) fV hV h
theorem add_exact {x y : UInt64} (hx : DFin x) (hy : DFin y) {z : Int} (h : dv x + dv y = z) (hr : Rep z) : DFin (FP.dadd x y) ∧ dv (FP.dadd x y) = z :=
  squeeze (val64_fits _) ((notNaN_iff _).mp (dadd_out hx.notNaN hy)) hr (fun V f n e => add_le hx hy f n (by omega)) (fun V f n e => add_ge hx hy f n (by omega))
theorem neg_fin {x : UInt64} (hx : DFin x) : DFin (FP.dneg x) ∧ dv (FP.dneg x) = -dv x := by
  obtain ⟨s, c, q, h⟩ := hx
  unfold dv DFin; rw [FP.val64_dneg, zval_negate, h]
  exact ⟨⟨_, _, _, rfl⟩, rfl⟩
theorem sub_dneg {x y : UInt64} (hy : DFin y) : FP.dsub x y = FP.dadd x (FP.dneg y) := by
  rw [FP.dneg_core hy.notNaN]; exact dsub_eq x y
theorem sub_exact {x y : UInt64} (hx : DFin x) (hy : DFin y) {z : Int} (h : dv x - dv y = z) (hr : Rep z) : DFin (FP.dsub x y) ∧ dv (FP.dsub x y) = z := by
  rw [sub_dneg hy]
  exact add_exact hx (neg_fin hy).1 (by rw [(neg_fin hy).2]; omega) hr
theorem mul_units {x y : UInt64} (hx : DFin x) (hy : DFin y) : ∃ s c q, exactProduct (val64 x) (val64 y) = .fin s c q ∧ 2 * b64.qmin ≤ q ∧ signed s (inUnits c q (2 * b64.qmin)) = dv x * dv y := by
  obtain ⟨s, c, q, h1⟩ := hx
  obtain ⟨t, d, r, h2⟩ := hy
  have f1 := val64_fits x
  have f2 := val64_fits y
  unfold dv
  rw [h1] at f1 ⊢
  rw [h2] at f2 ⊢
  obtain ⟨p1, p2, p3⟩ := product_units f1 f2
  refine ⟨_, _, _, p1, p2, ?_⟩
  rw [p3, signed_xor]
  rfl
theorem two_qmin : 2 ^ (b64.qmin - 2 * b64.qmin).toNat = one64 := by rw [← pow_qmin64]; congr 1
theorem mul_le {x y : UInt64} (hx : DFin x) (hy : DFin y) {V : Datum} (fV : FP.Core.fits b64 V) (hV : V ≠ .nan) (h : dv x * dv y ≤ zval b64 V * oneU) : dv (FP.dmul x y) ≤ zval b64 V := by
  obtain ⟨s, c, q, h1, h2, h3⟩ := mul_units hx hy
  show zval b64 (val64 (FP.dmul x y)) ≤ _
  rw [val64_dmul, h1]
  refine zval_round_le good_b64 fV hV (e0 := 2 * b64.qmin) (by rw [qmin_b64]; omega) h2 ?_
  rw [h3, two_qmin]; exact h
theorem mul_ge {x y : UInt64} (hx : DFin x) (hy : DFin y) {V : Datum} (fV : FP.Core.fits b64 V) (hV : V ≠ .nan) (h : zval b64 V * oneU ≤ dv x * dv y) : zval b64 V ≤ dv (FP.dmul x y) := by
  obtain ⟨s, c, q, h1, h2, h3⟩ := mul_units hx hy
  show _ ≤ zval b64 (val64 (FP.dmul x y))
  rw [val64_dmul, h1]
  refine zval_round_ge good_b64 fV hV (e0 := 2 * b64.qmin) (by rw [qmin_b64]; omega) h2 ?_
  rw [h3, two_qmin]; exact h
theorem mul_exact {x y : UInt64} (hx : DFin x) (hy : DFin y) {z : Int} (h : dv x * dv y = z * oneU) (hr : Rep z) : DFin (FP.dmul x y) ∧ dv (FP.dmul x y) = z :=
  squeeze (val64_fits _) ((notNaN_iff _).mp (dmul_out hx hy)) hr (fun V f n e => mul_le hx hy f n (by rw [e, h]; exact Int.le_refl _)) (fun V f n e => mul_ge hx hy f n (by rw [e, h]; exact Int.le_refl _))
theorem dv_zero_iff {x : UInt64} (hx : DFin x) : DZero x ↔ dv x = 0 := by
  obtain ⟨s, c, q, h⟩ := hx
  constructor
  · intro hz; exact hz.zval
  · intro hz; exact (zero_bits2 x).mpr ((zval_eq_zero (by rw [h]; simp)).mp hz)
theorem div_units {x y : UInt64} (hx : DFin x) (hy : DFin y) (h0 : dv y ≠ 0) : ∃ (s t : Bool) (c d : Nat) (q r : Int), val64 (FP.ddiv x y) = roundRatio b64 (s != t) c d (q - r) ∧ 0 < d ∧ b64.qmin ≤ q ∧ b64.qmin ≤ r ∧ dv x = signed s (inUnits c q b64.qmin) ∧ dv y = signed t (inUnits d r b64.qmin) := by
  obtain ⟨s, c, q, h1⟩ := hx
  obtain ⟨t, d, r, h2⟩ := hy
  have f1 := val64_fits x
  have f2 := val64_fits y
  have hd : d ≠ 0 := by
    intro e; apply h0; unfold dv; rw [h2, e]; show signed t (inUnits 0 r b64.qmin) = 0; unfold inUnits; rw [Nat.zero_mul, signed_zero]
  refine ⟨s, t, c, d, q, r, ?_, Nat.pos_of_ne_zero hd, ?_, ?_, ?_, ?_⟩
  · rw [val64_ddiv, h1, h2]; show (if d = 0 then _ else _) = _; rw [if_neg hd]
  · rw [h1] at f1; exact f1.2.1
  · rw [h2] at f2; exact f2.2.1
  · unfold dv; rw [h1]; rfl
  · unfold dv; rw [h2]; rfl
theorem div_scale {c d : Nat} {q r : Int} (h1 : b64.qmin ≤ q) (h2 : b64.qmin ≤ r) (v : Nat) :
    inUnits c (q - r) (2 * b64.qmin - r) = inUnits c q b64.qmin * one64 ∧ v * 2 ^ (b64.qmin - (2 * b64.qmin - r)).toNat * d = v * inUnits d r b64.qmin := by
  unfold inUnits
  rw [← pow_qmin64]
  rw [qmin_b64] at h1 h2 ⊢
  constructor
  · rw [show (q - r - (2 * -1074 - r)).toNat = (q - -1074).toNat + (- -1074 : Int).toNat by omega, Nat.pow_add, Nat.mul_assoc]
  · rw [show (-1074 - (2 * -1074 - r)).toNat = (r - -1074).toNat by omega, Nat.mul_assoc, Nat.mul_comm (2 ^ _) d]
/-- a quotient of two that are not below nought, by monotony -/
theorem div_le {x y : UInt64} (hx : DFin x) (hy : DFin y) (px : 0 ≤ dv x) (py : 0 < dv y) {V : Datum} (fV : FP.Core.fits b64 V) (hV : V ≠ .nan) (h : dv x * oneU ≤ zval b64 V * dv y) : dv (FP.ddiv x y) ≤ zval b64 V := by
  obtain ⟨s, t, c, d, q, r, e, hd, hq, hr, ex, ey⟩ := div_units hx hy (by omega)
  show zval b64 (val64 (FP.ddiv x y)) ≤ _
  rw [e]
  have nv : 0 ≤ zval b64 V := by
    rcases Int.lt_or_le (zval b64 V) 0 with g | g
    · have := oneU_pos
      have a1 : 0 ≤ dv x * oneU := Int.mul_nonneg px (by omega)
      have a2 : zval b64 V * dv y < 0 := Int.mul_neg_of_neg_of_pos g py
      omega
    · exact g
  obtain ⟨k1, k2⟩ := div_scale (c := c) (d := d) hq hr (zmag b64 V)
  have ax : dv x = (inUnits c q b64.qmin : Int) := by
    rw [ex] at px ⊢; unfold signed at px ⊢; split <;> rename_i g <;> simp only [g, if_true] at px <;> omega
  have ay : dv y = (inUnits d r b64.qmin : Int) := by
    rw [ey] at py ⊢; unfold signed at py ⊢; split <;> rename_i g <;> simp only [g, if_true] at py <;> omega
  have av : zval b64 V = (zmag b64 V : Int) := by
    unfold zval at nv ⊢; unfold signed at nv ⊢; split <;> rename_i g <;> simp only [g, if_true] at nv <;> omega
  have hz := zmag_roundRatio_le good_b64 (s := (s != t)) (A := c) (B := d) (e := q - r) (e0 := 2 * b64.qmin - r) hd fV hV (by omega) (by rw [qmin_b64] at hq ⊢; omega) (by
    rw [k1, k2]
    rw [ax, ay, av] at h
    unfold oneU at h
    exact_mod_cast h)
  rw [av]
  unfold zval signed
  split <;> omega
theorem div_ge {x y : UInt64} (hx : DFin x) (hy : DFin y) (px : 0 ≤ dv x) (py : 0 < dv y) (hs : ∀ s c q, val64 x = .fin s c q → s = false) (hs' : ∀ s c q, val64 y = .fin s c q → s = false) {V : Datum} (fV : FP.Core.fits b64 V) (h : zval b64 V * dv y ≤ dv x * oneU) : zval b64 V ≤ dv (FP.ddiv x y) := by
  obtain ⟨s, c, q, h1⟩ := hx
  obtain ⟨t, d, r, h2⟩ := hy
  have es := hs _ _ _ h1
  have et := hs' _ _ _ h2
  subst es et
  have f1 := val64_fits x
  have f2 := val64_fits y
  have ax : dv x = (inUnits c q b64.qmin : Int) := by unfold dv; rw [h1]; rfl
  have ay : dv y = (inUnits d r b64.qmin : Int) := by unfold dv; rw [h2]; rfl
  have hd : d ≠ 0 := by
    intro e; rw [ay, e] at py; unfold inUnits at py; rw [Nat.zero_mul] at py; exact absurd py (by decide)
  rw [h1] at f1
  rw [h2] at f2
  show _ ≤ zval b64 (val64 (FP.ddiv x y))
  rw [val64_ddiv, h1, h2]
  show _ ≤ zval b64 (if d = 0 then _ else _)
  rw [if_neg hd]
  obtain ⟨k1, k2⟩ := div_scale (c := c) (d := d) f1.2.1 f2.2.1 (zmag b64 V)
  have hz := fun g => zmag_roundRatio_ge good_b64 (s := (false != false)) (A := c) (B := d) (e := q - r) (e0 := 2 * b64.qmin - r) (V := V) (Nat.pos_of_ne_zero hd) fV (by have := f2.2.1; omega) (by have := f1.2.1; rw [qmin_b64] at this ⊢; omega) g
  have e : zval b64 (roundRatio b64 (false != false) c d (q - r)) = (zmag b64 (roundRatio b64 (false != false) c d (q - r)) : Int) := by
    unfold zval; rw [sgn_roundRatio]; rfl
  rw [e]
  rcases Int.lt_or_le (zval b64 V) 0 with g | g
  · omega
  · have av : zval b64 V = (zmag b64 V : Int) := by
      unfold zval at g ⊢; unfold signed at g ⊢; split <;> rename_i w <;> simp only [w, if_true] at g <;> omega
    rw [av] at h ⊢
    have := hz (by
      rw [k1, k2]
      rw [ax, ay] at h
      unfold oneU at h
      exact_mod_cast h)
    omega
theorem noNaN_of_fin {x : UInt64} (h : DFin x) : NoNaN64 x := (fin64_core.mpr h).noNaN
theorem dint_fin {i : Int} {x : UInt64} (h : DInt i x) : DFin x ∧ dv x = i * oneU := by
  refine ⟨?_, DInt_zval h⟩
  unfold DInt at h
  cases hv : val64 x with
  | nan => rw [hv] at h; exact h.elim
  | inf s => rw [hv] at h; exact h.elim
  | fin s c q => exact ⟨s, c, q, hv⟩
theorem cmp_dv {x y : UInt64} (hx : DFin x) (hy : DFin y) : FP.dcmp x y = some (compare (dv x) (dv y)) := dcmp_zval hx.ne_nan hy.ne_nan
end OwnFP
section OwnDy
open Jvm.FP Jvm.FP.Core Jvm.Free.Fl
/-- 2^j, as an Int -/
def pw (j : Nat) : Int := ((2 ^ j : Nat) : Int)
theorem pw_mul (i j : Nat) : pw i * pw j = pw (i + j) := by unfold pw; rw [Nat.pow_add]; exact (Int.natCast_mul _ _).symm
theorem pw_pos (j : Nat) : 0 < pw j := by unfold pw; have := Nat.two_pow_pos j; omega
theorem pw_abs (j : Nat) : (pw j).natAbs = 2 ^ j := by unfold pw; exact Int.natAbs_natCast _
theorem oneU_pw : oneU = pw 1074 := rfl
/-- the double x is n * 2^j least numbers (n whole: j = 1074) -/
def Dy (n : Int) (j : Nat) (x : UInt64) : Prop := DFin x ∧ dv x = n * pw j
theorem dy_int {i : Int} {x : UInt64} (h : DInt i x) : Dy i 1074 x := by
  have q := dint_fin h
  exact ⟨q.1, by rw [q.2, oneU_pw]⟩
theorem rep_pw {n : Int} {j : Nat} (hn : n.natAbs < 2 ^ 53) (hj : j ≤ 2045) : Rep (n * pw j) := rep_int hn hj (by rw [Int.natAbs_mul, pw_abs])
theorem dy_add {n m : Int} {j : Nat} {x y : UInt64} (hx : Dy n j x) (hy : Dy m j y) (h : (n + m).natAbs < 2 ^ 53) (hj : j ≤ 2045) : Dy (n + m) j (FP.dadd x y) :=
  add_exact hx.1 hy.1 (by rw [hx.2, hy.2, Int.add_mul]) (rep_pw h hj)
theorem dy_sub {n m : Int} {j : Nat} {x y : UInt64} (hx : Dy n j x) (hy : Dy m j y) (h : (n - m).natAbs < 2 ^ 53) (hj : j ≤ 2045) : Dy (n - m) j (FP.dsub x y) :=
  sub_exact hx.1 hy.1 (by rw [hx.2, hy.2, Int.sub_mul]) (rep_pw h hj)
theorem dy_neg {n : Int} {j : Nat} {x : UInt64} (hx : Dy n j x) : Dy (-n) j (FP.dneg x) :=
  ⟨(neg_fin hx.1).1, by rw [(neg_fin hx.1).2, hx.2, Int.neg_mul]⟩
theorem dy_mul {n m : Int} {i j k : Nat} {x y : UInt64} (hx : Dy n i x) (hy : Dy m j y) (hk : i + j = k + 1074) (h : (n * m).natAbs < 2 ^ 53) (hj : k ≤ 2045) : Dy (n * m) k (FP.dmul x y) :=
  mul_exact hx.1 hy.1 (by
    have e : pw i * pw j = pw k * oneU := by rw [oneU_pw, pw_mul, pw_mul, hk]
    rw [hx.2, hy.2, Int.mul_assoc (n * m), ← e]
    ac_rfl) (rep_pw h hj)
theorem dy_shift {n : Int} {j : Nat} {x : UInt64} (t : Nat) (h : Dy n (j + t) x) : Dy (n * pw t) j x := by
  refine ⟨h.1, ?_⟩
  rw [h.2, ← pw_mul]
  ac_rfl
theorem compare_pw (n m : Int) (j : Nat) : compare (n * pw j) (m * pw j) = compare n m := compare_mul_pos _ _ _ (pw_pos j)
theorem dy_cmp {n m : Int} {j : Nat} {x y : UInt64} (hx : Dy n j x) (hy : Dy m j y) : FP.dcmp x y = some (compare n m) := by
  rw [cmp_dv hx.1 hy.1, hx.2, hy.2, compare_pw]
theorem signed_cases (s : Bool) (n : Nat) : signed s n = (n : Int) ∨ signed s n = -(n : Int) := by cases s <;> simp [signed]
/-- an exact quotient -/
theorem div_exact {x y : UInt64} (hx : DFin x) (hy : DFin y) (h0 : dv y ≠ 0) {z : Int} (h : dv x * oneU = z * dv y) (hr : Rep z) : DFin (FP.ddiv x y) ∧ dv (FP.ddiv x y) = z := by
  obtain ⟨s, t, c, d, q, r, e, hd, hq, hr1, ex, ey⟩ := div_units hx hy h0
  obtain ⟨V, fV, ⟨s', c', q', rfl⟩, hz⟩ := hr
  have az : zmag b64 (.fin s' c' q') = z.natAbs := by rw [← hz]; exact (natAbs_signed _ _).symm
  have ax : (dv x).natAbs = inUnits c q b64.qmin := by rw [ex, natAbs_signed]
  have ay : (dv y).natAbs = inUnits d r b64.qmin := by rw [ey, natAbs_signed]
  have ha : inUnits c q b64.qmin * one64 = z.natAbs * inUnits d r b64.qmin := by
    have := congrArg Int.natAbs h
    rw [Int.natAbs_mul, Int.natAbs_mul, ax, ay] at this
    exact this
  obtain ⟨k1, k2⟩ := div_scale (c := c) (d := d) hq hr1 (zmag b64 (.fin s' c' q'))
  have l1 := zmag_roundRatio_le good_b64 (s := (s != t)) (A := c) (B := d) (e := q - r) (e0 := 2 * b64.qmin - r) hd fV (by simp) (by omega) (by rw [qmin_b64] at hq ⊢; omega) (by rw [k1, k2, az, ha]; exact Nat.le_refl _)
  have l2 := zmag_roundRatio_ge good_b64 (s := (s != t)) (A := c) (B := d) (e := q - r) (e0 := 2 * b64.qmin - r) hd fV (by omega) (by rw [qmin_b64] at hq ⊢; omega) (by rw [k1, k2, az, ha]; exact Nat.le_refl _)
  have lz : zmag b64 (roundRatio b64 (s != t) c d (q - r)) = z.natAbs := by omega
  have ez : zval b64 (val64 (FP.ddiv x y)) = signed (s != t) z.natAbs := by
    rw [e]; unfold zval; rw [sgn_roundRatio, lz]
  have es : signed (s != t) z.natAbs = z := by
    by_cases hz0 : z = 0
    · rw [hz0]; exact signed_zero _
    · have hu := oneU_pos
      rw [ex, ey] at h
      have hc : 0 < inUnits c q b64.qmin := by
        rcases Nat.eq_zero_or_pos (inUnits c q b64.qmin) with w | w
        · rw [w, Nat.zero_mul] at ha
          have : 0 < z.natAbs * inUnits d r b64.qmin := Nat.mul_pos (by omega) (by unfold inUnits; exact Nat.mul_pos hd (Nat.two_pow_pos _))
          omega
        · exact w
      have hdd : 0 < inUnits d r b64.qmin := by unfold inUnits; exact Nat.mul_pos hd (Nat.two_pow_pos _)
      generalize inUnits c q b64.qmin = C at *
      generalize inUnits d r b64.qmin = D at *
      have p1 : (0 : Int) < (C : Int) * oneU := Int.mul_pos (by omega) hu
      cases s <;> cases t <;> simp only [signed, bne_self_eq_false, Bool.false_eq_true, if_false, if_true, Bool.true_bne, Bool.false_bne, Bool.not_false] at h ⊢
      · have : 0 < z := by
          rcases Int.lt_or_le 0 z with w | w
          · exact w
          · have := Int.mul_nonpos_of_nonpos_of_nonneg w (show (0 : Int) ≤ (D : Int) by omega); omega
        omega
      · have : z < 0 := by
          rcases Int.lt_or_le z 0 with w | w
          · exact w
          · have := Int.mul_nonneg w (show (0 : Int) ≤ (D : Int) by omega); rw [Int.mul_neg] at h; omega
        omega
      · have : z < 0 := by
          rcases Int.lt_or_le z 0 with w | w
          · exact w
          · have := Int.mul_nonneg w (show (0 : Int) ≤ (D : Int) by omega); rw [Int.neg_mul] at h; omega
        omega
      · have : 0 < z := by
          rcases Int.lt_or_le 0 z with w | w
          · exact w
          · have := Int.mul_nonpos_of_nonpos_of_nonneg w (show (0 : Int) ≤ (D : Int) by omega); rw [Int.neg_mul, Int.mul_neg] at h; omega
        omega
  refine ⟨?_, ez.trans es⟩
  have hn : FP.dIsNaN (FP.ddiv x y) = false := ddiv_out hx.notNaN hy (fun w => h0 ((dv_zero_iff hy).mp w))
  have ht := zmag_lt_top good_b64 fV
  unfold DFin
  cases hv : val64 (FP.ddiv x y) with
  | nan => exact absurd hv ((notNaN_iff _).mp hn)
  | fin s2 c2 q2 => exact ⟨_, _, _, rfl⟩
  | inf t2 =>
    exfalso
    rw [hv] at e
    rw [← e] at lz
    have a1 : zmag b64 (.inf t2) = b64.tails * 2 ^ (b64.exps - 2) := rfl
    have a2 : zmag b64 (.fin s' c' q') = inUnits c' q' b64.qmin := rfl
    rw [a1] at lz
    omega
theorem dy_div {n m q : Int} {i j k : Nat} {x y : UInt64} (hx : Dy n i x) (hy : Dy m j y) (hm : m ≠ 0) (hq : n = q * m) (hk : i + 1074 = k + j) (h : q.natAbs < 2 ^ 53) (hj : k ≤ 2045) : Dy q k (FP.ddiv x y) :=
  div_exact hx.1 hy.1 (by rw [hy.2]; exact Int.mul_ne_zero hm (Int.ne_of_gt (pw_pos j))) (by
    have e : pw i * oneU = pw k * pw j := by rw [oneU_pw, pw_mul, pw_mul, hk]
    rw [hx.2, hy.2, hq, Int.mul_assoc (q * m), e]
    ac_rfl) (rep_pw h hj)
theorem dy_noNaN {n : Int} {j : Nat} {x : UInt64} (h : Dy n j x) : NoNaN64 x := noNaN_of_fin h.1
/-- two quotients of the same ratio are one double -/
theorem div_congr {x y x' y' : UInt64} (hx : DFin x) (hy : DFin y) (hx' : DFin x') (hy' : DFin y') (px : 0 < dv x) (py : 0 < dv y) (px' : 0 < dv x') (py' : 0 < dv y') (h : dv x * dv y' = dv x' * dv y) : FP.ddiv x y = FP.ddiv x' y' := by
  have sg : ∀ {s : Bool} {n : Nat}, 0 < signed s n → s = false ∧ signed s n = (n : Int) := by
    intro s n q; cases s
    · exact ⟨rfl, rfl⟩
    · simp only [signed, if_true] at q; omega
  obtain ⟨s, t, c, d, q, r, e, hd, hq, hr, ex, ey⟩ := div_units hx hy (by omega)
  obtain ⟨s', t', c', d', q', r', e', hd', hq', hr', ex', ey'⟩ := div_units hx' hy' (by omega)
  rw [ex] at px; rw [ey] at py; rw [ex'] at px'; rw [ey'] at py'
  rw [ex, ey, ex', ey', (sg px).2, (sg py).2, (sg px').2, (sg py').2] at h
  have hn : val64 (FP.ddiv x y) ≠ .nan := by rw [e]; exact roundRatio_ne_nan _ _ _ _ _
  refine val64_inj hn ?_
  rw [e, e', (sg px).1, (sg py).1, (sg px').1, (sg py').1]
  refine roundRatio_congr hd hd' ?_
  have hN : inUnits c q b64.qmin * inUnits d' r' b64.qmin = inUnits c' q' b64.qmin * inUnits d r b64.qmin := by exact_mod_cast h
  unfold inUnits at hN
  generalize ha1 : (q - b64.qmin).toNat = a1 at hN
  generalize ha2 : (r' - b64.qmin).toNat = a2 at hN
  generalize ha3 : (q' - b64.qmin).toNat = a3 at hN
  generalize ha4 : (r - b64.qmin).toNat = a4 at hN
  have h1 : c * d' * 2 ^ (a1 + a2) = c' * d * 2 ^ (a3 + a4) := by
    rw [Nat.pow_add, Nat.pow_add]
    calc c * d' * (2 ^ a1 * 2 ^ a2) = c * 2 ^ a1 * (d' * 2 ^ a2) := by ac_rfl
      _ = c' * 2 ^ a3 * (d * 2 ^ a4) := hN
      _ = _ := by ac_rfl
  rcases Nat.le_total (a3 + a4) (a1 + a2) with w | w
  · obtain ⟨k, hk⟩ := Nat.le.dest w
    rw [← hk, Nat.pow_add 2 (a3 + a4) k, Nat.mul_comm (2 ^ (a3 + a4)), ← Nat.mul_assoc] at h1
    have h2 := Nat.eq_of_mul_eq_mul_right (Nat.two_pow_pos _) h1
    rw [show (q - r - (q' - r')).toNat = k by omega, show (q' - r' - (q - r)).toNat = 0 by omega, h2]; omega
  · obtain ⟨k, hk⟩ := Nat.le.dest w
    rw [← hk, Nat.pow_add 2 (a1 + a2) k, Nat.mul_comm (2 ^ (a1 + a2)), ← Nat.mul_assoc] at h1
    have h2 := Nat.eq_of_mul_eq_mul_right (Nat.two_pow_pos _) h1
    rw [show (q - r - (q' - r')).toNat = 0 by omega, show (q' - r' - (q - r)).toNat = k by omega, ← h2]; omega
theorem own_p53 : (2 : Nat) ^ 53 = 9007199254740992 := by decide +kernel
theorem own_mb {a b : Int} {A B : Nat} (ha : a.natAbs ≤ A) (hb : b.natAbs ≤ B) (h : A * B < 9007199254740992) : (a * b).natAbs < 2 ^ 53 := by
  rw [own_p53, Int.natAbs_mul]; exact Nat.lt_of_le_of_lt (Nat.mul_le_mul ha hb) h
theorem own_addl {a b : Int} {A B : Nat} (ha : a.natAbs ≤ A) (hb : b.natAbs ≤ B) : (a + b).natAbs ≤ A + B := by omega
theorem own_subl {a b : Int} {A B : Nat} (ha : a.natAbs ≤ A) (hb : b.natAbs ≤ B) : (a - b).natAbs ≤ A + B := by omega
theorem own_addb {a b : Int} {A B : Nat} (ha : a.natAbs ≤ A) (hb : b.natAbs ≤ B) (h : A + B < 9007199254740992) : (a + b).natAbs < 2 ^ 53 := by rw [own_p53]; omega
theorem own_subb {a b : Int} {A B : Nat} (ha : a.natAbs ≤ A) (hb : b.natAbs ≤ B) (h : A + B < 9007199254740992) : (a - b).natAbs < 2 ^ 53 := by rw [own_p53]; omega
theorem own_shl {a k : Int} {A B : Nat} (ha : a.natAbs ≤ A) (h : A * k.natAbs ≤ B) : (a * k).natAbs ≤ B := by rw [Int.natAbs_mul]; exact Nat.le_trans (Nat.mul_le_mul_right _ ha) h
theorem own_dyeq {n m : Int} {j : Nat} {x y : UInt64} (hx : Dy n j x) (hy : Dy m j y) (h : n = m) {op : CmpOp} : cmpValue (FP.dcmp x y) op = 0 := by
  rw [dy_cmp hx hy, (compare_eq_iff _ _).mpr h]; rfl
end OwnDy
section OwnArr
variable {p : Program} {l : Launch} {e : Env} {R : Room} {s : State} {m : MethodId} {args : Array Value} {below : List Frame} {meth : Method} {c : Code} {T : State} {Z : State} {a0 : Array Value} {h h' : Heap} {n0 cells slots nc ns pc pc' : Nat} {Ls : Array Slot} {st rest : List Value} {Q : Option Value → Heap → Prop} {a b : Addr} {vs : List UInt64}
/-- in heap h, at a, there is a double[] that holds just these -/
def AD (Z : State) (h : Heap) (a : Addr) (vs : List UInt64) : Prop := ∃ c : Cell, Arr Z h a c .double ∧ c.slots.size = vs.length ∧ vs.length < 2147483648 ∧ ∀ i, i < vs.length → c.slots[i]? = some (.double (vs.getD i 0))
theorem AD.lt (F : AD Z h a vs) : a < h.size := by obtain ⟨c, A, -⟩ := F; exact A.lt
theorem AD.ext (F : AD Z h a vs) (E : Ext h h') : AD Z h' a vs := by obtain ⟨c, A, r⟩ := F; exact ⟨c, A.ext E, r⟩
theorem AD.other {sl : Nat} {v : Value} (F : AD Z h b vs) (W : Wr h h' a sl v) (q : b ≠ a) : AD Z h' b vs := by obtain ⟨c, A, r⟩ := F; exact ⟨c, A.other W q, r⟩
theorem AD.keep {ws : List Addr} (F : AD Z h a vs) (K : Keep h h' ws) (q : a ∉ ws) : AD Z h' a vs := by obtain ⟨c, A, r⟩ := F; exact ⟨c, ⟨K.2.1 a c A.1 q, A.2⟩, r⟩
theorem own_idx {j : Int32} {i : Nat} (hj : j.toInt = (i : Int)) : j.toNatClampNeg = i ∧ ¬ j < 0 := by
  constructor
  · unfold Int32.toNatClampNeg; rw [hj]; rfl
  · rw [Int32.lt_iff_toInt_lt, hj]; have : (0 : Int32).toInt = 0 := rfl
    omega
theorem g_daload (X : Wk p l e R s m args below meth c n0 T h cells slots) (hx : p.tables.exec = Jvm.exec) (hZ : Z.Warmed39 s.vm) (F : AD Z h a vs) {j : Int32} {i : Nat} (hj : j.toInt = (i : Int)) (hi : i < vs.length) {v : UInt64} (hv : vs.getD i 0 = v) (hp : pc + 1 = pc') (hd : decode c.code pc = .ok (.daload, 1))
    (k : Go p e below s n0 Q nc ns (T.setTop (mkF m pc' Ls (.double v :: rest)))) : Go p e below s n0 Q nc ns (T.setTop (mkF m pc Ls (.int j :: .ref a :: rest))) := by
  subst hp; subst hv; obtain ⟨locs, X, N, eT⟩ := X
  obtain ⟨cl, A, S, -, H⟩ := F
  obtain ⟨e1, e2⟩ := own_idx hj
  have hin : ¬ (j < 0 ∨ cl.slots.size ≤ j.toNatClampNeg) := by rw [e1, S]; intro q; rcases q with q | q; exact e2 q; omega
  exact go_back (fun t q => X.daload hx (j := j) (v := .double (vs.getD i 0)) (by rw [eT]; exact A.1) (State.isArrayOf_alike hZ.alike A.2.1) A.2.2 hin (by rw [e1]; exact H i hi) (g := mkF m pc Ls (.int j :: .ref a :: rest)) rfl rfl hd t q) k
theorem AD.set {j : Int32} {i : Nat} {x : UInt64} (F : AD Z h a vs) (hj : j.toNatClampNeg = i) (hi : i < vs.length) (W : Wr h h' a j.toNatClampNeg (.double x)) : AD Z h' a (vs.set i x) := by
  obtain ⟨cl, A, S, hl, H⟩ := F
  refine ⟨_, A.same W, by rw [sz_set, S, List.length_set], by rw [List.length_set]; exact hl, fun k hk => ?_⟩
  rw [List.length_set] at hk
  rw [hj]
  by_cases u : i = k
  · subst u; simp [Cell.setSlot, S, hi]
  · have q := H k hk
    simp only [Cell.setSlot, List.getD_eq_getElem?_getD] at q ⊢
    rw [Array.getElem?_setIfInBounds_ne u, List.getElem?_set_ne u]; exact q
theorem g_dastore (X : Wk p l e R s m args below meth c n0 T h cells slots) (hx : p.tables.exec = Jvm.exec) (hZ : Z.Warmed39 s.vm) (F : AD Z h a vs) {j : Int32} {i : Nat} (hj : j.toInt = (i : Int)) (hi : i < vs.length) (hna : n0 ≤ a) {x : UInt64} (hp : pc + 1 = pc') (hd : decode c.code pc = .ok (.dastore, 1))
    (k : ∀ T' h', Wk p l e R s m args below meth c n0 T' h' cells slots → Wr h h' a j.toNatClampNeg (.double x) → AD Z h' a (vs.set i x) → Go p e below s n0 Q nc ns (T'.setTop (mkF m pc' Ls rest))) : Go p e below s n0 Q nc ns (T.setTop (mkF m pc Ls (.double x :: .int j :: .ref a :: rest))) := by
  subst hp; obtain ⟨locs, X, N, eT⟩ := X
  obtain ⟨e1, e2⟩ := own_idx hj
  obtain ⟨cl, A, S, hl, H⟩ := F
  have hin : ¬ (j < 0 ∨ cl.slots.size ≤ j.toNatClampNeg) := by rw [e1, S]; intro q; rcases q with q | q; exact e2 q; omega
  obtain ⟨T', h', X', e', W', b⟩ := stD X hx hZ eT A (x := x) hin (g := mkF m pc Ls (.double x :: .int j :: .ref a :: rest)) rfl rfl hd
  exact go_back b (k T' h' ⟨_, X', Fr.snoc X' N hna, e'⟩ W' (AD.set ⟨cl, A, S, hl, H⟩ e1 hi W'))
theorem g_newD (X : Wk p l e R s m args below meth c n0 T h cells slots) (hx : p.tables.exec = Jvm.exec) (hZ : Z.Warmed39 s.vm) (w : (Jvm.Cond.arrayClass .double).before a0 Z = true) {n : Int32} {N : Nat} (hn : n.toInt = (N : Int)) {cap : Nat} (hcap : N ≤ cap) (hb : cap * 8 ≤ 536870912) (hp : pc + 2 = pc') (hd : decode c.code pc = .ok (.newarray .double, 2)) (hc : cells + 1 ≤ R.cells) (hl : slots + cap ≤ R.slots)
    (k : ∀ T' h' a, a = h.size → Wk p l e R s m args below meth c n0 T' h' (cells + 1) (slots + cap) → Ext h h' → AD Z h' a (List.replicate N 0) → Go p e below s n0 Q nc ns (T'.setTop (mkF m pc' Ls (.ref a :: rest)))) : Go p e below s n0 Q nc ns (T.setTop (mkF m pc Ls (.int n :: rest))) := by
  subst hp; obtain ⟨locs, X, Nf, eT⟩ := X
  obtain ⟨e1, e2⟩ := own_idx hn
  obtain ⟨T', h', cA, X', e', E', A', b⟩ := newP X hx hZ (aty := .double) w eT (g := mkF m pc Ls (.int n :: rest)) rfl hd rfl e2 (cap := cap) (by rw [e1]; exact hcap) hb hc hl
  obtain ⟨cl, A, -, S, -, H, -⟩ := Arv.new A' e2
  refine go_back b (k T' h' h.size rfl ⟨_, X', Nf, e'⟩ E' ⟨cl, A, by rw [S, e1, List.length_replicate], by rw [List.length_replicate]; omega, fun i hi => ?_⟩)
  rw [List.length_replicate] at hi
  rw [H i (by rw [S, e1]; exact hi)]
  simp only [List.getD_eq_getElem?_getD, List.getElem?_replicate, hi, if_true, List.getElem?_nil, Option.getD_none, Option.getD_some]; rfl
theorem g_alenD (X : Wk p l e R s m args below meth c n0 T h cells slots) (hx : p.tables.exec = Jvm.exec) (hZ : Z.Warmed39 s.vm) (F : AD Z h a vs) {z : Int32} (hz : z.toInt = (vs.length : Int)) (hp : pc + 1 = pc') (hd : decode c.code pc = .ok (.arraylength, 1))
    (k : Go p e below s n0 Q nc ns (T.setTop (mkF m pc' Ls (.int z :: rest)))) : Go p e below s n0 Q nc ns (T.setTop (mkF m pc Ls (.ref a :: rest))) := by
  subst hp; obtain ⟨locs, X, N, eT⟩ := X
  obtain ⟨cl, A, S, -, H⟩ := F
  obtain ⟨e1, e2⟩ := own_idx hz
  have e3 : cl.slots.size.toInt32 = z := len_of (by rw [S, e1]) e2
  refine go_back (fun t q => X.arraylength hx (by rw [eT]; exact A.1) (State.isArrayOf_alike hZ.alike A.2.1) (g := mkF m pc Ls (.ref a :: rest)) rfl rfl hd t ?_) k
  rw [e3]; exact q
end OwnArr
theorem own_i2d (x : Int32) : Dy x.toInt 1074 (FP.i2d x) := dy_int (FP.Core.i2d_int x)
theorem own_l2d {x : Int64} (h : x.toInt.natAbs ≤ 49152) : Dy x.toInt 1074 (FP.l2d x) := dy_int (FP.Core.l2d_int (Nat.le_trans h (by decide)))
def fV (v : Int64) (k : Int32) : Int32 := (((v.toUInt64 >>> (((8 : Int32) * k) &&& 0x3f).toInt64.toUInt64).toInt64)).toInt32.toInt8.toInt32
theorem f_b (v : Int64) (k : Int32) : (fV v k).toInt.natAbs ≤ 128 := by
  unfold fV
  rw [Int8.toInt_toInt32]
  generalize (((v.toUInt64 >>> (((8 : Int32) * k) &&& 0x3f).toInt64.toUInt64).toInt64)).toInt32.toInt8 = t
  have h1 := t.le_toInt
  have h2 := t.toInt_lt
  omega
def dC (v : Int64) (k : Int32) : Int32 := (((v.toUInt64 >>> (((48 : Int32) + ((3 : Int32) * k)) &&& 0x3f).toInt64.toUInt64).toInt64)).toInt32 &&& (7 : Int32)
def dV (v : Int64) (k : Int32) : Int32 := if (dC v k &&& (4 : Int32)) = 0 then ((1 : Int32) <<< ((dC v k &&& (3 : Int32)) &&& 31)) else (-((1 : Int32) <<< ((dC v k &&& (3 : Int32)) &&& 31)))
theorem d_b (v : Int64) (k : Int32) : (dV v k).toInt ≠ 0 ∧ (dV v k).toInt.natAbs ≤ 128 := by
  have hk : dC v k &&& 3 = 0 ∨ dC v k &&& 3 = 1 ∨ dC v k &&& 3 = 2 ∨ dC v k &&& 3 = 3 := by
    have h : 0 ≤ (dC v k &&& 3).toInt ∧ (dC v k &&& 3).toInt ≤ 3 := c_and (dC v k) 3 (by decide)
    have e0 : (0 : Int32).toInt = 0 := rfl
    have e1 : (1 : Int32).toInt = 1 := rfl
    have e2 : (2 : Int32).toInt = 2 := rfl
    have e3 : (3 : Int32).toInt = 3 := rfl
    rw [← Int32.toInt_inj, ← Int32.toInt_inj, ← Int32.toInt_inj, ← Int32.toInt_inj]
    omega
  unfold dV
  split <;> rcases hk with h | h | h | h <;> rw [h] <;> decide
def rV (order i : Int32) (tii ta tb xi xj xk : Int64) : Int64 :=
  if i < order then (if ¬ (i + (2 : Int32)) < order then (if ¬ (i + (1 : Int32)) < order then (tii * xi) else ((tii * xi) + (ta * xj))) else ((if ¬ (i + (1 : Int32)) < order then (tii * xi) else ((tii * xi) + (ta * xj))) + (tb * xk))) else xi
theorem own_lm {a b : Int64} {A B : Int} (ha : a.toInt = A) (hb : b.toInt = B) (h1 : A.natAbs ≤ 128) (h2 : B.natAbs ≤ 128) : (a * b).toInt = A * B ∧ (A * B).natAbs ≤ 16384 := by
  have h3 : (A * B).natAbs ≤ 128 * 128 := by rw [Int.natAbs_mul]; exact Nat.mul_le_mul h1 h2
  have h4 := c_lmul a b
  have h5 := rng64 (a * b)
  rw [ha, hb] at h4
  exact ⟨by omega, by omega⟩
theorem own_la {a b : Int64} {A B : Int} (ha : a.toInt = A) (hb : b.toInt = B) (h1 : A.natAbs ≤ 32768) (h2 : B.natAbs ≤ 16384) : (a + b).toInt = A + B ∧ (A + B).natAbs ≤ 49152 := by
  have h4 := c_ladd a b
  have h5 := rng64 (a + b)
  rw [ha, hb] at h4
  exact ⟨by omega, by omega⟩
theorem own_r0 {xi : Int64} {X : Int} (hx : xi.toInt = X) (bx : X.natAbs ≤ 128) : Dy X 1074 (FP.l2d xi) ∧ X.natAbs ≤ 49152 := by
  subst hx; exact ⟨own_l2d (by omega), by omega⟩
theorem own_r1 {t x : Int64} {T X : Int} (ht : t.toInt = T) (hx : x.toInt = X) (bt : T.natAbs ≤ 128) (bx : X.natAbs ≤ 128) : Dy (T * X) 1074 (FP.l2d (t * x)) ∧ (T * X).natAbs ≤ 49152 := by
  have h := own_lm ht hx bt bx
  exact ⟨by have q := own_l2d (x := t * x) (by rw [h.1]; omega); rwa [h.1] at q, by omega⟩
theorem own_r2 {t x a y : Int64} {T X A Y : Int} (ht : t.toInt = T) (hx : x.toInt = X) (ha : a.toInt = A) (hy : y.toInt = Y) (bt : T.natAbs ≤ 128) (bx : X.natAbs ≤ 128) (ba : A.natAbs ≤ 128) (by' : Y.natAbs ≤ 128) : Dy (T * X + A * Y) 1074 (FP.l2d (t * x + a * y)) ∧ (T * X + A * Y).natAbs ≤ 49152 := by
  have h := own_lm ht hx bt bx
  have h' := own_lm ha hy ba by'
  have h2 := own_la h.1 h'.1 (by omega) (by omega)
  exact ⟨by have q := own_l2d (x := t * x + a * y) (by rw [h2.1]; omega); rwa [h2.1] at q, by omega⟩
theorem own_r3 {t x a y b z : Int64} {T X A Y B Z : Int} (ht : t.toInt = T) (hx : x.toInt = X) (ha : a.toInt = A) (hy : y.toInt = Y) (hb : b.toInt = B) (hz : z.toInt = Z) (bt : T.natAbs ≤ 128) (bx : X.natAbs ≤ 128) (ba : A.natAbs ≤ 128) (by' : Y.natAbs ≤ 128) (bb : B.natAbs ≤ 128) (bz : Z.natAbs ≤ 128) : Dy (T * X + A * Y + B * Z) 1074 (FP.l2d (t * x + a * y + b * z)) ∧ (T * X + A * Y + B * Z).natAbs ≤ 49152 := by
  have h := own_lm ht hx bt bx
  have h' := own_lm ha hy ba by'
  have h'' := own_lm hb hz bb bz
  have h2 := own_la h.1 h'.1 (by omega) (by omega)
  have h3 := own_la h2.1 h''.1 (by omega) (by omega)
  exact ⟨by have q := own_l2d (x := t * x + a * y + b * z) (by rw [h3.1]; omega); rwa [h3.1] at q, by omega⟩
theorem own_g0 {c t x : Int} (h : c = t * x) : c = x * t := by rw [h, Int.mul_comm]
theorem own_g1 {c t x a : Int} (h : c = t * x + a) : c - a = x * t := by rw [h, Int.mul_comm]; omega
theorem own_g2 {c t x a b : Int} (h : c = t * x + a + b) : c - a - b = x * t := by rw [h, Int.mul_comm]; omega
def putL (cs : List UInt64) (W I H : Nat) (z : UInt64) : List UInt64 := if H < W then cs.set (I * W + H) z else cs
theorem putL_len (cs : List UInt64) (W I H : Nat) (z : UInt64) : (putL cs W I H z).length = cs.length := by unfold putL; split <;> simp
def cFull (W : Nat) (v00 v01 v02 v10 v11 v12 v20 v21 v22 v30 v31 v32 : UInt64) : List UInt64 := (putL (putL (putL (putL (putL (putL (putL (putL (putL (putL (putL (putL (List.replicate (4 * W) 0) W 0 0 v00) W 0 1 v01) W 0 2 v02) W 1 0 v10) W 1 1 v11) W 1 2 v12) W 2 0 v20) W 2 1 v21) W 2 2 v22) W 3 0 v30) W 3 1 v31) W 3 2 v32)
theorem cFull_0 (v00 v01 v02 v10 v11 v12 v20 v21 v22 v30 v31 v32 : UInt64) : cFull 0 v00 v01 v02 v10 v11 v12 v20 v21 v22 v30 v31 v32 = [] := rfl
theorem cFull_1 (v00 v01 v02 v10 v11 v12 v20 v21 v22 v30 v31 v32 : UInt64) : cFull 1 v00 v01 v02 v10 v11 v12 v20 v21 v22 v30 v31 v32 = [v00, v10, v20, v30] := rfl
theorem cFull_2 (v00 v01 v02 v10 v11 v12 v20 v21 v22 v30 v31 v32 : UInt64) : cFull 2 v00 v01 v02 v10 v11 v12 v20 v21 v22 v30 v31 v32 = [v00, v01, v10, v11, v20, v21, v30, v31] := rfl
theorem cFull_3 (v00 v01 v02 v10 v11 v12 v20 v21 v22 v30 v31 v32 : UInt64) : cFull 3 v00 v01 v02 v10 v11 v12 v20 v21 v22 v30 v31 v32 = [v00, v01, v02, v10, v11, v12, v20, v21, v22, v30, v31, v32] := rfl
theorem own_in {w i h : Int32} {W I H : Nat} (hw : w.toInt = W) (hi : i.toInt = I) (hh : h.toInt = H) (bw : W ≤ 3) (bi : I ≤ 3) (bh : H ≤ 2) : (i * w + h).toInt = ((I * W + H : Nat) : Int) := by
  have h1 := c_imul i w
  have h2 := c_iadd (i * w) h
  have h3 := rng32 (i * w)
  have h4 := rng32 (i * w + h)
  have h5 : I * W ≤ 3 * 3 := Nat.mul_le_mul bi bw
  rw [hi, hw] at h1
  rw [hh] at h2
  have h6 : ((I * W : Nat) : Int) = (I : Int) * (W : Int) := Int.natCast_mul _ _
  omega
theorem own_inlt {W I H : Nat} (bi : I ≤ 3) (h : H < W) : I * W + H < 4 * W := by
  have h5 : I * W ≤ 3 * W := Nat.mul_le_mul bi (Nat.le_refl _)
  omega
set_option maxRecDepth 65536 in
set_option maxHeartbeats 40000000 in
theorem rm1 (l : Launch) (Z : State) (a0 : Array Value) (hw : ∀ d ∈ tables_1, d.before a0 Z = true) (ws : List Jvm.Cond) (n0 : Nat) (v' : Int64) (k : Int32) (h0 : Heap) (hn0 : n0 ≤ h0.size)  :
    Con l Z n0 (⟨"com/example/orthogon/orthogon/TriangularSolveUpperPinLaw", "f", "(JI)I"⟩ : MethodName) method_2_code 3 (some .int) ws ({ frames := 0, cells := 0, slots := 0, locals := 0 } : Room) #[(.long v'), (.int k)] h0 (fun v h => v = some (.int (fV v' k)) ∧ h = h0) := by
  refine con_start (plainFor_of_name (by first | (simp [plainName, overriddenIn]; done) | decide +kernel)) (fr0 := fun m => mkF m 0 #[.val (.long v'), .second, .val (.int k)] []) (fun m => by first | (simp [entryFrame, mkF, argsToLocals, Value.category]; done) | rfl) ?_
  intro p e s m below meth c T0 hx hZ hby hml hown hnm hret hlk X0
  replace hown : s.vm.findClass "com/example/orthogon/orthogon/TriangularSolveUpperPinLaw" = some m.cls := hown
  replace hml : c.maxLocals = 3 := hml
  refine g_lloadN X0 hx (pc' := 1) rfl (hb hby d1_0) rfl ?_
  refine g_bipush X0 hx (pc' := 3) (z := (8 : Int32)) rfl (hb hby d1_1) rfl ?_
  refine g_iloadN X0 hx (pc' := 4) rfl (hb hby d1_3) rfl ?_
  refine g_imul X0 hx (pc' := 5) rfl (hb hby d1_4) ?_
  refine g_lushr X0 hx (pc' := 6) rfl (hb hby d1_5) ?_
  refine g_l2i X0 hx (pc' := 7) rfl (hb hby d1_6) ?_
  refine g_i2b X0 hx (pc' := 8) rfl (hb hby d1_7) ?_
  exact g_retI X0 hx hlk hret (hb hby d1_8) (by decide) (by decide) (⟨rfl, rfl⟩)
set_option maxRecDepth 65536 in
set_option maxHeartbeats 40000000 in
theorem rm2 (l : Launch) (Z : State) (a0 : Array Value) (hw : ∀ d ∈ tables_1, d.before a0 Z = true) (ws : List Jvm.Cond) (n0 : Nat) (v' : Int64) (k : Int32) (h0 : Heap) (hn0 : n0 ≤ h0.size)  :
    Con l Z n0 (⟨"com/example/orthogon/orthogon/TriangularSolveUpperPinLaw", "diag", "(JI)I"⟩ : MethodName) method_3_code 5 (some .int) ws ({ frames := 0, cells := 0, slots := 0, locals := 0 } : Room) #[(.long v'), (.int k)] h0 (fun v h => v = some (.int (dV v' k)) ∧ h = h0) := by
  refine con_start (plainFor_of_name (by first | (simp [plainName, overriddenIn]; done) | decide +kernel)) (fr0 := fun m => mkF m 0 #[.val (.long v'), .second, .val (.int k), .unset, .unset] []) (fun m => by first | (simp [entryFrame, mkF, argsToLocals, Value.category]; done) | rfl) ?_
  intro p e s m below meth c T0 hx hZ hby hml hown hnm hret hlk X0
  replace hown : s.vm.findClass "com/example/orthogon/orthogon/TriangularSolveUpperPinLaw" = some m.cls := hown
  replace hml : c.maxLocals = 5 := hml
  refine g_lloadN X0 hx (pc' := 1) rfl (hb hby d2_0) rfl ?_
  refine g_bipush X0 hx (pc' := 3) (z := (48 : Int32)) rfl (hb hby d2_1) rfl ?_
  refine g_iconst X0 hx (pc' := 4) (z := (3 : Int32)) rfl (hb hby d2_3) rfl ?_
  refine g_iloadN X0 hx (pc' := 5) rfl (hb hby d2_4) rfl ?_
  refine g_imul X0 hx (pc' := 6) rfl (hb hby d2_5) ?_
  refine g_iadd X0 hx (pc' := 7) rfl (hb hby d2_6) ?_
  refine g_lushr X0 hx (pc' := 8) rfl (hb hby d2_7) ?_
  refine g_l2i X0 hx (pc' := 9) rfl (hb hby d2_8) ?_
  refine g_bipush X0 hx (pc' := 11) (z := (7 : Int32)) rfl (hb hby d2_9) rfl ?_
  refine g_iand X0 hx (pc' := 12) rfl (hb hby d2_11) ?_
  refine g_istoreN X0 hx (pc' := 13) rfl (hb hby d2_12) (l' := #[.val (.long v'), .second, .val (.int k), .val (.int ((((v'.toUInt64 >>> (((48 : Int32) + ((3 : Int32) * k)) &&& 0x3f).toInt64.toUInt64).toInt64)).toInt32 &&& (7 : Int32))), .unset]) rfl ?_
  refine g_iconst X0 hx (pc' := 14) (z := (1 : Int32)) rfl (hb hby d2_13) rfl ?_
  refine g_iloadN X0 hx (pc' := 15) rfl (hb hby d2_14) rfl ?_
  refine g_iconst X0 hx (pc' := 16) (z := (3 : Int32)) rfl (hb hby d2_15) rfl ?_
  refine g_iand X0 hx (pc' := 17) rfl (hb hby d2_16) ?_
  refine g_ishl X0 hx (pc' := 18) rfl (hb hby d2_17) ?_
  refine g_istore X0 hx (pc' := 20) rfl (hb hby d2_18) (l' := #[.val (.long v'), .second, .val (.int k), .val (.int ((((v'.toUInt64 >>> (((48 : Int32) + ((3 : Int32) * k)) &&& 0x3f).toInt64.toUInt64).toInt64)).toInt32 &&& (7 : Int32))), .val (.int ((1 : Int32) <<< ((((((v'.toUInt64 >>> (((48 : Int32) + ((3 : Int32) * k)) &&& 0x3f).toInt64.toUInt64).toInt64)).toInt32 &&& (7 : Int32)) &&& (3 : Int32)) &&& 31)))]) rfl ?_
  refine g_iloadN X0 hx (pc' := 21) rfl (hb hby d2_20) rfl ?_
  refine g_iconst X0 hx (pc' := 22) (z := (4 : Int32)) rfl (hb hby d2_21) rfl ?_
  refine g_iand X0 hx (pc' := 23) rfl (hb hby d2_22) ?_
  refine g_if X0 hx (pcY := 32) (pcN := 26) (hb hby d2_23) (by decide) (by decide) rfl (fun hc23 => ?_) (fun hc23 => ?_)
  · replace hc23 : (((((v'.toUInt64 >>> (((48 : Int32) + ((3 : Int32) * k)) &&& 0x3f).toInt64.toUInt64).toInt64)).toInt32 &&& (7 : Int32)) &&& (4 : Int32)) = 0 := hc23
    refine g_iload X0 hx (pc' := 34) rfl (hb hby d2_32) rfl ?_
    exact g_retI X0 hx hlk hret (hb hby d2_34) (by decide) (by decide) (⟨by unfold dV dC; first | rw [if_pos hc23] | rw [if_neg hc23], rfl⟩)
  · replace hc23 : ¬ (((((v'.toUInt64 >>> (((48 : Int32) + ((3 : Int32) * k)) &&& 0x3f).toInt64.toUInt64).toInt64)).toInt32 &&& (7 : Int32)) &&& (4 : Int32)) = 0 := hc23
    refine g_iload X0 hx (pc' := 28) rfl (hb hby d2_26) rfl ?_
    refine g_ineg X0 hx (pc' := 29) rfl (hb hby d2_28) ?_
    refine g_goto X0 hx (pc' := 34) (hb hby d2_29) (by decide) (by decide) ?_
    exact g_retI X0 hx hlk hret (hb hby d2_34) (by decide) (by decide) (⟨by unfold dV dC; first | rw [if_pos hc23] | rw [if_neg hc23], rfl⟩)
set_option maxRecDepth 65536 in
set_option maxHeartbeats 40000000 in
theorem rm3 (l : Launch) (Z : State) (a0 : Array Value) (hw : ∀ d ∈ tables_1, d.before a0 Z = true) (ws : List Jvm.Cond) (n0 : Nat) (order i : Int32) (tii ta tb xi xj xk : Int64) (h0 : Heap) (hn0 : n0 ≤ h0.size)  :
    Con l Z n0 (⟨"com/example/orthogon/orthogon/TriangularSolveUpperPinLaw", "rhs", "(IIJJJJJJ)J"⟩ : MethodName) method_4_code 16 (some .long) ws ({ frames := 0, cells := 0, slots := 0, locals := 0 } : Room) #[(.int order), (.int i), (.long tii), (.long ta), (.long tb), (.long xi), (.long xj), (.long xk)] h0 (fun v h => v = some (.long (rV order i tii ta tb xi xj xk)) ∧ h = h0) := by
  refine con_start (plainFor_of_name (by first | (simp [plainName, overriddenIn]; done) | decide +kernel)) (fr0 := fun m => mkF m 0 #[.val (.int order), .val (.int i), .val (.long tii), .second, .val (.long ta), .second, .val (.long tb), .second, .val (.long xi), .second, .val (.long xj), .second, .val (.long xk), .second, .unset, .unset] []) (fun m => by first | (simp [entryFrame, mkF, argsToLocals, Value.category]; done) | rfl) ?_
  intro p e s m below meth c T0 hx hZ hby hml hown hnm hret hlk X0
  replace hown : s.vm.findClass "com/example/orthogon/orthogon/TriangularSolveUpperPinLaw" = some m.cls := hown
  replace hml : c.maxLocals = 16 := hml
  refine g_iloadN X0 hx (pc' := 1) rfl (hb hby d3_0) rfl ?_
  refine g_iloadN X0 hx (pc' := 2) rfl (hb hby d3_1) rfl ?_
  refine g_icmp X0 hx (pcY := 8) (pcN := 5) (hb hby d3_2) (by decide) (by decide) rfl (fun hc2 => ?_) (fun hc2 => ?_)
  · replace hc2 : i < order := hc2
    refine g_lloadN X0 hx (pc' := 9) rfl (hb hby d3_8) rfl ?_
    refine g_lload X0 hx (pc' := 11) rfl (hb hby d3_9) rfl ?_
    refine g_lmul X0 hx (pc' := 12) rfl (hb hby d3_11) ?_
    refine g_lstore X0 hx (pc' := 14) rfl (hb hby d3_12) (l' := #[.val (.int order), .val (.int i), .val (.long tii), .second, .val (.long ta), .second, .val (.long tb), .second, .val (.long xi), .second, .val (.long xj), .second, .val (.long xk), .second, .val (.long (tii * xi)), .second]) rfl ?_
    refine g_iloadN X0 hx (pc' := 15) rfl (hb hby d3_14) rfl ?_
    refine g_iconst X0 hx (pc' := 16) (z := (1 : Int32)) rfl (hb hby d3_15) rfl ?_
    refine g_iadd X0 hx (pc' := 17) rfl (hb hby d3_16) ?_
    refine g_iloadN X0 hx (pc' := 18) rfl (hb hby d3_17) rfl ?_
    suffices J18 : ∀ (s1 : Int64), (s1 = (if ¬ (i + (1 : Int32)) < order then (tii * xi) else ((tii * xi) + (ta * xj)))) → Go p e below s n0 (fun v h => v = some (.long (rV order i tii ta tb xi xj xk)) ∧ h = h0) ({ frames := 0, cells := 0, slots := 0, locals := 0 } : Room).cells ({ frames := 0, cells := 0, slots := 0, locals := 0 } : Room).slots (T0.setTop (mkF m 31 #[.val (.int order), .val (.int i), .val (.long tii), .second, .val (.long ta), .second, .val (.long tb), .second, .val (.long xi), .second, .val (.long xj), .second, .val (.long xk), .second, .val (.long s1), .second] [])) by
      refine g_icmp X0 hx (pcY := 31) (pcN := 21) (hb hby d3_18) (by decide) (by decide) rfl (fun hc18 => ?_) (fun hc18 => ?_)
      · replace hc18 : ¬ (i + (1 : Int32)) < order := hc18
        exact J18 _ (by rw [if_pos hc18])
      · replace hc18 : (i + (1 : Int32)) < order := Classical.not_not.mp hc18
        refine g_lload X0 hx (pc' := 23) rfl (hb hby d3_21) rfl ?_
        refine g_lload X0 hx (pc' := 25) rfl (hb hby d3_23) rfl ?_
        refine g_lload X0 hx (pc' := 27) rfl (hb hby d3_25) rfl ?_
        refine g_lmul X0 hx (pc' := 28) rfl (hb hby d3_27) ?_
        refine g_ladd X0 hx (pc' := 29) rfl (hb hby d3_28) ?_
        refine g_lstore X0 hx (pc' := 31) rfl (hb hby d3_29) (l' := #[.val (.int order), .val (.int i), .val (.long tii), .second, .val (.long ta), .second, .val (.long tb), .second, .val (.long xi), .second, .val (.long xj), .second, .val (.long xk), .second, .val (.long ((tii * xi) + (ta * xj))), .second]) rfl ?_
        exact J18 _ (by rw [if_neg (fun q => q hc18)])
    intro s1 h_s1
    refine g_iloadN X0 hx (pc' := 32) rfl (hb hby d3_31) rfl ?_
    refine g_iconst X0 hx (pc' := 33) (z := (2 : Int32)) rfl (hb hby d3_32) rfl ?_
    refine g_iadd X0 hx (pc' := 34) rfl (hb hby d3_33) ?_
    refine g_iloadN X0 hx (pc' := 35) rfl (hb hby d3_34) rfl ?_
    suffices J35 : ∀ (s2 : Int64), (s2 = (if ¬ (i + (2 : Int32)) < order then s1 else (s1 + (tb * xk)))) → Go p e below s n0 (fun v h => v = some (.long (rV order i tii ta tb xi xj xk)) ∧ h = h0) ({ frames := 0, cells := 0, slots := 0, locals := 0 } : Room).cells ({ frames := 0, cells := 0, slots := 0, locals := 0 } : Room).slots (T0.setTop (mkF m 48 #[.val (.int order), .val (.int i), .val (.long tii), .second, .val (.long ta), .second, .val (.long tb), .second, .val (.long xi), .second, .val (.long xj), .second, .val (.long xk), .second, .val (.long s2), .second] [])) by
      refine g_icmp X0 hx (pcY := 48) (pcN := 38) (hb hby d3_35) (by decide) (by decide) rfl (fun hc35 => ?_) (fun hc35 => ?_)
      · replace hc35 : ¬ (i + (2 : Int32)) < order := hc35
        exact J35 _ (by rw [if_pos hc35])
      · replace hc35 : (i + (2 : Int32)) < order := Classical.not_not.mp hc35
        refine g_lload X0 hx (pc' := 40) rfl (hb hby d3_38) rfl ?_
        refine g_lload X0 hx (pc' := 42) rfl (hb hby d3_40) rfl ?_
        refine g_lload X0 hx (pc' := 44) rfl (hb hby d3_42) rfl ?_
        refine g_lmul X0 hx (pc' := 45) rfl (hb hby d3_44) ?_
        refine g_ladd X0 hx (pc' := 46) rfl (hb hby d3_45) ?_
        refine g_lstore X0 hx (pc' := 48) rfl (hb hby d3_46) (l' := #[.val (.int order), .val (.int i), .val (.long tii), .second, .val (.long ta), .second, .val (.long tb), .second, .val (.long xi), .second, .val (.long xj), .second, .val (.long xk), .second, .val (.long (s1 + (tb * xk))), .second]) rfl ?_
        exact J35 _ (by rw [if_neg (fun q => q hc35)])
    intro s2 h_s2
    refine g_lload X0 hx (pc' := 50) rfl (hb hby d3_48) rfl ?_
    exact g_retL X0 hx hlk hret (hb hby d3_50) (by decide) (by decide) (⟨by unfold rV; rw [if_pos hc2, h_s2, h_s1], rfl⟩)
  · replace hc2 : ¬ i < order := hc2
    refine g_lload X0 hx (pc' := 7) rfl (hb hby d3_5) rfl ?_
    exact g_retL X0 hx hlk hret (hb hby d3_7) (by decide) (by decide) (⟨by unfold rV; rw [if_neg hc2], rfl⟩)
set_option maxRecDepth 65536 in
set_option maxHeartbeats 40000000 in
theorem rm4 (l : Launch) (Z : State) (a0 : Array Value) (hw : ∀ d ∈ tables_1, d.before a0 Z = true) (ws : List Jvm.Cond) (n0 : Nat) (ca : Addr) (w i h' : Int32) (z' : Int64) (cs : List UInt64) (W I H : Nat) (h0 : Heap) (hn0 : n0 ≤ h0.size) (hw' : w.toInt = W) (hi : i.toInt = I) (hh : h'.toInt = H) (bw : W ≤ 3) (bi : I ≤ 3) (bh : H ≤ 2) (lc : cs.length = 4 * W) (Ac : AD Z h0 ca cs) (hg : n0 ≤ ca) :
    Con l Z n0 (⟨"com/example/orthogon/orthogon/TriangularSolveUpperPinLaw", "put", "([DIIIJ)V"⟩ : MethodName) method_5_code 6 none ws ({ frames := 0, cells := 0, slots := 0, locals := 0 } : Room) #[(.ref ca), (.int w), (.int i), (.int h'), (.long z')] h0 (fun v h => v = none ∧ Keep h0 h [ca] ∧ ∃ cs', AD Z h ca cs' ∧ cs' = putL cs W I H (FP.l2d z') ∧ cs'.length = 4 * W) := by
  refine con_start (plainFor_of_name (by first | (simp [plainName, overriddenIn]; done) | decide +kernel)) (fr0 := fun m => mkF m 0 #[.val (.ref ca), .val (.int w), .val (.int i), .val (.int h'), .val (.long z'), .second] []) (fun m => by first | (simp [entryFrame, mkF, argsToLocals, Value.category]; done) | rfl) ?_
  intro p e s m below meth c T0 hx hZ hby hml hown hnm hret hlk X0
  replace hown : s.vm.findClass "com/example/orthogon/orthogon/TriangularSolveUpperPinLaw" = some m.cls := hown
  replace hml : c.maxLocals = 6 := hml
  refine g_iloadN X0 hx (pc' := 1) rfl (hb hby d4_0) rfl ?_
  refine g_iloadN X0 hx (pc' := 2) rfl (hb hby d4_1) rfl ?_
  refine g_icmp X0 hx (pcY := 15) (pcN := 5) (hb hby d4_2) (by decide) (by decide) rfl (fun hc2 => ?_) (fun hc2 => ?_)
  · replace hc2 : ¬ h' < w := hc2
    have hlt : ¬ H < W := by rw [Int32.lt_iff_toInt_lt] at hc2; omega
    exact g_retV X0 hx hlk hret (hb hby d4_15) (by decide) (by decide) (⟨rfl, Keep.refl _ _, _, Ac, by unfold putL; rw [if_neg hlt], lc⟩)
  · replace hc2 : h' < w := Classical.not_not.mp hc2
    have hlt : H < W := by rw [Int32.lt_iff_toInt_lt] at hc2; omega
    refine g_aloadN X0 hx (pc' := 6) rfl (hb hby d4_5) rfl rfl ?_
    refine g_iloadN X0 hx (pc' := 7) rfl (hb hby d4_6) rfl ?_
    refine g_iloadN X0 hx (pc' := 8) rfl (hb hby d4_7) rfl ?_
    refine g_imul X0 hx (pc' := 9) rfl (hb hby d4_8) ?_
    refine g_iloadN X0 hx (pc' := 10) rfl (hb hby d4_9) rfl ?_
    refine g_iadd X0 hx (pc' := 11) rfl (hb hby d4_10) ?_
    refine g_lload X0 hx (pc' := 13) rfl (hb hby d4_11) rfl ?_
    refine g_l2d X0 hx (pc' := 14) rfl (hb hby d4_13) ?_
    refine g_dastore X0 hx hZ Ac (i := I * W + H) (own_in hw' hi hh bw bi bh) (by rw [lc]; exact own_inlt bi hlt) hg (pc' := 15) rfl (hb hby d4_14) (fun T1 h1 X1 W1 N1 => ?_)
    exact g_retV X1 hx hlk hret (hb hby d4_15) (by decide) (by decide) (⟨rfl, Keep.of_wr W1, _, N1, by unfold putL; rw [if_pos hlt], by rw [List.length_set]; exact lc⟩)
set_option maxRecDepth 65536 in
set_option maxHeartbeats 40000000 in
theorem rm6 (l : Launch) (Z : State) (a0 : Array Value) (hw : ∀ d ∈ tables_1, d.before a0 Z = true) (ws : List Jvm.Cond) (n0 : Nat) (ca : Addr) (w i h' : Int32) (z' : Int64) (cs : List UInt64) (W I H : Nat) (h0 : Heap) (hn0 : n0 ≤ h0.size) (hw' : w.toInt = W) (hi : i.toInt = I) (hh : h'.toInt = H) (bw : W ≤ 3) (bi : I ≤ 3) (bh : H ≤ 2) (lc : cs.length = 4 * W) (Ac : AD Z h0 ca cs) (hC : H < W → cmpValue (FP.dcmp (cs.getD (I * W + H) 0) (FP.l2d z')) .l = 0) :
    Con l Z n0 (⟨"com/example/orthogon/orthogon/TriangularSolveUpperPinLaw", "is", "([DIIIJ)Z"⟩ : MethodName) method_6_code 6 (some .boolean) ws ({ frames := 0, cells := 0, slots := 0, locals := 0 } : Room) #[(.ref ca), (.int w), (.int i), (.int h'), (.long z')] h0 (fun v h => v = some (.int 1) ∧ h = h0) := by
  refine con_start (plainFor_of_name (by first | (simp [plainName, overriddenIn]; done) | decide +kernel)) (fr0 := fun m => mkF m 0 #[.val (.ref ca), .val (.int w), .val (.int i), .val (.int h'), .val (.long z'), .second] []) (fun m => by first | (simp [entryFrame, mkF, argsToLocals, Value.category]; done) | rfl) ?_
  intro p e s m below meth c T0 hx hZ hby hml hown hnm hret hlk X0
  replace hown : s.vm.findClass "com/example/orthogon/orthogon/TriangularSolveUpperPinLaw" = some m.cls := hown
  replace hml : c.maxLocals = 6 := hml
  refine g_iloadN X0 hx (pc' := 1) rfl (hb hby d6_0) rfl ?_
  refine g_iloadN X0 hx (pc' := 2) rfl (hb hby d6_1) rfl ?_
  refine g_icmp X0 hx (pcY := 19) (pcN := 5) (hb hby d6_2) (by decide) (by decide) rfl (fun hc2 => ?_) (fun hc2 => ?_)
  · replace hc2 : ¬ h' < w := hc2
    refine g_iconst X0 hx (pc' := 20) (z := (1 : Int32)) rfl (hb hby d6_19) rfl ?_
    refine g_goto X0 hx (pc' := 24) (hb hby d6_20) (by decide) (by decide) ?_
    exact g_retZ X0 hx hlk hret (by first | exact Or.inl rfl | exact Or.inr rfl) (hb hby d6_24) (by decide) (by decide) (⟨rfl, rfl⟩)
  · replace hc2 : h' < w := Classical.not_not.mp hc2
    refine g_aloadN X0 hx (pc' := 6) rfl (hb hby d6_5) rfl rfl ?_
    refine g_iloadN X0 hx (pc' := 7) rfl (hb hby d6_6) rfl ?_
    refine g_iloadN X0 hx (pc' := 8) rfl (hb hby d6_7) rfl ?_
    refine g_imul X0 hx (pc' := 9) rfl (hb hby d6_8) ?_
    refine g_iloadN X0 hx (pc' := 10) rfl (hb hby d6_9) rfl ?_
    refine g_iadd X0 hx (pc' := 11) rfl (hb hby d6_10) ?_
    have hlt : H < W := by rw [Int32.lt_iff_toInt_lt] at hc2; omega
    refine g_daload X0 hx hZ Ac (i := I * W + H) (own_in hw' hi hh bw bi bh) (by rw [lc]; exact own_inlt bi hlt) (v := cs.getD (I * W + H) 0) rfl (pc' := 12) rfl (hb hby d6_11) ?_
    refine g_lload X0 hx (pc' := 14) rfl (hb hby d6_12) rfl ?_
    refine g_l2d X0 hx (pc' := 15) rfl (hb hby d6_14) ?_
    refine g_dcmp X0 hx (pc' := 16) (z := (0 : Int32)) rfl (hb hby d6_15) (hC hlt) ?_
    refine g_ifN X0 hx (pcN := 19) (hb hby d6_16) rfl (show ¬ (¬ (0 : Int32) = 0) from by decide) ?_
    refine g_iconst X0 hx (pc' := 20) (z := (1 : Int32)) rfl (hb hby d6_19) rfl ?_
    refine g_goto X0 hx (pc' := 24) (hb hby d6_20) (by decide) (by decide) ?_
    exact g_retZ X0 hx hlk hret (by first | exact Or.inl rfl | exact Or.inr rfl) (hb hby d6_24) (by decide) (by decide) (⟨rfl, rfl⟩)
set_option maxRecDepth 65536 in
set_option maxHeartbeats 40000000 in
theorem rm5_0_0 (l : Launch) (Z : State) (a0 : Array Value) (hw : ∀ d ∈ tables_1, d.before a0 Z = true) (ws : List Jvm.Cond) (n0 : Nat) (ta ca : Addr) (t0 : UInt64) (t1 : UInt64) (t2 : UInt64) (t3 : UInt64) (t4 : UInt64) (t5 : UInt64) (t6 : UInt64) (t7 : UInt64) (t8 : UInt64) (t9 : UInt64) (t10 : UInt64) (t11 : UInt64) (t12 : UInt64) (t13 : UInt64) (t14 : UInt64) (t15 : UInt64) (mt0 : Int) (mt1 : Int) (mt2 : Int) (mt5 : Int) (mt6 : Int) (mt10 : Int)  (x00 : Int64) (mx00 : Int) (x01 : Int64) (mx01 : Int) (x02 : Int64) (mx02 : Int) (x10 : Int64) (mx10 : Int) (x11 : Int64) (mx11 : Int) (x12 : Int64) (mx12 : Int) (x20 : Int64) (mx20 : Int) (x21 : Int64) (mx21 : Int) (x22 : Int64) (mx22 : Int) (x30 : Int64) (mx30 : Int) (x31 : Int64) (mx31 : Int) (x32 : Int64) (mx32 : Int) (h0 : Heap) (hn0 : n0 ≤ h0.size) (At : AD Z h0 ta [t0, t1, t2, t3, t4, t5, t6, t7, t8, t9, t10, t11, t12, t13, t14, t15]) (Ac : AD Z h0 ca []) (hne : ta ≠ ca) (hg : n0 ≤ ca) (yt0 : Dy mt0 1074 t0) (bt0 : mt0.natAbs ≤ 128) (yt1 : Dy mt1 1074 t1) (bt1 : mt1.natAbs ≤ 128) (yt2 : Dy mt2 1074 t2) (bt2 : mt2.natAbs ≤ 128) (yt5 : Dy mt5 1074 t5) (bt5 : mt5.natAbs ≤ 128) (yt6 : Dy mt6 1074 t6) (bt6 : mt6.natAbs ≤ 128) (yt10 : Dy mt10 1074 t10) (bt10 : mt10.natAbs ≤ 128) (hz0 : mt0 ≠ 0) (hz5 : mt5 ≠ 0) (hz10 : mt10 ≠ 0)  (yx00 : Dy mx00 1074 (FP.l2d x00)) (bx00 : mx00.natAbs ≤ 128) (yx01 : Dy mx01 1074 (FP.l2d x01)) (bx01 : mx01.natAbs ≤ 128) (yx02 : Dy mx02 1074 (FP.l2d x02)) (bx02 : mx02.natAbs ≤ 128) (yx10 : Dy mx10 1074 (FP.l2d x10)) (bx10 : mx10.natAbs ≤ 128) (yx11 : Dy mx11 1074 (FP.l2d x11)) (bx11 : mx11.natAbs ≤ 128) (yx12 : Dy mx12 1074 (FP.l2d x12)) (bx12 : mx12.natAbs ≤ 128) (yx20 : Dy mx20 1074 (FP.l2d x20)) (bx20 : mx20.natAbs ≤ 128) (yx21 : Dy mx21 1074 (FP.l2d x21)) (bx21 : mx21.natAbs ≤ 128) (yx22 : Dy mx22 1074 (FP.l2d x22)) (bx22 : mx22.natAbs ≤ 128) (yx30 : Dy mx30 1074 (FP.l2d x30)) (bx30 : mx30.natAbs ≤ 128) (yx31 : Dy mx31 1074 (FP.l2d x31)) (bx31 : mx31.natAbs ≤ 128) (yx32 : Dy mx32 1074 (FP.l2d x32)) (bx32 : mx32.natAbs ≤ 128) :
    Con l Z n0 (⟨"com/example/orthogon/orthogon/Triangular", "solveUpper", "([DII[DI)V"⟩ : MethodName) prog_16_method_3_code 12 none ws ({ frames := 0, cells := 0, slots := 0, locals := 0 } : Room) #[(.ref ta), (.int (4 : Int32)), (.int (0 : Int32)), (.ref ca), (.int (0 : Int32))] h0 (fun v h => v = none ∧ Keep h0 h [ca] ∧ ∃ xs, AD Z h ca xs ∧ xs.length = 4 * 0 ∧ (0 < 0 → cmpValue (FP.dcmp (xs.getD (0 * 0 + 0) 0) (FP.l2d x00)) .l = 0) ∧ (1 < 0 → cmpValue (FP.dcmp (xs.getD (0 * 0 + 1) 0) (FP.l2d x01)) .l = 0) ∧ (2 < 0 → cmpValue (FP.dcmp (xs.getD (0 * 0 + 2) 0) (FP.l2d x02)) .l = 0) ∧ (0 < 0 → cmpValue (FP.dcmp (xs.getD (1 * 0 + 0) 0) (FP.l2d x10)) .l = 0) ∧ (1 < 0 → cmpValue (FP.dcmp (xs.getD (1 * 0 + 1) 0) (FP.l2d x11)) .l = 0) ∧ (2 < 0 → cmpValue (FP.dcmp (xs.getD (1 * 0 + 2) 0) (FP.l2d x12)) .l = 0) ∧ (0 < 0 → cmpValue (FP.dcmp (xs.getD (2 * 0 + 0) 0) (FP.l2d x20)) .l = 0) ∧ (1 < 0 → cmpValue (FP.dcmp (xs.getD (2 * 0 + 1) 0) (FP.l2d x21)) .l = 0) ∧ (2 < 0 → cmpValue (FP.dcmp (xs.getD (2 * 0 + 2) 0) (FP.l2d x22)) .l = 0) ∧ (0 < 0 → cmpValue (FP.dcmp (xs.getD (3 * 0 + 0) 0) (FP.l2d x30)) .l = 0) ∧ (1 < 0 → cmpValue (FP.dcmp (xs.getD (3 * 0 + 1) 0) (FP.l2d x31)) .l = 0) ∧ (2 < 0 → cmpValue (FP.dcmp (xs.getD (3 * 0 + 2) 0) (FP.l2d x32)) .l = 0)) := by
  refine con_start (plainFor_of_name (by first | (simp [plainName, overriddenIn]; done) | decide +kernel)) (fr0 := fun m => mkF m 0 #[.val (.ref ta), .val (.int (4 : Int32)), .val (.int (0 : Int32)), .val (.ref ca), .val (.int (0 : Int32)), .unset, .unset, .unset, .unset, .unset, .unset, .unset] []) (fun m => by first | (simp [entryFrame, mkF, argsToLocals, Value.category]; done) | rfl) ?_
  intro p e s m below meth c T0 hx hZ hby hml hown hnm hret hlk X0
  replace hown : s.vm.findClass "com/example/orthogon/orthogon/Triangular" = some m.cls := hown
  replace hml : c.maxLocals = 12 := hml
  refine g_iloadN X0 hx (pc' := 1) rfl (hb hby d5_0) rfl ?_
  refine g_iconst X0 hx (pc' := 2) (z := (1 : Int32)) rfl (hb hby d5_1) rfl ?_
  refine g_isub X0 hx (pc' := 3) rfl (hb hby d5_2) ?_
  refine g_normI (z := (-1 : Int32)) (by decide) ?_
  refine g_istore X0 hx (pc' := 5) rfl (hb hby d5_3) (l' := #[.val (.ref ta), .val (.int (4 : Int32)), .val (.int (0 : Int32)), .val (.ref ca), .val (.int (0 : Int32)), .val (.int (-1 : Int32)), .unset, .unset, .unset, .unset, .unset, .unset]) rfl ?_
  refine g_iload X0 hx (pc' := 7) rfl (hb hby d5_5) rfl ?_
  refine g_ifY X0 hx (pcY := 134) (hb hby d5_7) (by decide) (by decide) (show (-1 : Int32) < 0 from by decide) ?_
  exact g_retV X0 hx hlk hret (hb hby d5_134) (by decide) (by decide) (⟨rfl, (Keep.refl h0 [ca]), _, Ac, rfl, fun q => absurd q (by decide), fun q => absurd q (by decide), fun q => absurd q (by decide), fun q => absurd q (by decide), fun q => absurd q (by decide), fun q => absurd q (by decide), fun q => absurd q (by decide), fun q => absurd q (by decide), fun q => absurd q (by decide), fun q => absurd q (by decide), fun q => absurd q (by decide), fun q => absurd q (by decide)⟩)
set_option maxRecDepth 65536 in
set_option maxHeartbeats 40000000 in
theorem rm5_0_1 (l : Launch) (Z : State) (a0 : Array Value) (hw : ∀ d ∈ tables_1, d.before a0 Z = true) (ws : List Jvm.Cond) (n0 : Nat) (ta ca : Addr) (t0 : UInt64) (t1 : UInt64) (t2 : UInt64) (t3 : UInt64) (t4 : UInt64) (t5 : UInt64) (t6 : UInt64) (t7 : UInt64) (t8 : UInt64) (t9 : UInt64) (t10 : UInt64) (t11 : UInt64) (t12 : UInt64) (t13 : UInt64) (t14 : UInt64) (t15 : UInt64) (mt0 : Int) (mt1 : Int) (mt2 : Int) (mt5 : Int) (mt6 : Int) (mt10 : Int) (c00 : UInt64) (mc00 : Int) (c10 : UInt64) (mc10 : Int) (c20 : UInt64) (mc20 : Int) (c30 : UInt64) (mc30 : Int) (x00 : Int64) (mx00 : Int) (x01 : Int64) (mx01 : Int) (x02 : Int64) (mx02 : Int) (x10 : Int64) (mx10 : Int) (x11 : Int64) (mx11 : Int) (x12 : Int64) (mx12 : Int) (x20 : Int64) (mx20 : Int) (x21 : Int64) (mx21 : Int) (x22 : Int64) (mx22 : Int) (x30 : Int64) (mx30 : Int) (x31 : Int64) (mx31 : Int) (x32 : Int64) (mx32 : Int) (h0 : Heap) (hn0 : n0 ≤ h0.size) (At : AD Z h0 ta [t0, t1, t2, t3, t4, t5, t6, t7, t8, t9, t10, t11, t12, t13, t14, t15]) (Ac : AD Z h0 ca [c00, c10, c20, c30]) (hne : ta ≠ ca) (hg : n0 ≤ ca) (yt0 : Dy mt0 1074 t0) (bt0 : mt0.natAbs ≤ 128) (yt1 : Dy mt1 1074 t1) (bt1 : mt1.natAbs ≤ 128) (yt2 : Dy mt2 1074 t2) (bt2 : mt2.natAbs ≤ 128) (yt5 : Dy mt5 1074 t5) (bt5 : mt5.natAbs ≤ 128) (yt6 : Dy mt6 1074 t6) (bt6 : mt6.natAbs ≤ 128) (yt10 : Dy mt10 1074 t10) (bt10 : mt10.natAbs ≤ 128) (hz0 : mt0 ≠ 0) (hz5 : mt5 ≠ 0) (hz10 : mt10 ≠ 0) (yc00 : Dy mc00 1074 c00) (bc00 : mc00.natAbs ≤ 49152) (ec00 : mc00 = mx00) (yc10 : Dy mc10 1074 c10) (bc10 : mc10.natAbs ≤ 49152) (ec10 : mc10 = mx10) (yc20 : Dy mc20 1074 c20) (bc20 : mc20.natAbs ≤ 49152) (ec20 : mc20 = mx20) (yc30 : Dy mc30 1074 c30) (bc30 : mc30.natAbs ≤ 49152) (ec30 : mc30 = mx30) (yx00 : Dy mx00 1074 (FP.l2d x00)) (bx00 : mx00.natAbs ≤ 128) (yx01 : Dy mx01 1074 (FP.l2d x01)) (bx01 : mx01.natAbs ≤ 128) (yx02 : Dy mx02 1074 (FP.l2d x02)) (bx02 : mx02.natAbs ≤ 128) (yx10 : Dy mx10 1074 (FP.l2d x10)) (bx10 : mx10.natAbs ≤ 128) (yx11 : Dy mx11 1074 (FP.l2d x11)) (bx11 : mx11.natAbs ≤ 128) (yx12 : Dy mx12 1074 (FP.l2d x12)) (bx12 : mx12.natAbs ≤ 128) (yx20 : Dy mx20 1074 (FP.l2d x20)) (bx20 : mx20.natAbs ≤ 128) (yx21 : Dy mx21 1074 (FP.l2d x21)) (bx21 : mx21.natAbs ≤ 128) (yx22 : Dy mx22 1074 (FP.l2d x22)) (bx22 : mx22.natAbs ≤ 128) (yx30 : Dy mx30 1074 (FP.l2d x30)) (bx30 : mx30.natAbs ≤ 128) (yx31 : Dy mx31 1074 (FP.l2d x31)) (bx31 : mx31.natAbs ≤ 128) (yx32 : Dy mx32 1074 (FP.l2d x32)) (bx32 : mx32.natAbs ≤ 128) :
    Con l Z n0 (⟨"com/example/orthogon/orthogon/Triangular", "solveUpper", "([DII[DI)V"⟩ : MethodName) prog_16_method_3_code 12 none ws ({ frames := 0, cells := 0, slots := 0, locals := 0 } : Room) #[(.ref ta), (.int (4 : Int32)), (.int (0 : Int32)), (.ref ca), (.int (1 : Int32))] h0 (fun v h => v = none ∧ Keep h0 h [ca] ∧ ∃ xs, AD Z h ca xs ∧ xs.length = 4 * 1 ∧ (0 < 1 → cmpValue (FP.dcmp (xs.getD (0 * 1 + 0) 0) (FP.l2d x00)) .l = 0) ∧ (1 < 1 → cmpValue (FP.dcmp (xs.getD (0 * 1 + 1) 0) (FP.l2d x01)) .l = 0) ∧ (2 < 1 → cmpValue (FP.dcmp (xs.getD (0 * 1 + 2) 0) (FP.l2d x02)) .l = 0) ∧ (0 < 1 → cmpValue (FP.dcmp (xs.getD (1 * 1 + 0) 0) (FP.l2d x10)) .l = 0) ∧ (1 < 1 → cmpValue (FP.dcmp (xs.getD (1 * 1 + 1) 0) (FP.l2d x11)) .l = 0) ∧ (2 < 1 → cmpValue (FP.dcmp (xs.getD (1 * 1 + 2) 0) (FP.l2d x12)) .l = 0) ∧ (0 < 1 → cmpValue (FP.dcmp (xs.getD (2 * 1 + 0) 0) (FP.l2d x20)) .l = 0) ∧ (1 < 1 → cmpValue (FP.dcmp (xs.getD (2 * 1 + 1) 0) (FP.l2d x21)) .l = 0) ∧ (2 < 1 → cmpValue (FP.dcmp (xs.getD (2 * 1 + 2) 0) (FP.l2d x22)) .l = 0) ∧ (0 < 1 → cmpValue (FP.dcmp (xs.getD (3 * 1 + 0) 0) (FP.l2d x30)) .l = 0) ∧ (1 < 1 → cmpValue (FP.dcmp (xs.getD (3 * 1 + 1) 0) (FP.l2d x31)) .l = 0) ∧ (2 < 1 → cmpValue (FP.dcmp (xs.getD (3 * 1 + 2) 0) (FP.l2d x32)) .l = 0)) := by
  refine con_start (plainFor_of_name (by first | (simp [plainName, overriddenIn]; done) | decide +kernel)) (fr0 := fun m => mkF m 0 #[.val (.ref ta), .val (.int (4 : Int32)), .val (.int (0 : Int32)), .val (.ref ca), .val (.int (1 : Int32)), .unset, .unset, .unset, .unset, .unset, .unset, .unset] []) (fun m => by first | (simp [entryFrame, mkF, argsToLocals, Value.category]; done) | rfl) ?_
  intro p e s m below meth c T0 hx hZ hby hml hown hnm hret hlk X0
  replace hown : s.vm.findClass "com/example/orthogon/orthogon/Triangular" = some m.cls := hown
  replace hml : c.maxLocals = 12 := hml
  refine g_iloadN X0 hx (pc' := 1) rfl (hb hby d5_0) rfl ?_
  refine g_iconst X0 hx (pc' := 2) (z := (1 : Int32)) rfl (hb hby d5_1) rfl ?_
  refine g_isub X0 hx (pc' := 3) rfl (hb hby d5_2) ?_
  refine g_normI (z := (-1 : Int32)) (by decide) ?_
  refine g_istore X0 hx (pc' := 5) rfl (hb hby d5_3) (l' := #[.val (.ref ta), .val (.int (4 : Int32)), .val (.int (0 : Int32)), .val (.ref ca), .val (.int (1 : Int32)), .val (.int (-1 : Int32)), .unset, .unset, .unset, .unset, .unset, .unset]) rfl ?_
  refine g_iload X0 hx (pc' := 7) rfl (hb hby d5_5) rfl ?_
  refine g_ifY X0 hx (pcY := 134) (hb hby d5_7) (by decide) (by decide) (show (-1 : Int32) < 0 from by decide) ?_
  exact g_retV X0 hx hlk hret (hb hby d5_134) (by decide) (by decide) (⟨rfl, (Keep.refl h0 [ca]), _, Ac, rfl, fun _ => own_dyeq yc00 yx00 ec00, fun q => absurd q (by decide), fun q => absurd q (by decide), fun _ => own_dyeq yc10 yx10 ec10, fun q => absurd q (by decide), fun q => absurd q (by decide), fun _ => own_dyeq yc20 yx20 ec20, fun q => absurd q (by decide), fun q => absurd q (by decide), fun _ => own_dyeq yc30 yx30 ec30, fun q => absurd q (by decide), fun q => absurd q (by decide)⟩)
set_option maxRecDepth 65536 in
set_option maxHeartbeats 40000000 in
theorem rm5_0_2 (l : Launch) (Z : State) (a0 : Array Value) (hw : ∀ d ∈ tables_1, d.before a0 Z = true) (ws : List Jvm.Cond) (n0 : Nat) (ta ca : Addr) (t0 : UInt64) (t1 : UInt64) (t2 : UInt64) (t3 : UInt64) (t4 : UInt64) (t5 : UInt64) (t6 : UInt64) (t7 : UInt64) (t8 : UInt64) (t9 : UInt64) (t10 : UInt64) (t11 : UInt64) (t12 : UInt64) (t13 : UInt64) (t14 : UInt64) (t15 : UInt64) (mt0 : Int) (mt1 : Int) (mt2 : Int) (mt5 : Int) (mt6 : Int) (mt10 : Int) (c00 : UInt64) (mc00 : Int) (c01 : UInt64) (mc01 : Int) (c10 : UInt64) (mc10 : Int) (c11 : UInt64) (mc11 : Int) (c20 : UInt64) (mc20 : Int) (c21 : UInt64) (mc21 : Int) (c30 : UInt64) (mc30 : Int) (c31 : UInt64) (mc31 : Int) (x00 : Int64) (mx00 : Int) (x01 : Int64) (mx01 : Int) (x02 : Int64) (mx02 : Int) (x10 : Int64) (mx10 : Int) (x11 : Int64) (mx11 : Int) (x12 : Int64) (mx12 : Int) (x20 : Int64) (mx20 : Int) (x21 : Int64) (mx21 : Int) (x22 : Int64) (mx22 : Int) (x30 : Int64) (mx30 : Int) (x31 : Int64) (mx31 : Int) (x32 : Int64) (mx32 : Int) (h0 : Heap) (hn0 : n0 ≤ h0.size) (At : AD Z h0 ta [t0, t1, t2, t3, t4, t5, t6, t7, t8, t9, t10, t11, t12, t13, t14, t15]) (Ac : AD Z h0 ca [c00, c01, c10, c11, c20, c21, c30, c31]) (hne : ta ≠ ca) (hg : n0 ≤ ca) (yt0 : Dy mt0 1074 t0) (bt0 : mt0.natAbs ≤ 128) (yt1 : Dy mt1 1074 t1) (bt1 : mt1.natAbs ≤ 128) (yt2 : Dy mt2 1074 t2) (bt2 : mt2.natAbs ≤ 128) (yt5 : Dy mt5 1074 t5) (bt5 : mt5.natAbs ≤ 128) (yt6 : Dy mt6 1074 t6) (bt6 : mt6.natAbs ≤ 128) (yt10 : Dy mt10 1074 t10) (bt10 : mt10.natAbs ≤ 128) (hz0 : mt0 ≠ 0) (hz5 : mt5 ≠ 0) (hz10 : mt10 ≠ 0) (yc00 : Dy mc00 1074 c00) (bc00 : mc00.natAbs ≤ 49152) (ec00 : mc00 = mx00) (yc01 : Dy mc01 1074 c01) (bc01 : mc01.natAbs ≤ 49152) (ec01 : mc01 = mx01) (yc10 : Dy mc10 1074 c10) (bc10 : mc10.natAbs ≤ 49152) (ec10 : mc10 = mx10) (yc11 : Dy mc11 1074 c11) (bc11 : mc11.natAbs ≤ 49152) (ec11 : mc11 = mx11) (yc20 : Dy mc20 1074 c20) (bc20 : mc20.natAbs ≤ 49152) (ec20 : mc20 = mx20) (yc21 : Dy mc21 1074 c21) (bc21 : mc21.natAbs ≤ 49152) (ec21 : mc21 = mx21) (yc30 : Dy mc30 1074 c30) (bc30 : mc30.natAbs ≤ 49152) (ec30 : mc30 = mx30) (yc31 : Dy mc31 1074 c31) (bc31 : mc31.natAbs ≤ 49152) (ec31 : mc31 = mx31) (yx00 : Dy mx00 1074 (FP.l2d x00)) (bx00 : mx00.natAbs ≤ 128) (yx01 : Dy mx01 1074 (FP.l2d x01)) (bx01 : mx01.natAbs ≤ 128) (yx02 : Dy mx02 1074 (FP.l2d x02)) (bx02 : mx02.natAbs ≤ 128) (yx10 : Dy mx10 1074 (FP.l2d x10)) (bx10 : mx10.natAbs ≤ 128) (yx11 : Dy mx11 1074 (FP.l2d x11)) (bx11 : mx11.natAbs ≤ 128) (yx12 : Dy mx12 1074 (FP.l2d x12)) (bx12 : mx12.natAbs ≤ 128) (yx20 : Dy mx20 1074 (FP.l2d x20)) (bx20 : mx20.natAbs ≤ 128) (yx21 : Dy mx21 1074 (FP.l2d x21)) (bx21 : mx21.natAbs ≤ 128) (yx22 : Dy mx22 1074 (FP.l2d x22)) (bx22 : mx22.natAbs ≤ 128) (yx30 : Dy mx30 1074 (FP.l2d x30)) (bx30 : mx30.natAbs ≤ 128) (yx31 : Dy mx31 1074 (FP.l2d x31)) (bx31 : mx31.natAbs ≤ 128) (yx32 : Dy mx32 1074 (FP.l2d x32)) (bx32 : mx32.natAbs ≤ 128) :
    Con l Z n0 (⟨"com/example/orthogon/orthogon/Triangular", "solveUpper", "([DII[DI)V"⟩ : MethodName) prog_16_method_3_code 12 none ws ({ frames := 0, cells := 0, slots := 0, locals := 0 } : Room) #[(.ref ta), (.int (4 : Int32)), (.int (0 : Int32)), (.ref ca), (.int (2 : Int32))] h0 (fun v h => v = none ∧ Keep h0 h [ca] ∧ ∃ xs, AD Z h ca xs ∧ xs.length = 4 * 2 ∧ (0 < 2 → cmpValue (FP.dcmp (xs.getD (0 * 2 + 0) 0) (FP.l2d x00)) .l = 0) ∧ (1 < 2 → cmpValue (FP.dcmp (xs.getD (0 * 2 + 1) 0) (FP.l2d x01)) .l = 0) ∧ (2 < 2 → cmpValue (FP.dcmp (xs.getD (0 * 2 + 2) 0) (FP.l2d x02)) .l = 0) ∧ (0 < 2 → cmpValue (FP.dcmp (xs.getD (1 * 2 + 0) 0) (FP.l2d x10)) .l = 0) ∧ (1 < 2 → cmpValue (FP.dcmp (xs.getD (1 * 2 + 1) 0) (FP.l2d x11)) .l = 0) ∧ (2 < 2 → cmpValue (FP.dcmp (xs.getD (1 * 2 + 2) 0) (FP.l2d x12)) .l = 0) ∧ (0 < 2 → cmpValue (FP.dcmp (xs.getD (2 * 2 + 0) 0) (FP.l2d x20)) .l = 0) ∧ (1 < 2 → cmpValue (FP.dcmp (xs.getD (2 * 2 + 1) 0) (FP.l2d x21)) .l = 0) ∧ (2 < 2 → cmpValue (FP.dcmp (xs.getD (2 * 2 + 2) 0) (FP.l2d x22)) .l = 0) ∧ (0 < 2 → cmpValue (FP.dcmp (xs.getD (3 * 2 + 0) 0) (FP.l2d x30)) .l = 0) ∧ (1 < 2 → cmpValue (FP.dcmp (xs.getD (3 * 2 + 1) 0) (FP.l2d x31)) .l = 0) ∧ (2 < 2 → cmpValue (FP.dcmp (xs.getD (3 * 2 + 2) 0) (FP.l2d x32)) .l = 0)) := by
  refine con_start (plainFor_of_name (by first | (simp [plainName, overriddenIn]; done) | decide +kernel)) (fr0 := fun m => mkF m 0 #[.val (.ref ta), .val (.int (4 : Int32)), .val (.int (0 : Int32)), .val (.ref ca), .val (.int (2 : Int32)), .unset, .unset, .unset, .unset, .unset, .unset, .unset] []) (fun m => by first | (simp [entryFrame, mkF, argsToLocals, Value.category]; done) | rfl) ?_
  intro p e s m below meth c T0 hx hZ hby hml hown hnm hret hlk X0
  replace hown : s.vm.findClass "com/example/orthogon/orthogon/Triangular" = some m.cls := hown
  replace hml : c.maxLocals = 12 := hml
  refine g_iloadN X0 hx (pc' := 1) rfl (hb hby d5_0) rfl ?_
  refine g_iconst X0 hx (pc' := 2) (z := (1 : Int32)) rfl (hb hby d5_1) rfl ?_
  refine g_isub X0 hx (pc' := 3) rfl (hb hby d5_2) ?_
  refine g_normI (z := (-1 : Int32)) (by decide) ?_
  refine g_istore X0 hx (pc' := 5) rfl (hb hby d5_3) (l' := #[.val (.ref ta), .val (.int (4 : Int32)), .val (.int (0 : Int32)), .val (.ref ca), .val (.int (2 : Int32)), .val (.int (-1 : Int32)), .unset, .unset, .unset, .unset, .unset, .unset]) rfl ?_
  refine g_iload X0 hx (pc' := 7) rfl (hb hby d5_5) rfl ?_
  refine g_ifY X0 hx (pcY := 134) (hb hby d5_7) (by decide) (by decide) (show (-1 : Int32) < 0 from by decide) ?_
  exact g_retV X0 hx hlk hret (hb hby d5_134) (by decide) (by decide) (⟨rfl, (Keep.refl h0 [ca]), _, Ac, rfl, fun _ => own_dyeq yc00 yx00 ec00, fun _ => own_dyeq yc01 yx01 ec01, fun q => absurd q (by decide), fun _ => own_dyeq yc10 yx10 ec10, fun _ => own_dyeq yc11 yx11 ec11, fun q => absurd q (by decide), fun _ => own_dyeq yc20 yx20 ec20, fun _ => own_dyeq yc21 yx21 ec21, fun q => absurd q (by decide), fun _ => own_dyeq yc30 yx30 ec30, fun _ => own_dyeq yc31 yx31 ec31, fun q => absurd q (by decide)⟩)
set_option maxRecDepth 65536 in
set_option maxHeartbeats 40000000 in
theorem rm5_0_3 (l : Launch) (Z : State) (a0 : Array Value) (hw : ∀ d ∈ tables_1, d.before a0 Z = true) (ws : List Jvm.Cond) (n0 : Nat) (ta ca : Addr) (t0 : UInt64) (t1 : UInt64) (t2 : UInt64) (t3 : UInt64) (t4 : UInt64) (t5 : UInt64) (t6 : UInt64) (t7 : UInt64) (t8 : UInt64) (t9 : UInt64) (t10 : UInt64) (t11 : UInt64) (t12 : UInt64) (t13 : UInt64) (t14 : UInt64) (t15 : UInt64) (mt0 : Int) (mt1 : Int) (mt2 : Int) (mt5 : Int) (mt6 : Int) (mt10 : Int) (c00 : UInt64) (mc00 : Int) (c01 : UInt64) (mc01 : Int) (c02 : UInt64) (mc02 : Int) (c10 : UInt64) (mc10 : Int) (c11 : UInt64) (mc11 : Int) (c12 : UInt64) (mc12 : Int) (c20 : UInt64) (mc20 : Int) (c21 : UInt64) (mc21 : Int) (c22 : UInt64) (mc22 : Int) (c30 : UInt64) (mc30 : Int) (c31 : UInt64) (mc31 : Int) (c32 : UInt64) (mc32 : Int) (x00 : Int64) (mx00 : Int) (x01 : Int64) (mx01 : Int) (x02 : Int64) (mx02 : Int) (x10 : Int64) (mx10 : Int) (x11 : Int64) (mx11 : Int) (x12 : Int64) (mx12 : Int) (x20 : Int64) (mx20 : Int) (x21 : Int64) (mx21 : Int) (x22 : Int64) (mx22 : Int) (x30 : Int64) (mx30 : Int) (x31 : Int64) (mx31 : Int) (x32 : Int64) (mx32 : Int) (h0 : Heap) (hn0 : n0 ≤ h0.size) (At : AD Z h0 ta [t0, t1, t2, t3, t4, t5, t6, t7, t8, t9, t10, t11, t12, t13, t14, t15]) (Ac : AD Z h0 ca [c00, c01, c02, c10, c11, c12, c20, c21, c22, c30, c31, c32]) (hne : ta ≠ ca) (hg : n0 ≤ ca) (yt0 : Dy mt0 1074 t0) (bt0 : mt0.natAbs ≤ 128) (yt1 : Dy mt1 1074 t1) (bt1 : mt1.natAbs ≤ 128) (yt2 : Dy mt2 1074 t2) (bt2 : mt2.natAbs ≤ 128) (yt5 : Dy mt5 1074 t5) (bt5 : mt5.natAbs ≤ 128) (yt6 : Dy mt6 1074 t6) (bt6 : mt6.natAbs ≤ 128) (yt10 : Dy mt10 1074 t10) (bt10 : mt10.natAbs ≤ 128) (hz0 : mt0 ≠ 0) (hz5 : mt5 ≠ 0) (hz10 : mt10 ≠ 0) (yc00 : Dy mc00 1074 c00) (bc00 : mc00.natAbs ≤ 49152) (ec00 : mc00 = mx00) (yc01 : Dy mc01 1074 c01) (bc01 : mc01.natAbs ≤ 49152) (ec01 : mc01 = mx01) (yc02 : Dy mc02 1074 c02) (bc02 : mc02.natAbs ≤ 49152) (ec02 : mc02 = mx02) (yc10 : Dy mc10 1074 c10) (bc10 : mc10.natAbs ≤ 49152) (ec10 : mc10 = mx10) (yc11 : Dy mc11 1074 c11) (bc11 : mc11.natAbs ≤ 49152) (ec11 : mc11 = mx11) (yc12 : Dy mc12 1074 c12) (bc12 : mc12.natAbs ≤ 49152) (ec12 : mc12 = mx12) (yc20 : Dy mc20 1074 c20) (bc20 : mc20.natAbs ≤ 49152) (ec20 : mc20 = mx20) (yc21 : Dy mc21 1074 c21) (bc21 : mc21.natAbs ≤ 49152) (ec21 : mc21 = mx21) (yc22 : Dy mc22 1074 c22) (bc22 : mc22.natAbs ≤ 49152) (ec22 : mc22 = mx22) (yc30 : Dy mc30 1074 c30) (bc30 : mc30.natAbs ≤ 49152) (ec30 : mc30 = mx30) (yc31 : Dy mc31 1074 c31) (bc31 : mc31.natAbs ≤ 49152) (ec31 : mc31 = mx31) (yc32 : Dy mc32 1074 c32) (bc32 : mc32.natAbs ≤ 49152) (ec32 : mc32 = mx32) (yx00 : Dy mx00 1074 (FP.l2d x00)) (bx00 : mx00.natAbs ≤ 128) (yx01 : Dy mx01 1074 (FP.l2d x01)) (bx01 : mx01.natAbs ≤ 128) (yx02 : Dy mx02 1074 (FP.l2d x02)) (bx02 : mx02.natAbs ≤ 128) (yx10 : Dy mx10 1074 (FP.l2d x10)) (bx10 : mx10.natAbs ≤ 128) (yx11 : Dy mx11 1074 (FP.l2d x11)) (bx11 : mx11.natAbs ≤ 128) (yx12 : Dy mx12 1074 (FP.l2d x12)) (bx12 : mx12.natAbs ≤ 128) (yx20 : Dy mx20 1074 (FP.l2d x20)) (bx20 : mx20.natAbs ≤ 128) (yx21 : Dy mx21 1074 (FP.l2d x21)) (bx21 : mx21.natAbs ≤ 128) (yx22 : Dy mx22 1074 (FP.l2d x22)) (bx22 : mx22.natAbs ≤ 128) (yx30 : Dy mx30 1074 (FP.l2d x30)) (bx30 : mx30.natAbs ≤ 128) (yx31 : Dy mx31 1074 (FP.l2d x31)) (bx31 : mx31.natAbs ≤ 128) (yx32 : Dy mx32 1074 (FP.l2d x32)) (bx32 : mx32.natAbs ≤ 128) :
    Con l Z n0 (⟨"com/example/orthogon/orthogon/Triangular", "solveUpper", "([DII[DI)V"⟩ : MethodName) prog_16_method_3_code 12 none ws ({ frames := 0, cells := 0, slots := 0, locals := 0 } : Room) #[(.ref ta), (.int (4 : Int32)), (.int (0 : Int32)), (.ref ca), (.int (3 : Int32))] h0 (fun v h => v = none ∧ Keep h0 h [ca] ∧ ∃ xs, AD Z h ca xs ∧ xs.length = 4 * 3 ∧ (0 < 3 → cmpValue (FP.dcmp (xs.getD (0 * 3 + 0) 0) (FP.l2d x00)) .l = 0) ∧ (1 < 3 → cmpValue (FP.dcmp (xs.getD (0 * 3 + 1) 0) (FP.l2d x01)) .l = 0) ∧ (2 < 3 → cmpValue (FP.dcmp (xs.getD (0 * 3 + 2) 0) (FP.l2d x02)) .l = 0) ∧ (0 < 3 → cmpValue (FP.dcmp (xs.getD (1 * 3 + 0) 0) (FP.l2d x10)) .l = 0) ∧ (1 < 3 → cmpValue (FP.dcmp (xs.getD (1 * 3 + 1) 0) (FP.l2d x11)) .l = 0) ∧ (2 < 3 → cmpValue (FP.dcmp (xs.getD (1 * 3 + 2) 0) (FP.l2d x12)) .l = 0) ∧ (0 < 3 → cmpValue (FP.dcmp (xs.getD (2 * 3 + 0) 0) (FP.l2d x20)) .l = 0) ∧ (1 < 3 → cmpValue (FP.dcmp (xs.getD (2 * 3 + 1) 0) (FP.l2d x21)) .l = 0) ∧ (2 < 3 → cmpValue (FP.dcmp (xs.getD (2 * 3 + 2) 0) (FP.l2d x22)) .l = 0) ∧ (0 < 3 → cmpValue (FP.dcmp (xs.getD (3 * 3 + 0) 0) (FP.l2d x30)) .l = 0) ∧ (1 < 3 → cmpValue (FP.dcmp (xs.getD (3 * 3 + 1) 0) (FP.l2d x31)) .l = 0) ∧ (2 < 3 → cmpValue (FP.dcmp (xs.getD (3 * 3 + 2) 0) (FP.l2d x32)) .l = 0)) := by
  refine con_start (plainFor_of_name (by first | (simp [plainName, overriddenIn]; done) | decide +kernel)) (fr0 := fun m => mkF m 0 #[.val (.ref ta), .val (.int (4 : Int32)), .val (.int (0 : Int32)), .val (.ref ca), .val (.int (3 : Int32)), .unset, .unset, .unset, .unset, .unset, .unset, .unset] []) (fun m => by first | (simp [entryFrame, mkF, argsToLocals, Value.category]; done) | rfl) ?_
  intro p e s m below meth c T0 hx hZ hby hml hown hnm hret hlk X0
  replace hown : s.vm.findClass "com/example/orthogon/orthogon/Triangular" = some m.cls := hown
  replace hml : c.maxLocals = 12 := hml
  refine g_iloadN X0 hx (pc' := 1) rfl (hb hby d5_0) rfl ?_
  refine g_iconst X0 hx (pc' := 2) (z := (1 : Int32)) rfl (hb hby d5_1) rfl ?_
  refine g_isub X0 hx (pc' := 3) rfl (hb hby d5_2) ?_
  refine g_normI (z := (-1 : Int32)) (by decide) ?_
  refine g_istore X0 hx (pc' := 5) rfl (hb hby d5_3) (l' := #[.val (.ref ta), .val (.int (4 : Int32)), .val (.int (0 : Int32)), .val (.ref ca), .val (.int (3 : Int32)), .val (.int (-1 : Int32)), .unset, .unset, .unset, .unset, .unset, .unset]) rfl ?_
  refine g_iload X0 hx (pc' := 7) rfl (hb hby d5_5) rfl ?_
  refine g_ifY X0 hx (pcY := 134) (hb hby d5_7) (by decide) (by decide) (show (-1 : Int32) < 0 from by decide) ?_
  exact g_retV X0 hx hlk hret (hb hby d5_134) (by decide) (by decide) (⟨rfl, (Keep.refl h0 [ca]), _, Ac, rfl, fun _ => own_dyeq yc00 yx00 ec00, fun _ => own_dyeq yc01 yx01 ec01, fun _ => own_dyeq yc02 yx02 ec02, fun _ => own_dyeq yc10 yx10 ec10, fun _ => own_dyeq yc11 yx11 ec11, fun _ => own_dyeq yc12 yx12 ec12, fun _ => own_dyeq yc20 yx20 ec20, fun _ => own_dyeq yc21 yx21 ec21, fun _ => own_dyeq yc22 yx22 ec22, fun _ => own_dyeq yc30 yx30 ec30, fun _ => own_dyeq yc31 yx31 ec31, fun _ => own_dyeq yc32 yx32 ec32⟩)
set_option maxRecDepth 65536 in
set_option maxHeartbeats 40000000 in
theorem rm5_1_0 (l : Launch) (Z : State) (a0 : Array Value) (hw : ∀ d ∈ tables_1, d.before a0 Z = true) (ws : List Jvm.Cond) (n0 : Nat) (ta ca : Addr) (t0 : UInt64) (t1 : UInt64) (t2 : UInt64) (t3 : UInt64) (t4 : UInt64) (t5 : UInt64) (t6 : UInt64) (t7 : UInt64) (t8 : UInt64) (t9 : UInt64) (t10 : UInt64) (t11 : UInt64) (t12 : UInt64) (t13 : UInt64) (t14 : UInt64) (t15 : UInt64) (mt0 : Int) (mt1 : Int) (mt2 : Int) (mt5 : Int) (mt6 : Int) (mt10 : Int)  (x00 : Int64) (mx00 : Int) (x01 : Int64) (mx01 : Int) (x02 : Int64) (mx02 : Int) (x10 : Int64) (mx10 : Int) (x11 : Int64) (mx11 : Int) (x12 : Int64) (mx12 : Int) (x20 : Int64) (mx20 : Int) (x21 : Int64) (mx21 : Int) (x22 : Int64) (mx22 : Int) (x30 : Int64) (mx30 : Int) (x31 : Int64) (mx31 : Int) (x32 : Int64) (mx32 : Int) (h0 : Heap) (hn0 : n0 ≤ h0.size) (At : AD Z h0 ta [t0, t1, t2, t3, t4, t5, t6, t7, t8, t9, t10, t11, t12, t13, t14, t15]) (Ac : AD Z h0 ca []) (hne : ta ≠ ca) (hg : n0 ≤ ca) (yt0 : Dy mt0 1074 t0) (bt0 : mt0.natAbs ≤ 128) (yt1 : Dy mt1 1074 t1) (bt1 : mt1.natAbs ≤ 128) (yt2 : Dy mt2 1074 t2) (bt2 : mt2.natAbs ≤ 128) (yt5 : Dy mt5 1074 t5) (bt5 : mt5.natAbs ≤ 128) (yt6 : Dy mt6 1074 t6) (bt6 : mt6.natAbs ≤ 128) (yt10 : Dy mt10 1074 t10) (bt10 : mt10.natAbs ≤ 128) (hz0 : mt0 ≠ 0) (hz5 : mt5 ≠ 0) (hz10 : mt10 ≠ 0)  (yx00 : Dy mx00 1074 (FP.l2d x00)) (bx00 : mx00.natAbs ≤ 128) (yx01 : Dy mx01 1074 (FP.l2d x01)) (bx01 : mx01.natAbs ≤ 128) (yx02 : Dy mx02 1074 (FP.l2d x02)) (bx02 : mx02.natAbs ≤ 128) (yx10 : Dy mx10 1074 (FP.l2d x10)) (bx10 : mx10.natAbs ≤ 128) (yx11 : Dy mx11 1074 (FP.l2d x11)) (bx11 : mx11.natAbs ≤ 128) (yx12 : Dy mx12 1074 (FP.l2d x12)) (bx12 : mx12.natAbs ≤ 128) (yx20 : Dy mx20 1074 (FP.l2d x20)) (bx20 : mx20.natAbs ≤ 128) (yx21 : Dy mx21 1074 (FP.l2d x21)) (bx21 : mx21.natAbs ≤ 128) (yx22 : Dy mx22 1074 (FP.l2d x22)) (bx22 : mx22.natAbs ≤ 128) (yx30 : Dy mx30 1074 (FP.l2d x30)) (bx30 : mx30.natAbs ≤ 128) (yx31 : Dy mx31 1074 (FP.l2d x31)) (bx31 : mx31.natAbs ≤ 128) (yx32 : Dy mx32 1074 (FP.l2d x32)) (bx32 : mx32.natAbs ≤ 128) :
    Con l Z n0 (⟨"com/example/orthogon/orthogon/Triangular", "solveUpper", "([DII[DI)V"⟩ : MethodName) prog_16_method_3_code 12 none ws ({ frames := 0, cells := 0, slots := 0, locals := 0 } : Room) #[(.ref ta), (.int (4 : Int32)), (.int (1 : Int32)), (.ref ca), (.int (0 : Int32))] h0 (fun v h => v = none ∧ Keep h0 h [ca] ∧ ∃ xs, AD Z h ca xs ∧ xs.length = 4 * 0 ∧ (0 < 0 → cmpValue (FP.dcmp (xs.getD (0 * 0 + 0) 0) (FP.l2d x00)) .l = 0) ∧ (1 < 0 → cmpValue (FP.dcmp (xs.getD (0 * 0 + 1) 0) (FP.l2d x01)) .l = 0) ∧ (2 < 0 → cmpValue (FP.dcmp (xs.getD (0 * 0 + 2) 0) (FP.l2d x02)) .l = 0) ∧ (0 < 0 → cmpValue (FP.dcmp (xs.getD (1 * 0 + 0) 0) (FP.l2d x10)) .l = 0) ∧ (1 < 0 → cmpValue (FP.dcmp (xs.getD (1 * 0 + 1) 0) (FP.l2d x11)) .l = 0) ∧ (2 < 0 → cmpValue (FP.dcmp (xs.getD (1 * 0 + 2) 0) (FP.l2d x12)) .l = 0) ∧ (0 < 0 → cmpValue (FP.dcmp (xs.getD (2 * 0 + 0) 0) (FP.l2d x20)) .l = 0) ∧ (1 < 0 → cmpValue (FP.dcmp (xs.getD (2 * 0 + 1) 0) (FP.l2d x21)) .l = 0) ∧ (2 < 0 → cmpValue (FP.dcmp (xs.getD (2 * 0 + 2) 0) (FP.l2d x22)) .l = 0) ∧ (0 < 0 → cmpValue (FP.dcmp (xs.getD (3 * 0 + 0) 0) (FP.l2d x30)) .l = 0) ∧ (1 < 0 → cmpValue (FP.dcmp (xs.getD (3 * 0 + 1) 0) (FP.l2d x31)) .l = 0) ∧ (2 < 0 → cmpValue (FP.dcmp (xs.getD (3 * 0 + 2) 0) (FP.l2d x32)) .l = 0)) := by
  refine con_start (plainFor_of_name (by first | (simp [plainName, overriddenIn]; done) | decide +kernel)) (fr0 := fun m => mkF m 0 #[.val (.ref ta), .val (.int (4 : Int32)), .val (.int (1 : Int32)), .val (.ref ca), .val (.int (0 : Int32)), .unset, .unset, .unset, .unset, .unset, .unset, .unset] []) (fun m => by first | (simp [entryFrame, mkF, argsToLocals, Value.category]; done) | rfl) ?_
  intro p e s m below meth c T0 hx hZ hby hml hown hnm hret hlk X0
  replace hown : s.vm.findClass "com/example/orthogon/orthogon/Triangular" = some m.cls := hown
  replace hml : c.maxLocals = 12 := hml
  refine g_iloadN X0 hx (pc' := 1) rfl (hb hby d5_0) rfl ?_
  refine g_iconst X0 hx (pc' := 2) (z := (1 : Int32)) rfl (hb hby d5_1) rfl ?_
  refine g_isub X0 hx (pc' := 3) rfl (hb hby d5_2) ?_
  refine g_normI (z := (0 : Int32)) (by decide) ?_
  refine g_istore X0 hx (pc' := 5) rfl (hb hby d5_3) (l' := #[.val (.ref ta), .val (.int (4 : Int32)), .val (.int (1 : Int32)), .val (.ref ca), .val (.int (0 : Int32)), .val (.int (0 : Int32)), .unset, .unset, .unset, .unset, .unset, .unset]) rfl ?_
  refine g_iload X0 hx (pc' := 7) rfl (hb hby d5_5) rfl ?_
  refine g_ifN X0 hx (pcN := 10) (hb hby d5_7) rfl (show ¬ ((0 : Int32) < 0) from by decide) ?_
  refine g_iload X0 hx (pc' := 12) rfl (hb hby d5_10) rfl ?_
  refine g_iload X0 hx (pc' := 14) rfl (hb hby d5_12) rfl ?_
  refine g_imul X0 hx (pc' := 15) rfl (hb hby d5_14) ?_
  refine g_normI (z := (0 : Int32)) (by decide) ?_
  refine g_istore X0 hx (pc' := 17) rfl (hb hby d5_15) (l' := #[.val (.ref ta), .val (.int (4 : Int32)), .val (.int (1 : Int32)), .val (.ref ca), .val (.int (0 : Int32)), .val (.int (0 : Int32)), .val (.int (0 : Int32)), .unset, .unset, .unset, .unset, .unset]) rfl ?_
  refine g_iload X0 hx (pc' := 19) rfl (hb hby d5_17) rfl ?_
  refine g_iconst X0 hx (pc' := 20) (z := (1 : Int32)) rfl (hb hby d5_19) rfl ?_
  refine g_iadd X0 hx (pc' := 21) rfl (hb hby d5_20) ?_
  refine g_normI (z := (1 : Int32)) (by decide) ?_
  refine g_istore X0 hx (pc' := 23) rfl (hb hby d5_21) (l' := #[.val (.ref ta), .val (.int (4 : Int32)), .val (.int (1 : Int32)), .val (.ref ca), .val (.int (0 : Int32)), .val (.int (0 : Int32)), .val (.int (0 : Int32)), .val (.int (1 : Int32)), .unset, .unset, .unset, .unset]) rfl ?_
  refine g_iload X0 hx (pc' := 25) rfl (hb hby d5_23) rfl ?_
  refine g_iloadN X0 hx (pc' := 26) rfl (hb hby d5_25) rfl ?_
  refine g_icmpY X0 hx (pcY := 89) (hb hby d5_26) (by decide) (by decide) (show ¬ (1 : Int32) < (1 : Int32) from by decide) ?_
  refine g_aloadN X0 hx (pc' := 90) rfl (hb hby d5_89) rfl rfl ?_
  refine g_iload X0 hx (pc' := 92) rfl (hb hby d5_90) rfl ?_
  refine g_iloadN X0 hx (pc' := 93) rfl (hb hby d5_92) rfl ?_
  refine g_imul X0 hx (pc' := 94) rfl (hb hby d5_93) ?_
  refine g_normI (z := (0 : Int32)) (by decide) ?_
  refine g_iload X0 hx (pc' := 96) rfl (hb hby d5_94) rfl ?_
  refine g_iadd X0 hx (pc' := 97) rfl (hb hby d5_96) ?_
  refine g_normI (z := (0 : Int32)) (by decide) ?_
  refine g_daload X0 hx hZ At (i := 0) (by decide) (show (0 : Nat) < 16 by decide) (v := t0) rfl (pc' := 98) rfl (hb hby d5_97) ?_
  refine g_dstore X0 hx (pc' := 100) rfl (hb hby d5_98) (l' := #[.val (.ref ta), .val (.int (4 : Int32)), .val (.int (1 : Int32)), .val (.ref ca), .val (.int (0 : Int32)), .val (.int (0 : Int32)), .val (.int (0 : Int32)), .val (.double t0), .second, .unset, .unset, .unset]) rfl ?_
  refine g_iconst X0 hx (pc' := 101) (z := (0 : Int32)) rfl (hb hby d5_100) rfl ?_
  refine g_istore X0 hx (pc' := 103) rfl (hb hby d5_101) (l' := #[.val (.ref ta), .val (.int (4 : Int32)), .val (.int (1 : Int32)), .val (.ref ca), .val (.int (0 : Int32)), .val (.int (0 : Int32)), .val (.int (0 : Int32)), .val (.double t0), .second, .val (.int (0 : Int32)), .unset, .unset]) rfl ?_
  refine g_iload X0 hx (pc' := 105) rfl (hb hby d5_103) rfl ?_
  refine g_iload X0 hx (pc' := 107) rfl (hb hby d5_105) rfl ?_
  refine g_icmpY X0 hx (pcY := 128) (hb hby d5_107) (by decide) (by decide) (show ¬ (0 : Int32) < (0 : Int32) from by decide) ?_
  refine g_iincC X0 hx (pc' := 131) (x := (0 : Int32)) (z := (-1 : Int32)) rfl (hb hby d5_128) rfl (by decide) (l' := #[.val (.ref ta), .val (.int (4 : Int32)), .val (.int (1 : Int32)), .val (.ref ca), .val (.int (0 : Int32)), .val (.int (-1 : Int32)), .val (.int (0 : Int32)), .val (.double t0), .second, .val (.int (0 : Int32)), .unset, .unset]) rfl ?_
  refine g_goto X0 hx (pc' := 5) (hb hby d5_131) (by decide) (by decide) ?_
  refine g_iload X0 hx (pc' := 7) rfl (hb hby d5_5) rfl ?_
  refine g_ifY X0 hx (pcY := 134) (hb hby d5_7) (by decide) (by decide) (show (-1 : Int32) < 0 from by decide) ?_
  exact g_retV X0 hx hlk hret (hb hby d5_134) (by decide) (by decide) (⟨rfl, (Keep.refl h0 [ca]), _, Ac, rfl, fun q => absurd q (by decide), fun q => absurd q (by decide), fun q => absurd q (by decide), fun q => absurd q (by decide), fun q => absurd q (by decide), fun q => absurd q (by decide), fun q => absurd q (by decide), fun q => absurd q (by decide), fun q => absurd q (by decide), fun q => absurd q (by decide), fun q => absurd q (by decide), fun q => absurd q (by decide)⟩)
set_option maxRecDepth 65536 in
set_option maxHeartbeats 40000000 in
theorem rm5_1_1 (l : Launch) (Z : State) (a0 : Array Value) (hw : ∀ d ∈ tables_1, d.before a0 Z = true) (ws : List Jvm.Cond) (n0 : Nat) (ta ca : Addr) (t0 : UInt64) (t1 : UInt64) (t2 : UInt64) (t3 : UInt64) (t4 : UInt64) (t5 : UInt64) (t6 : UInt64) (t7 : UInt64) (t8 : UInt64) (t9 : UInt64) (t10 : UInt64) (t11 : UInt64) (t12 : UInt64) (t13 : UInt64) (t14 : UInt64) (t15 : UInt64) (mt0 : Int) (mt1 : Int) (mt2 : Int) (mt5 : Int) (mt6 : Int) (mt10 : Int) (c00 : UInt64) (mc00 : Int) (c10 : UInt64) (mc10 : Int) (c20 : UInt64) (mc20 : Int) (c30 : UInt64) (mc30 : Int) (x00 : Int64) (mx00 : Int) (x01 : Int64) (mx01 : Int) (x02 : Int64) (mx02 : Int) (x10 : Int64) (mx10 : Int) (x11 : Int64) (mx11 : Int) (x12 : Int64) (mx12 : Int) (x20 : Int64) (mx20 : Int) (x21 : Int64) (mx21 : Int) (x22 : Int64) (mx22 : Int) (x30 : Int64) (mx30 : Int) (x31 : Int64) (mx31 : Int) (x32 : Int64) (mx32 : Int) (h0 : Heap) (hn0 : n0 ≤ h0.size) (At : AD Z h0 ta [t0, t1, t2, t3, t4, t5, t6, t7, t8, t9, t10, t11, t12, t13, t14, t15]) (Ac : AD Z h0 ca [c00, c10, c20, c30]) (hne : ta ≠ ca) (hg : n0 ≤ ca) (yt0 : Dy mt0 1074 t0) (bt0 : mt0.natAbs ≤ 128) (yt1 : Dy mt1 1074 t1) (bt1 : mt1.natAbs ≤ 128) (yt2 : Dy mt2 1074 t2) (bt2 : mt2.natAbs ≤ 128) (yt5 : Dy mt5 1074 t5) (bt5 : mt5.natAbs ≤ 128) (yt6 : Dy mt6 1074 t6) (bt6 : mt6.natAbs ≤ 128) (yt10 : Dy mt10 1074 t10) (bt10 : mt10.natAbs ≤ 128) (hz0 : mt0 ≠ 0) (hz5 : mt5 ≠ 0) (hz10 : mt10 ≠ 0) (yc00 : Dy mc00 1074 c00) (bc00 : mc00.natAbs ≤ 49152) (ec00 : mc00 = mt0 * mx00) (yc10 : Dy mc10 1074 c10) (bc10 : mc10.natAbs ≤ 49152) (ec10 : mc10 = mx10) (yc20 : Dy mc20 1074 c20) (bc20 : mc20.natAbs ≤ 49152) (ec20 : mc20 = mx20) (yc30 : Dy mc30 1074 c30) (bc30 : mc30.natAbs ≤ 49152) (ec30 : mc30 = mx30) (yx00 : Dy mx00 1074 (FP.l2d x00)) (bx00 : mx00.natAbs ≤ 128) (yx01 : Dy mx01 1074 (FP.l2d x01)) (bx01 : mx01.natAbs ≤ 128) (yx02 : Dy mx02 1074 (FP.l2d x02)) (bx02 : mx02.natAbs ≤ 128) (yx10 : Dy mx10 1074 (FP.l2d x10)) (bx10 : mx10.natAbs ≤ 128) (yx11 : Dy mx11 1074 (FP.l2d x11)) (bx11 : mx11.natAbs ≤ 128) (yx12 : Dy mx12 1074 (FP.l2d x12)) (bx12 : mx12.natAbs ≤ 128) (yx20 : Dy mx20 1074 (FP.l2d x20)) (bx20 : mx20.natAbs ≤ 128) (yx21 : Dy mx21 1074 (FP.l2d x21)) (bx21 : mx21.natAbs ≤ 128) (yx22 : Dy mx22 1074 (FP.l2d x22)) (bx22 : mx22.natAbs ≤ 128) (yx30 : Dy mx30 1074 (FP.l2d x30)) (bx30 : mx30.natAbs ≤ 128) (yx31 : Dy mx31 1074 (FP.l2d x31)) (bx31 : mx31.natAbs ≤ 128) (yx32 : Dy mx32 1074 (FP.l2d x32)) (bx32 : mx32.natAbs ≤ 128) :
    Con l Z n0 (⟨"com/example/orthogon/orthogon/Triangular", "solveUpper", "([DII[DI)V"⟩ : MethodName) prog_16_method_3_code 12 none ws ({ frames := 0, cells := 0, slots := 0, locals := 0 } : Room) #[(.ref ta), (.int (4 : Int32)), (.int (1 : Int32)), (.ref ca), (.int (1 : Int32))] h0 (fun v h => v = none ∧ Keep h0 h [ca] ∧ ∃ xs, AD Z h ca xs ∧ xs.length = 4 * 1 ∧ (0 < 1 → cmpValue (FP.dcmp (xs.getD (0 * 1 + 0) 0) (FP.l2d x00)) .l = 0) ∧ (1 < 1 → cmpValue (FP.dcmp (xs.getD (0 * 1 + 1) 0) (FP.l2d x01)) .l = 0) ∧ (2 < 1 → cmpValue (FP.dcmp (xs.getD (0 * 1 + 2) 0) (FP.l2d x02)) .l = 0) ∧ (0 < 1 → cmpValue (FP.dcmp (xs.getD (1 * 1 + 0) 0) (FP.l2d x10)) .l = 0) ∧ (1 < 1 → cmpValue (FP.dcmp (xs.getD (1 * 1 + 1) 0) (FP.l2d x11)) .l = 0) ∧ (2 < 1 → cmpValue (FP.dcmp (xs.getD (1 * 1 + 2) 0) (FP.l2d x12)) .l = 0) ∧ (0 < 1 → cmpValue (FP.dcmp (xs.getD (2 * 1 + 0) 0) (FP.l2d x20)) .l = 0) ∧ (1 < 1 → cmpValue (FP.dcmp (xs.getD (2 * 1 + 1) 0) (FP.l2d x21)) .l = 0) ∧ (2 < 1 → cmpValue (FP.dcmp (xs.getD (2 * 1 + 2) 0) (FP.l2d x22)) .l = 0) ∧ (0 < 1 → cmpValue (FP.dcmp (xs.getD (3 * 1 + 0) 0) (FP.l2d x30)) .l = 0) ∧ (1 < 1 → cmpValue (FP.dcmp (xs.getD (3 * 1 + 1) 0) (FP.l2d x31)) .l = 0) ∧ (2 < 1 → cmpValue (FP.dcmp (xs.getD (3 * 1 + 2) 0) (FP.l2d x32)) .l = 0)) := by
  refine con_start (plainFor_of_name (by first | (simp [plainName, overriddenIn]; done) | decide +kernel)) (fr0 := fun m => mkF m 0 #[.val (.ref ta), .val (.int (4 : Int32)), .val (.int (1 : Int32)), .val (.ref ca), .val (.int (1 : Int32)), .unset, .unset, .unset, .unset, .unset, .unset, .unset] []) (fun m => by first | (simp [entryFrame, mkF, argsToLocals, Value.category]; done) | rfl) ?_
  intro p e s m below meth c T0 hx hZ hby hml hown hnm hret hlk X0
  replace hown : s.vm.findClass "com/example/orthogon/orthogon/Triangular" = some m.cls := hown
  replace hml : c.maxLocals = 12 := hml
  refine g_iloadN X0 hx (pc' := 1) rfl (hb hby d5_0) rfl ?_
  refine g_iconst X0 hx (pc' := 2) (z := (1 : Int32)) rfl (hb hby d5_1) rfl ?_
  refine g_isub X0 hx (pc' := 3) rfl (hb hby d5_2) ?_
  refine g_normI (z := (0 : Int32)) (by decide) ?_
  refine g_istore X0 hx (pc' := 5) rfl (hb hby d5_3) (l' := #[.val (.ref ta), .val (.int (4 : Int32)), .val (.int (1 : Int32)), .val (.ref ca), .val (.int (1 : Int32)), .val (.int (0 : Int32)), .unset, .unset, .unset, .unset, .unset, .unset]) rfl ?_
  refine g_iload X0 hx (pc' := 7) rfl (hb hby d5_5) rfl ?_
  refine g_ifN X0 hx (pcN := 10) (hb hby d5_7) rfl (show ¬ ((0 : Int32) < 0) from by decide) ?_
  refine g_iload X0 hx (pc' := 12) rfl (hb hby d5_10) rfl ?_
  refine g_iload X0 hx (pc' := 14) rfl (hb hby d5_12) rfl ?_
  refine g_imul X0 hx (pc' := 15) rfl (hb hby d5_14) ?_
  refine g_normI (z := (0 : Int32)) (by decide) ?_
  refine g_istore X0 hx (pc' := 17) rfl (hb hby d5_15) (l' := #[.val (.ref ta), .val (.int (4 : Int32)), .val (.int (1 : Int32)), .val (.ref ca), .val (.int (1 : Int32)), .val (.int (0 : Int32)), .val (.int (0 : Int32)), .unset, .unset, .unset, .unset, .unset]) rfl ?_
  refine g_iload X0 hx (pc' := 19) rfl (hb hby d5_17) rfl ?_
  refine g_iconst X0 hx (pc' := 20) (z := (1 : Int32)) rfl (hb hby d5_19) rfl ?_
  refine g_iadd X0 hx (pc' := 21) rfl (hb hby d5_20) ?_
  refine g_normI (z := (1 : Int32)) (by decide) ?_
  refine g_istore X0 hx (pc' := 23) rfl (hb hby d5_21) (l' := #[.val (.ref ta), .val (.int (4 : Int32)), .val (.int (1 : Int32)), .val (.ref ca), .val (.int (1 : Int32)), .val (.int (0 : Int32)), .val (.int (0 : Int32)), .val (.int (1 : Int32)), .unset, .unset, .unset, .unset]) rfl ?_
  refine g_iload X0 hx (pc' := 25) rfl (hb hby d5_23) rfl ?_
  refine g_iloadN X0 hx (pc' := 26) rfl (hb hby d5_25) rfl ?_
  refine g_icmpY X0 hx (pcY := 89) (hb hby d5_26) (by decide) (by decide) (show ¬ (1 : Int32) < (1 : Int32) from by decide) ?_
  refine g_aloadN X0 hx (pc' := 90) rfl (hb hby d5_89) rfl rfl ?_
  refine g_iload X0 hx (pc' := 92) rfl (hb hby d5_90) rfl ?_
  refine g_iloadN X0 hx (pc' := 93) rfl (hb hby d5_92) rfl ?_
  refine g_imul X0 hx (pc' := 94) rfl (hb hby d5_93) ?_
  refine g_normI (z := (0 : Int32)) (by decide) ?_
  refine g_iload X0 hx (pc' := 96) rfl (hb hby d5_94) rfl ?_
  refine g_iadd X0 hx (pc' := 97) rfl (hb hby d5_96) ?_
  refine g_normI (z := (0 : Int32)) (by decide) ?_
  refine g_daload X0 hx hZ At (i := 0) (by decide) (show (0 : Nat) < 16 by decide) (v := t0) rfl (pc' := 98) rfl (hb hby d5_97) ?_
  refine g_dstore X0 hx (pc' := 100) rfl (hb hby d5_98) (l' := #[.val (.ref ta), .val (.int (4 : Int32)), .val (.int (1 : Int32)), .val (.ref ca), .val (.int (1 : Int32)), .val (.int (0 : Int32)), .val (.int (0 : Int32)), .val (.double t0), .second, .unset, .unset, .unset]) rfl ?_
  refine g_iconst X0 hx (pc' := 101) (z := (0 : Int32)) rfl (hb hby d5_100) rfl ?_
  refine g_istore X0 hx (pc' := 103) rfl (hb hby d5_101) (l' := #[.val (.ref ta), .val (.int (4 : Int32)), .val (.int (1 : Int32)), .val (.ref ca), .val (.int (1 : Int32)), .val (.int (0 : Int32)), .val (.int (0 : Int32)), .val (.double t0), .second, .val (.int (0 : Int32)), .unset, .unset]) rfl ?_
  refine g_iload X0 hx (pc' := 105) rfl (hb hby d5_103) rfl ?_
  refine g_iload X0 hx (pc' := 107) rfl (hb hby d5_105) rfl ?_
  refine g_icmpN X0 hx (pcN := 110) (hb hby d5_107) rfl (show ¬ (¬ (0 : Int32) < (1 : Int32)) from by decide) ?_
  refine g_aloadN X0 hx (pc' := 111) rfl (hb hby d5_110) rfl rfl ?_
  refine g_iload X0 hx (pc' := 113) rfl (hb hby d5_111) rfl ?_
  refine g_iload X0 hx (pc' := 115) rfl (hb hby d5_113) rfl ?_
  refine g_iadd X0 hx (pc' := 116) rfl (hb hby d5_115) ?_
  refine g_normI (z := (0 : Int32)) (by decide) ?_
  refine g_dup2 X0 hx (pc' := 117) rfl (hb hby d5_116) rfl rfl ?_
  refine g_daload X0 hx hZ Ac (i := 0) (by decide) (show (0 : Nat) < 4 by decide) (v := c00) rfl (pc' := 118) rfl (hb hby d5_117) ?_
  refine g_dload X0 hx (pc' := 120) rfl (hb hby d5_118) rfl ?_
  have q2 : Dy mx00 1074 (FP.ddiv c00 t0) := dy_div yc00 yt0 hz0 (by exact own_g0 ec00) rfl (Nat.lt_of_le_of_lt bx00 (by decide)) (by decide)
  refine g_ddiv X0 hx (pc' := 121) (z := (FP.ddiv c00 t0)) rfl (hb hby d5_120) (dy_noNaN q2) rfl ?_
  refine g_absD (fun d2 hd2 => ?_)
  rw [← hd2] at q2
  refine g_dastore X0 hx hZ Ac (i := 0) (by decide) (show (0 : Nat) < 4 by decide) hg (pc' := 122) rfl (hb hby d5_121) (fun T3 h3 X3 W3 N3 => ?_)
  have f4 := At.other W3 hne
  have f5 := (by have q := (Keep.of_wr W3).1; exact Nat.le_trans hn0 q : n0 ≤ h3.size)
  have f6 := (Keep.refl h0 [ca]).wr W3 (Or.inl (List.mem_of_getElem? (i := 0) rfl))
  have V3 : AD Z h3 ca [d2, c10, c20, c30] := N3
  refine g_iincC X3 hx (pc' := 125) (x := (0 : Int32)) (z := (1 : Int32)) rfl (hb hby d5_122) rfl (by decide) (l' := #[.val (.ref ta), .val (.int (4 : Int32)), .val (.int (1 : Int32)), .val (.ref ca), .val (.int (1 : Int32)), .val (.int (0 : Int32)), .val (.int (0 : Int32)), .val (.double t0), .second, .val (.int (1 : Int32)), .unset, .unset]) rfl ?_
  refine g_goto X3 hx (pc' := 103) (hb hby d5_125) (by decide) (by decide) ?_
  refine g_iload X3 hx (pc' := 105) rfl (hb hby d5_103) rfl ?_
  refine g_iload X3 hx (pc' := 107) rfl (hb hby d5_105) rfl ?_
  refine g_icmpY X3 hx (pcY := 128) (hb hby d5_107) (by decide) (by decide) (show ¬ (1 : Int32) < (1 : Int32) from by decide) ?_
  refine g_iincC X3 hx (pc' := 131) (x := (0 : Int32)) (z := (-1 : Int32)) rfl (hb hby d5_128) rfl (by decide) (l' := #[.val (.ref ta), .val (.int (4 : Int32)), .val (.int (1 : Int32)), .val (.ref ca), .val (.int (1 : Int32)), .val (.int (-1 : Int32)), .val (.int (0 : Int32)), .val (.double t0), .second, .val (.int (1 : Int32)), .unset, .unset]) rfl ?_
  refine g_goto X3 hx (pc' := 5) (hb hby d5_131) (by decide) (by decide) ?_
  refine g_iload X3 hx (pc' := 7) rfl (hb hby d5_5) rfl ?_
  refine g_ifY X3 hx (pcY := 134) (hb hby d5_7) (by decide) (by decide) (show (-1 : Int32) < 0 from by decide) ?_
  exact g_retV X3 hx hlk hret (hb hby d5_134) (by decide) (by decide) (⟨rfl, f6, _, V3, rfl, fun _ => own_dyeq q2 yx00 rfl, fun q => absurd q (by decide), fun q => absurd q (by decide), fun _ => own_dyeq yc10 yx10 ec10, fun q => absurd q (by decide), fun q => absurd q (by decide), fun _ => own_dyeq yc20 yx20 ec20, fun q => absurd q (by decide), fun q => absurd q (by decide), fun _ => own_dyeq yc30 yx30 ec30, fun q => absurd q (by decide), fun q => absurd q (by decide)⟩)
set_option maxRecDepth 65536 in
set_option maxHeartbeats 40000000 in
theorem rm5_1_2 (l : Launch) (Z : State) (a0 : Array Value) (hw : ∀ d ∈ tables_1, d.before a0 Z = true) (ws : List Jvm.Cond) (n0 : Nat) (ta ca : Addr) (t0 : UInt64) (t1 : UInt64) (t2 : UInt64) (t3 : UInt64) (t4 : UInt64) (t5 : UInt64) (t6 : UInt64) (t7 : UInt64) (t8 : UInt64) (t9 : UInt64) (t10 : UInt64) (t11 : UInt64) (t12 : UInt64) (t13 : UInt64) (t14 : UInt64) (t15 : UInt64) (mt0 : Int) (mt1 : Int) (mt2 : Int) (mt5 : Int) (mt6 : Int) (mt10 : Int) (c00 : UInt64) (mc00 : Int) (c01 : UInt64) (mc01 : Int) (c10 : UInt64) (mc10 : Int) (c11 : UInt64) (mc11 : Int) (c20 : UInt64) (mc20 : Int) (c21 : UInt64) (mc21 : Int) (c30 : UInt64) (mc30 : Int) (c31 : UInt64) (mc31 : Int) (x00 : Int64) (mx00 : Int) (x01 : Int64) (mx01 : Int) (x02 : Int64) (mx02 : Int) (x10 : Int64) (mx10 : Int) (x11 : Int64) (mx11 : Int) (x12 : Int64) (mx12 : Int) (x20 : Int64) (mx20 : Int) (x21 : Int64) (mx21 : Int) (x22 : Int64) (mx22 : Int) (x30 : Int64) (mx30 : Int) (x31 : Int64) (mx31 : Int) (x32 : Int64) (mx32 : Int) (h0 : Heap) (hn0 : n0 ≤ h0.size) (At : AD Z h0 ta [t0, t1, t2, t3, t4, t5, t6, t7, t8, t9, t10, t11, t12, t13, t14, t15]) (Ac : AD Z h0 ca [c00, c01, c10, c11, c20, c21, c30, c31]) (hne : ta ≠ ca) (hg : n0 ≤ ca) (yt0 : Dy mt0 1074 t0) (bt0 : mt0.natAbs ≤ 128) (yt1 : Dy mt1 1074 t1) (bt1 : mt1.natAbs ≤ 128) (yt2 : Dy mt2 1074 t2) (bt2 : mt2.natAbs ≤ 128) (yt5 : Dy mt5 1074 t5) (bt5 : mt5.natAbs ≤ 128) (yt6 : Dy mt6 1074 t6) (bt6 : mt6.natAbs ≤ 128) (yt10 : Dy mt10 1074 t10) (bt10 : mt10.natAbs ≤ 128) (hz0 : mt0 ≠ 0) (hz5 : mt5 ≠ 0) (hz10 : mt10 ≠ 0) (yc00 : Dy mc00 1074 c00) (bc00 : mc00.natAbs ≤ 49152) (ec00 : mc00 = mt0 * mx00) (yc01 : Dy mc01 1074 c01) (bc01 : mc01.natAbs ≤ 49152) (ec01 : mc01 = mt0 * mx01) (yc10 : Dy mc10 1074 c10) (bc10 : mc10.natAbs ≤ 49152) (ec10 : mc10 = mx10) (yc11 : Dy mc11 1074 c11) (bc11 : mc11.natAbs ≤ 49152) (ec11 : mc11 = mx11) (yc20 : Dy mc20 1074 c20) (bc20 : mc20.natAbs ≤ 49152) (ec20 : mc20 = mx20) (yc21 : Dy mc21 1074 c21) (bc21 : mc21.natAbs ≤ 49152) (ec21 : mc21 = mx21) (yc30 : Dy mc30 1074 c30) (bc30 : mc30.natAbs ≤ 49152) (ec30 : mc30 = mx30) (yc31 : Dy mc31 1074 c31) (bc31 : mc31.natAbs ≤ 49152) (ec31 : mc31 = mx31) (yx00 : Dy mx00 1074 (FP.l2d x00)) (bx00 : mx00.natAbs ≤ 128) (yx01 : Dy mx01 1074 (FP.l2d x01)) (bx01 : mx01.natAbs ≤ 128) (yx02 : Dy mx02 1074 (FP.l2d x02)) (bx02 : mx02.natAbs ≤ 128) (yx10 : Dy mx10 1074 (FP.l2d x10)) (bx10 : mx10.natAbs ≤ 128) (yx11 : Dy mx11 1074 (FP.l2d x11)) (bx11 : mx11.natAbs ≤ 128) (yx12 : Dy mx12 1074 (FP.l2d x12)) (bx12 : mx12.natAbs ≤ 128) (yx20 : Dy mx20 1074 (FP.l2d x20)) (bx20 : mx20.natAbs ≤ 128) (yx21 : Dy mx21 1074 (FP.l2d x21)) (bx21 : mx21.natAbs ≤ 128) (yx22 : Dy mx22 1074 (FP.l2d x22)) (bx22 : mx22.natAbs ≤ 128) (yx30 : Dy mx30 1074 (FP.l2d x30)) (bx30 : mx30.natAbs ≤ 128) (yx31 : Dy mx31 1074 (FP.l2d x31)) (bx31 : mx31.natAbs ≤ 128) (yx32 : Dy mx32 1074 (FP.l2d x32)) (bx32 : mx32.natAbs ≤ 128) :
    Con l Z n0 (⟨"com/example/orthogon/orthogon/Triangular", "solveUpper", "([DII[DI)V"⟩ : MethodName) prog_16_method_3_code 12 none ws ({ frames := 0, cells := 0, slots := 0, locals := 0 } : Room) #[(.ref ta), (.int (4 : Int32)), (.int (1 : Int32)), (.ref ca), (.int (2 : Int32))] h0 (fun v h => v = none ∧ Keep h0 h [ca] ∧ ∃ xs, AD Z h ca xs ∧ xs.length = 4 * 2 ∧ (0 < 2 → cmpValue (FP.dcmp (xs.getD (0 * 2 + 0) 0) (FP.l2d x00)) .l = 0) ∧ (1 < 2 → cmpValue (FP.dcmp (xs.getD (0 * 2 + 1) 0) (FP.l2d x01)) .l = 0) ∧ (2 < 2 → cmpValue (FP.dcmp (xs.getD (0 * 2 + 2) 0) (FP.l2d x02)) .l = 0) ∧ (0 < 2 → cmpValue (FP.dcmp (xs.getD (1 * 2 + 0) 0) (FP.l2d x10)) .l = 0) ∧ (1 < 2 → cmpValue (FP.dcmp (xs.getD (1 * 2 + 1) 0) (FP.l2d x11)) .l = 0) ∧ (2 < 2 → cmpValue (FP.dcmp (xs.getD (1 * 2 + 2) 0) (FP.l2d x12)) .l = 0) ∧ (0 < 2 → cmpValue (FP.dcmp (xs.getD (2 * 2 + 0) 0) (FP.l2d x20)) .l = 0) ∧ (1 < 2 → cmpValue (FP.dcmp (xs.getD (2 * 2 + 1) 0) (FP.l2d x21)) .l = 0) ∧ (2 < 2 → cmpValue (FP.dcmp (xs.getD (2 * 2 + 2) 0) (FP.l2d x22)) .l = 0) ∧ (0 < 2 → cmpValue (FP.dcmp (xs.getD (3 * 2 + 0) 0) (FP.l2d x30)) .l = 0) ∧ (1 < 2 → cmpValue (FP.dcmp (xs.getD (3 * 2 + 1) 0) (FP.l2d x31)) .l = 0) ∧ (2 < 2 → cmpValue (FP.dcmp (xs.getD (3 * 2 + 2) 0) (FP.l2d x32)) .l = 0)) := by
  refine con_start (plainFor_of_name (by first | (simp [plainName, overriddenIn]; done) | decide +kernel)) (fr0 := fun m => mkF m 0 #[.val (.ref ta), .val (.int (4 : Int32)), .val (.int (1 : Int32)), .val (.ref ca), .val (.int (2 : Int32)), .unset, .unset, .unset, .unset, .unset, .unset, .unset] []) (fun m => by first | (simp [entryFrame, mkF, argsToLocals, Value.category]; done) | rfl) ?_
  intro p e s m below meth c T0 hx hZ hby hml hown hnm hret hlk X0
  replace hown : s.vm.findClass "com/example/orthogon/orthogon/Triangular" = some m.cls := hown
  replace hml : c.maxLocals = 12 := hml
  refine g_iloadN X0 hx (pc' := 1) rfl (hb hby d5_0) rfl ?_
  refine g_iconst X0 hx (pc' := 2) (z := (1 : Int32)) rfl (hb hby d5_1) rfl ?_
  refine g_isub X0 hx (pc' := 3) rfl (hb hby d5_2) ?_
  refine g_normI (z := (0 : Int32)) (by decide) ?_
  refine g_istore X0 hx (pc' := 5) rfl (hb hby d5_3) (l' := #[.val (.ref ta), .val (.int (4 : Int32)), .val (.int (1 : Int32)), .val (.ref ca), .val (.int (2 : Int32)), .val (.int (0 : Int32)), .unset, .unset, .unset, .unset, .unset, .unset]) rfl ?_
  refine g_iload X0 hx (pc' := 7) rfl (hb hby d5_5) rfl ?_
  refine g_ifN X0 hx (pcN := 10) (hb hby d5_7) rfl (show ¬ ((0 : Int32) < 0) from by decide) ?_
  refine g_iload X0 hx (pc' := 12) rfl (hb hby d5_10) rfl ?_
  refine g_iload X0 hx (pc' := 14) rfl (hb hby d5_12) rfl ?_
  refine g_imul X0 hx (pc' := 15) rfl (hb hby d5_14) ?_
  refine g_normI (z := (0 : Int32)) (by decide) ?_
  refine g_istore X0 hx (pc' := 17) rfl (hb hby d5_15) (l' := #[.val (.ref ta), .val (.int (4 : Int32)), .val (.int (1 : Int32)), .val (.ref ca), .val (.int (2 : Int32)), .val (.int (0 : Int32)), .val (.int (0 : Int32)), .unset, .unset, .unset, .unset, .unset]) rfl ?_
  refine g_iload X0 hx (pc' := 19) rfl (hb hby d5_17) rfl ?_
  refine g_iconst X0 hx (pc' := 20) (z := (1 : Int32)) rfl (hb hby d5_19) rfl ?_
  refine g_iadd X0 hx (pc' := 21) rfl (hb hby d5_20) ?_
  refine g_normI (z := (1 : Int32)) (by decide) ?_
  refine g_istore X0 hx (pc' := 23) rfl (hb hby d5_21) (l' := #[.val (.ref ta), .val (.int (4 : Int32)), .val (.int (1 : Int32)), .val (.ref ca), .val (.int (2 : Int32)), .val (.int (0 : Int32)), .val (.int (0 : Int32)), .val (.int (1 : Int32)), .unset, .unset, .unset, .unset]) rfl ?_
  refine g_iload X0 hx (pc' := 25) rfl (hb hby d5_23) rfl ?_
  refine g_iloadN X0 hx (pc' := 26) rfl (hb hby d5_25) rfl ?_
  refine g_icmpY X0 hx (pcY := 89) (hb hby d5_26) (by decide) (by decide) (show ¬ (1 : Int32) < (1 : Int32) from by decide) ?_
  refine g_aloadN X0 hx (pc' := 90) rfl (hb hby d5_89) rfl rfl ?_
  refine g_iload X0 hx (pc' := 92) rfl (hb hby d5_90) rfl ?_
  refine g_iloadN X0 hx (pc' := 93) rfl (hb hby d5_92) rfl ?_
  refine g_imul X0 hx (pc' := 94) rfl (hb hby d5_93) ?_
  refine g_normI (z := (0 : Int32)) (by decide) ?_
  refine g_iload X0 hx (pc' := 96) rfl (hb hby d5_94) rfl ?_
  refine g_iadd X0 hx (pc' := 97) rfl (hb hby d5_96) ?_
  refine g_normI (z := (0 : Int32)) (by decide) ?_
  refine g_daload X0 hx hZ At (i := 0) (by decide) (show (0 : Nat) < 16 by decide) (v := t0) rfl (pc' := 98) rfl (hb hby d5_97) ?_
  refine g_dstore X0 hx (pc' := 100) rfl (hb hby d5_98) (l' := #[.val (.ref ta), .val (.int (4 : Int32)), .val (.int (1 : Int32)), .val (.ref ca), .val (.int (2 : Int32)), .val (.int (0 : Int32)), .val (.int (0 : Int32)), .val (.double t0), .second, .unset, .unset, .unset]) rfl ?_
  refine g_iconst X0 hx (pc' := 101) (z := (0 : Int32)) rfl (hb hby d5_100) rfl ?_
  refine g_istore X0 hx (pc' := 103) rfl (hb hby d5_101) (l' := #[.val (.ref ta), .val (.int (4 : Int32)), .val (.int (1 : Int32)), .val (.ref ca), .val (.int (2 : Int32)), .val (.int (0 : Int32)), .val (.int (0 : Int32)), .val (.double t0), .second, .val (.int (0 : Int32)), .unset, .unset]) rfl ?_
  refine g_iload X0 hx (pc' := 105) rfl (hb hby d5_103) rfl ?_
  refine g_iload X0 hx (pc' := 107) rfl (hb hby d5_105) rfl ?_
  refine g_icmpN X0 hx (pcN := 110) (hb hby d5_107) rfl (show ¬ (¬ (0 : Int32) < (2 : Int32)) from by decide) ?_
  refine g_aloadN X0 hx (pc' := 111) rfl (hb hby d5_110) rfl rfl ?_
  refine g_iload X0 hx (pc' := 113) rfl (hb hby d5_111) rfl ?_
  refine g_iload X0 hx (pc' := 115) rfl (hb hby d5_113) rfl ?_
  refine g_iadd X0 hx (pc' := 116) rfl (hb hby d5_115) ?_
  refine g_normI (z := (0 : Int32)) (by decide) ?_
  refine g_dup2 X0 hx (pc' := 117) rfl (hb hby d5_116) rfl rfl ?_
  refine g_daload X0 hx hZ Ac (i := 0) (by decide) (show (0 : Nat) < 8 by decide) (v := c00) rfl (pc' := 118) rfl (hb hby d5_117) ?_
  refine g_dload X0 hx (pc' := 120) rfl (hb hby d5_118) rfl ?_
  have q7 : Dy mx00 1074 (FP.ddiv c00 t0) := dy_div yc00 yt0 hz0 (by exact own_g0 ec00) rfl (Nat.lt_of_le_of_lt bx00 (by decide)) (by decide)
  refine g_ddiv X0 hx (pc' := 121) (z := (FP.ddiv c00 t0)) rfl (hb hby d5_120) (dy_noNaN q7) rfl ?_
  refine g_absD (fun d7 hd7 => ?_)
  rw [← hd7] at q7
  refine g_dastore X0 hx hZ Ac (i := 0) (by decide) (show (0 : Nat) < 8 by decide) hg (pc' := 122) rfl (hb hby d5_121) (fun T8 h8 X8 W8 N8 => ?_)
  have f9 := At.other W8 hne
  have f10 := (by have q := (Keep.of_wr W8).1; exact Nat.le_trans hn0 q : n0 ≤ h8.size)
  have f11 := (Keep.refl h0 [ca]).wr W8 (Or.inl (List.mem_of_getElem? (i := 0) rfl))
  have V8 : AD Z h8 ca [d7, c01, c10, c11, c20, c21, c30, c31] := N8
  refine g_iincC X8 hx (pc' := 125) (x := (0 : Int32)) (z := (1 : Int32)) rfl (hb hby d5_122) rfl (by decide) (l' := #[.val (.ref ta), .val (.int (4 : Int32)), .val (.int (1 : Int32)), .val (.ref ca), .val (.int (2 : Int32)), .val (.int (0 : Int32)), .val (.int (0 : Int32)), .val (.double t0), .second, .val (.int (1 : Int32)), .unset, .unset]) rfl ?_
  refine g_goto X8 hx (pc' := 103) (hb hby d5_125) (by decide) (by decide) ?_
  refine g_iload X8 hx (pc' := 105) rfl (hb hby d5_103) rfl ?_
  refine g_iload X8 hx (pc' := 107) rfl (hb hby d5_105) rfl ?_
  refine g_icmpN X8 hx (pcN := 110) (hb hby d5_107) rfl (show ¬ (¬ (1 : Int32) < (2 : Int32)) from by decide) ?_
  refine g_aloadN X8 hx (pc' := 111) rfl (hb hby d5_110) rfl rfl ?_
  refine g_iload X8 hx (pc' := 113) rfl (hb hby d5_111) rfl ?_
  refine g_iload X8 hx (pc' := 115) rfl (hb hby d5_113) rfl ?_
  refine g_iadd X8 hx (pc' := 116) rfl (hb hby d5_115) ?_
  refine g_normI (z := (1 : Int32)) (by decide) ?_
  refine g_dup2 X8 hx (pc' := 117) rfl (hb hby d5_116) rfl rfl ?_
  refine g_daload X8 hx hZ V8 (i := 1) (by decide) (show (1 : Nat) < 8 by decide) (v := c01) rfl (pc' := 118) rfl (hb hby d5_117) ?_
  refine g_dload X8 hx (pc' := 120) rfl (hb hby d5_118) rfl ?_
  have q12 : Dy mx01 1074 (FP.ddiv c01 t0) := dy_div yc01 yt0 hz0 (by exact own_g0 ec01) rfl (Nat.lt_of_le_of_lt bx01 (by decide)) (by decide)
  refine g_ddiv X8 hx (pc' := 121) (z := (FP.ddiv c01 t0)) rfl (hb hby d5_120) (dy_noNaN q12) rfl ?_
  refine g_absD (fun d12 hd12 => ?_)
  rw [← hd12] at q12
  refine g_dastore X8 hx hZ V8 (i := 1) (by decide) (show (1 : Nat) < 8 by decide) hg (pc' := 122) rfl (hb hby d5_121) (fun T13 h13 X13 W13 N13 => ?_)
  have f14 := f9.other W13 hne
  have f15 := (by have q := (Keep.of_wr W13).1; exact Nat.le_trans f10 q : n0 ≤ h13.size)
  have f16 := f11.wr W13 (Or.inl (List.mem_of_getElem? (i := 0) rfl))
  have V13 : AD Z h13 ca [d7, d12, c10, c11, c20, c21, c30, c31] := N13
  refine g_iincC X13 hx (pc' := 125) (x := (1 : Int32)) (z := (2 : Int32)) rfl (hb hby d5_122) rfl (by decide) (l' := #[.val (.ref ta), .val (.int (4 : Int32)), .val (.int (1 : Int32)), .val (.ref ca), .val (.int (2 : Int32)), .val (.int (0 : Int32)), .val (.int (0 : Int32)), .val (.double t0), .second, .val (.int (2 : Int32)), .unset, .unset]) rfl ?_
  refine g_goto X13 hx (pc' := 103) (hb hby d5_125) (by decide) (by decide) ?_
  refine g_iload X13 hx (pc' := 105) rfl (hb hby d5_103) rfl ?_
  refine g_iload X13 hx (pc' := 107) rfl (hb hby d5_105) rfl ?_
  refine g_icmpY X13 hx (pcY := 128) (hb hby d5_107) (by decide) (by decide) (show ¬ (2 : Int32) < (2 : Int32) from by decide) ?_
  refine g_iincC X13 hx (pc' := 131) (x := (0 : Int32)) (z := (-1 : Int32)) rfl (hb hby d5_128) rfl (by decide) (l' := #[.val (.ref ta), .val (.int (4 : Int32)), .val (.int (1 : Int32)), .val (.ref ca), .val (.int (2 : Int32)), .val (.int (-1 : Int32)), .val (.int (0 : Int32)), .val (.double t0), .second, .val (.int (2 : Int32)), .unset, .unset]) rfl ?_
  refine g_goto X13 hx (pc' := 5) (hb hby d5_131) (by decide) (by decide) ?_
  refine g_iload X13 hx (pc' := 7) rfl (hb hby d5_5) rfl ?_
  refine g_ifY X13 hx (pcY := 134) (hb hby d5_7) (by decide) (by decide) (show (-1 : Int32) < 0 from by decide) ?_
  exact g_retV X13 hx hlk hret (hb hby d5_134) (by decide) (by decide) (⟨rfl, f16, _, V13, rfl, fun _ => own_dyeq q7 yx00 rfl, fun _ => own_dyeq q12 yx01 rfl, fun q => absurd q (by decide), fun _ => own_dyeq yc10 yx10 ec10, fun _ => own_dyeq yc11 yx11 ec11, fun q => absurd q (by decide), fun _ => own_dyeq yc20 yx20 ec20, fun _ => own_dyeq yc21 yx21 ec21, fun q => absurd q (by decide), fun _ => own_dyeq yc30 yx30 ec30, fun _ => own_dyeq yc31 yx31 ec31, fun q => absurd q (by decide)⟩)
set_option maxRecDepth 65536 in
set_option maxHeartbeats 40000000 in
theorem rm5_1_3 (l : Launch) (Z : State) (a0 : Array Value) (hw : ∀ d ∈ tables_1, d.before a0 Z = true) (ws : List Jvm.Cond) (n0 : Nat) (ta ca : Addr) (t0 : UInt64) (t1 : UInt64) (t2 : UInt64) (t3 : UInt64) (t4 : UInt64) (t5 : UInt64) (t6 : UInt64) (t7 : UInt64) (t8 : UInt64) (t9 : UInt64) (t10 : UInt64) (t11 : UInt64) (t12 : UInt64) (t13 : UInt64) (t14 : UInt64) (t15 : UInt64) (mt0 : Int) (mt1 : Int) (mt2 : Int) (mt5 : Int) (mt6 : Int) (mt10 : Int) (c00 : UInt64) (mc00 : Int) (c01 : UInt64) (mc01 : Int) (c02 : UInt64) (mc02 : Int) (c10 : UInt64) (mc10 : Int) (c11 : UInt64) (mc11 : Int) (c12 : UInt64) (mc12 : Int) (c20 : UInt64) (mc20 : Int) (c21 : UInt64) (mc21 : Int) (c22 : UInt64) (mc22 : Int) (c30 : UInt64) (mc30 : Int) (c31 : UInt64) (mc31 : Int) (c32 : UInt64) (mc32 : Int) (x00 : Int64) (mx00 : Int) (x01 : Int64) (mx01 : Int) (x02 : Int64) (mx02 : Int) (x10 : Int64) (mx10 : Int) (x11 : Int64) (mx11 : Int) (x12 : Int64) (mx12 : Int) (x20 : Int64) (mx20 : Int) (x21 : Int64) (mx21 : Int) (x22 : Int64) (mx22 : Int) (x30 : Int64) (mx30 : Int) (x31 : Int64) (mx31 : Int) (x32 : Int64) (mx32 : Int) (h0 : Heap) (hn0 : n0 ≤ h0.size) (At : AD Z h0 ta [t0, t1, t2, t3, t4, t5, t6, t7, t8, t9, t10, t11, t12, t13, t14, t15]) (Ac : AD Z h0 ca [c00, c01, c02, c10, c11, c12, c20, c21, c22, c30, c31, c32]) (hne : ta ≠ ca) (hg : n0 ≤ ca) (yt0 : Dy mt0 1074 t0) (bt0 : mt0.natAbs ≤ 128) (yt1 : Dy mt1 1074 t1) (bt1 : mt1.natAbs ≤ 128) (yt2 : Dy mt2 1074 t2) (bt2 : mt2.natAbs ≤ 128) (yt5 : Dy mt5 1074 t5) (bt5 : mt5.natAbs ≤ 128) (yt6 : Dy mt6 1074 t6) (bt6 : mt6.natAbs ≤ 128) (yt10 : Dy mt10 1074 t10) (bt10 : mt10.natAbs ≤ 128) (hz0 : mt0 ≠ 0) (hz5 : mt5 ≠ 0) (hz10 : mt10 ≠ 0) (yc00 : Dy mc00 1074 c00) (bc00 : mc00.natAbs ≤ 49152) (ec00 : mc00 = mt0 * mx00) (yc01 : Dy mc01 1074 c01) (bc01 : mc01.natAbs ≤ 49152) (ec01 : mc01 = mt0 * mx01) (yc02 : Dy mc02 1074 c02) (bc02 : mc02.natAbs ≤ 49152) (ec02 : mc02 = mt0 * mx02) (yc10 : Dy mc10 1074 c10) (bc10 : mc10.natAbs ≤ 49152) (ec10 : mc10 = mx10) (yc11 : Dy mc11 1074 c11) (bc11 : mc11.natAbs ≤ 49152) (ec11 : mc11 = mx11) (yc12 : Dy mc12 1074 c12) (bc12 : mc12.natAbs ≤ 49152) (ec12 : mc12 = mx12) (yc20 : Dy mc20 1074 c20) (bc20 : mc20.natAbs ≤ 49152) (ec20 : mc20 = mx20) (yc21 : Dy mc21 1074 c21) (bc21 : mc21.natAbs ≤ 49152) (ec21 : mc21 = mx21) (yc22 : Dy mc22 1074 c22) (bc22 : mc22.natAbs ≤ 49152) (ec22 : mc22 = mx22) (yc30 : Dy mc30 1074 c30) (bc30 : mc30.natAbs ≤ 49152) (ec30 : mc30 = mx30) (yc31 : Dy mc31 1074 c31) (bc31 : mc31.natAbs ≤ 49152) (ec31 : mc31 = mx31) (yc32 : Dy mc32 1074 c32) (bc32 : mc32.natAbs ≤ 49152) (ec32 : mc32 = mx32) (yx00 : Dy mx00 1074 (FP.l2d x00)) (bx00 : mx00.natAbs ≤ 128) (yx01 : Dy mx01 1074 (FP.l2d x01)) (bx01 : mx01.natAbs ≤ 128) (yx02 : Dy mx02 1074 (FP.l2d x02)) (bx02 : mx02.natAbs ≤ 128) (yx10 : Dy mx10 1074 (FP.l2d x10)) (bx10 : mx10.natAbs ≤ 128) (yx11 : Dy mx11 1074 (FP.l2d x11)) (bx11 : mx11.natAbs ≤ 128) (yx12 : Dy mx12 1074 (FP.l2d x12)) (bx12 : mx12.natAbs ≤ 128) (yx20 : Dy mx20 1074 (FP.l2d x20)) (bx20 : mx20.natAbs ≤ 128) (yx21 : Dy mx21 1074 (FP.l2d x21)) (bx21 : mx21.natAbs ≤ 128) (yx22 : Dy mx22 1074 (FP.l2d x22)) (bx22 : mx22.natAbs ≤ 128) (yx30 : Dy mx30 1074 (FP.l2d x30)) (bx30 : mx30.natAbs ≤ 128) (yx31 : Dy mx31 1074 (FP.l2d x31)) (bx31 : mx31.natAbs ≤ 128) (yx32 : Dy mx32 1074 (FP.l2d x32)) (bx32 : mx32.natAbs ≤ 128) :
    Con l Z n0 (⟨"com/example/orthogon/orthogon/Triangular", "solveUpper", "([DII[DI)V"⟩ : MethodName) prog_16_method_3_code 12 none ws ({ frames := 0, cells := 0, slots := 0, locals := 0 } : Room) #[(.ref ta), (.int (4 : Int32)), (.int (1 : Int32)), (.ref ca), (.int (3 : Int32))] h0 (fun v h => v = none ∧ Keep h0 h [ca] ∧ ∃ xs, AD Z h ca xs ∧ xs.length = 4 * 3 ∧ (0 < 3 → cmpValue (FP.dcmp (xs.getD (0 * 3 + 0) 0) (FP.l2d x00)) .l = 0) ∧ (1 < 3 → cmpValue (FP.dcmp (xs.getD (0 * 3 + 1) 0) (FP.l2d x01)) .l = 0) ∧ (2 < 3 → cmpValue (FP.dcmp (xs.getD (0 * 3 + 2) 0) (FP.l2d x02)) .l = 0) ∧ (0 < 3 → cmpValue (FP.dcmp (xs.getD (1 * 3 + 0) 0) (FP.l2d x10)) .l = 0) ∧ (1 < 3 → cmpValue (FP.dcmp (xs.getD (1 * 3 + 1) 0) (FP.l2d x11)) .l = 0) ∧ (2 < 3 → cmpValue (FP.dcmp (xs.getD (1 * 3 + 2) 0) (FP.l2d x12)) .l = 0) ∧ (0 < 3 → cmpValue (FP.dcmp (xs.getD (2 * 3 + 0) 0) (FP.l2d x20)) .l = 0) ∧ (1 < 3 → cmpValue (FP.dcmp (xs.getD (2 * 3 + 1) 0) (FP.l2d x21)) .l = 0) ∧ (2 < 3 → cmpValue (FP.dcmp (xs.getD (2 * 3 + 2) 0) (FP.l2d x22)) .l = 0) ∧ (0 < 3 → cmpValue (FP.dcmp (xs.getD (3 * 3 + 0) 0) (FP.l2d x30)) .l = 0) ∧ (1 < 3 → cmpValue (FP.dcmp (xs.getD (3 * 3 + 1) 0) (FP.l2d x31)) .l = 0) ∧ (2 < 3 → cmpValue (FP.dcmp (xs.getD (3 * 3 + 2) 0) (FP.l2d x32)) .l = 0)) := by
  refine con_start (plainFor_of_name (by first | (simp [plainName, overriddenIn]; done) | decide +kernel)) (fr0 := fun m => mkF m 0 #[.val (.ref ta), .val (.int (4 : Int32)), .val (.int (1 : Int32)), .val (.ref ca), .val (.int (3 : Int32)), .unset, .unset, .unset, .unset, .unset, .unset, .unset] []) (fun m => by first | (simp [entryFrame, mkF, argsToLocals, Value.category]; done) | rfl) ?_
  intro p e s m below meth c T0 hx hZ hby hml hown hnm hret hlk X0
  replace hown : s.vm.findClass "com/example/orthogon/orthogon/Triangular" = some m.cls := hown
  replace hml : c.maxLocals = 12 := hml
  refine g_iloadN X0 hx (pc' := 1) rfl (hb hby d5_0) rfl ?_
  refine g_iconst X0 hx (pc' := 2) (z := (1 : Int32)) rfl (hb hby d5_1) rfl ?_
  refine g_isub X0 hx (pc' := 3) rfl (hb hby d5_2) ?_
  refine g_normI (z := (0 : Int32)) (by decide) ?_
  refine g_istore X0 hx (pc' := 5) rfl (hb hby d5_3) (l' := #[.val (.ref ta), .val (.int (4 : Int32)), .val (.int (1 : Int32)), .val (.ref ca), .val (.int (3 : Int32)), .val (.int (0 : Int32)), .unset, .unset, .unset, .unset, .unset, .unset]) rfl ?_
  refine g_iload X0 hx (pc' := 7) rfl (hb hby d5_5) rfl ?_
  refine g_ifN X0 hx (pcN := 10) (hb hby d5_7) rfl (show ¬ ((0 : Int32) < 0) from by decide) ?_
  refine g_iload X0 hx (pc' := 12) rfl (hb hby d5_10) rfl ?_
  refine g_iload X0 hx (pc' := 14) rfl (hb hby d5_12) rfl ?_
  refine g_imul X0 hx (pc' := 15) rfl (hb hby d5_14) ?_
  refine g_normI (z := (0 : Int32)) (by decide) ?_
  refine g_istore X0 hx (pc' := 17) rfl (hb hby d5_15) (l' := #[.val (.ref ta), .val (.int (4 : Int32)), .val (.int (1 : Int32)), .val (.ref ca), .val (.int (3 : Int32)), .val (.int (0 : Int32)), .val (.int (0 : Int32)), .unset, .unset, .unset, .unset, .unset]) rfl ?_
  refine g_iload X0 hx (pc' := 19) rfl (hb hby d5_17) rfl ?_
  refine g_iconst X0 hx (pc' := 20) (z := (1 : Int32)) rfl (hb hby d5_19) rfl ?_
  refine g_iadd X0 hx (pc' := 21) rfl (hb hby d5_20) ?_
  refine g_normI (z := (1 : Int32)) (by decide) ?_
  refine g_istore X0 hx (pc' := 23) rfl (hb hby d5_21) (l' := #[.val (.ref ta), .val (.int (4 : Int32)), .val (.int (1 : Int32)), .val (.ref ca), .val (.int (3 : Int32)), .val (.int (0 : Int32)), .val (.int (0 : Int32)), .val (.int (1 : Int32)), .unset, .unset, .unset, .unset]) rfl ?_
  refine g_iload X0 hx (pc' := 25) rfl (hb hby d5_23) rfl ?_
  refine g_iloadN X0 hx (pc' := 26) rfl (hb hby d5_25) rfl ?_
  refine g_icmpY X0 hx (pcY := 89) (hb hby d5_26) (by decide) (by decide) (show ¬ (1 : Int32) < (1 : Int32) from by decide) ?_
  refine g_aloadN X0 hx (pc' := 90) rfl (hb hby d5_89) rfl rfl ?_
  refine g_iload X0 hx (pc' := 92) rfl (hb hby d5_90) rfl ?_
  refine g_iloadN X0 hx (pc' := 93) rfl (hb hby d5_92) rfl ?_
  refine g_imul X0 hx (pc' := 94) rfl (hb hby d5_93) ?_
  refine g_normI (z := (0 : Int32)) (by decide) ?_
  refine g_iload X0 hx (pc' := 96) rfl (hb hby d5_94) rfl ?_
  refine g_iadd X0 hx (pc' := 97) rfl (hb hby d5_96) ?_
  refine g_normI (z := (0 : Int32)) (by decide) ?_
  refine g_daload X0 hx hZ At (i := 0) (by decide) (show (0 : Nat) < 16 by decide) (v := t0) rfl (pc' := 98) rfl (hb hby d5_97) ?_
  refine g_dstore X0 hx (pc' := 100) rfl (hb hby d5_98) (l' := #[.val (.ref ta), .val (.int (4 : Int32)), .val (.int (1 : Int32)), .val (.ref ca), .val (.int (3 : Int32)), .val (.int (0 : Int32)), .val (.int (0 : Int32)), .val (.double t0), .second, .unset, .unset, .unset]) rfl ?_
  refine g_iconst X0 hx (pc' := 101) (z := (0 : Int32)) rfl (hb hby d5_100) rfl ?_
  refine g_istore X0 hx (pc' := 103) rfl (hb hby d5_101) (l' := #[.val (.ref ta), .val (.int (4 : Int32)), .val (.int (1 : Int32)), .val (.ref ca), .val (.int (3 : Int32)), .val (.int (0 : Int32)), .val (.int (0 : Int32)), .val (.double t0), .second, .val (.int (0 : Int32)), .unset, .unset]) rfl ?_
  refine g_iload X0 hx (pc' := 105) rfl (hb hby d5_103) rfl ?_
  refine g_iload X0 hx (pc' := 107) rfl (hb hby d5_105) rfl ?_
  refine g_icmpN X0 hx (pcN := 110) (hb hby d5_107) rfl (show ¬ (¬ (0 : Int32) < (3 : Int32)) from by decide) ?_
  refine g_aloadN X0 hx (pc' := 111) rfl (hb hby d5_110) rfl rfl ?_
  refine g_iload X0 hx (pc' := 113) rfl (hb hby d5_111) rfl ?_
  refine g_iload X0 hx (pc' := 115) rfl (hb hby d5_113) rfl ?_
  refine g_iadd X0 hx (pc' := 116) rfl (hb hby d5_115) ?_
  refine g_normI (z := (0 : Int32)) (by decide) ?_
  refine g_dup2 X0 hx (pc' := 117) rfl (hb hby d5_116) rfl rfl ?_
  refine g_daload X0 hx hZ Ac (i := 0) (by decide) (show (0 : Nat) < 12 by decide) (v := c00) rfl (pc' := 118) rfl (hb hby d5_117) ?_
  refine g_dload X0 hx (pc' := 120) rfl (hb hby d5_118) rfl ?_
  have q17 : Dy mx00 1074 (FP.ddiv c00 t0) := dy_div yc00 yt0 hz0 (by exact own_g0 ec00) rfl (Nat.lt_of_le_of_lt bx00 (by decide)) (by decide)
  refine g_ddiv X0 hx (pc' := 121) (z := (FP.ddiv c00 t0)) rfl (hb hby d5_120) (dy_noNaN q17) rfl ?_
  refine g_absD (fun d17 hd17 => ?_)
  rw [← hd17] at q17
  refine g_dastore X0 hx hZ Ac (i := 0) (by decide) (show (0 : Nat) < 12 by decide) hg (pc' := 122) rfl (hb hby d5_121) (fun T18 h18 X18 W18 N18 => ?_)
  have f19 := At.other W18 hne
  have f20 := (by have q := (Keep.of_wr W18).1; exact Nat.le_trans hn0 q : n0 ≤ h18.size)
  have f21 := (Keep.refl h0 [ca]).wr W18 (Or.inl (List.mem_of_getElem? (i := 0) rfl))
  have V18 : AD Z h18 ca [d17, c01, c02, c10, c11, c12, c20, c21, c22, c30, c31, c32] := N18
  refine g_iincC X18 hx (pc' := 125) (x := (0 : Int32)) (z := (1 : Int32)) rfl (hb hby d5_122) rfl (by decide) (l' := #[.val (.ref ta), .val (.int (4 : Int32)), .val (.int (1 : Int32)), .val (.ref ca), .val (.int (3 : Int32)), .val (.int (0 : Int32)), .val (.int (0 : Int32)), .val (.double t0), .second, .val (.int (1 : Int32)), .unset, .unset]) rfl ?_
  refine g_goto X18 hx (pc' := 103) (hb hby d5_125) (by decide) (by decide) ?_
  refine g_iload X18 hx (pc' := 105) rfl (hb hby d5_103) rfl ?_
  refine g_iload X18 hx (pc' := 107) rfl (hb hby d5_105) rfl ?_
  refine g_icmpN X18 hx (pcN := 110) (hb hby d5_107) rfl (show ¬ (¬ (1 : Int32) < (3 : Int32)) from by decide) ?_
  refine g_aloadN X18 hx (pc' := 111) rfl (hb hby d5_110) rfl rfl ?_
  refine g_iload X18 hx (pc' := 113) rfl (hb hby d5_111) rfl ?_
  refine g_iload X18 hx (pc' := 115) rfl (hb hby d5_113) rfl ?_
  refine g_iadd X18 hx (pc' := 116) rfl (hb hby d5_115) ?_
  refine g_normI (z := (1 : Int32)) (by decide) ?_
  refine g_dup2 X18 hx (pc' := 117) rfl (hb hby d5_116) rfl rfl ?_
  refine g_daload X18 hx hZ V18 (i := 1) (by decide) (show (1 : Nat) < 12 by decide) (v := c01) rfl (pc' := 118) rfl (hb hby d5_117) ?_
  refine g_dload X18 hx (pc' := 120) rfl (hb hby d5_118) rfl ?_
  have q22 : Dy mx01 1074 (FP.ddiv c01 t0) := dy_div yc01 yt0 hz0 (by exact own_g0 ec01) rfl (Nat.lt_of_le_of_lt bx01 (by decide)) (by decide)
  refine g_ddiv X18 hx (pc' := 121) (z := (FP.ddiv c01 t0)) rfl (hb hby d5_120) (dy_noNaN q22) rfl ?_
  refine g_absD (fun d22 hd22 => ?_)
  rw [← hd22] at q22
  refine g_dastore X18 hx hZ V18 (i := 1) (by decide) (show (1 : Nat) < 12 by decide) hg (pc' := 122) rfl (hb hby d5_121) (fun T23 h23 X23 W23 N23 => ?_)
  have f24 := f19.other W23 hne
  have f25 := (by have q := (Keep.of_wr W23).1; exact Nat.le_trans f20 q : n0 ≤ h23.size)
  have f26 := f21.wr W23 (Or.inl (List.mem_of_getElem? (i := 0) rfl))
  have V23 : AD Z h23 ca [d17, d22, c02, c10, c11, c12, c20, c21, c22, c30, c31, c32] := N23
  refine g_iincC X23 hx (pc' := 125) (x := (1 : Int32)) (z := (2 : Int32)) rfl (hb hby d5_122) rfl (by decide) (l' := #[.val (.ref ta), .val (.int (4 : Int32)), .val (.int (1 : Int32)), .val (.ref ca), .val (.int (3 : Int32)), .val (.int (0 : Int32)), .val (.int (0 : Int32)), .val (.double t0), .second, .val (.int (2 : Int32)), .unset, .unset]) rfl ?_
  refine g_goto X23 hx (pc' := 103) (hb hby d5_125) (by decide) (by decide) ?_
  refine g_iload X23 hx (pc' := 105) rfl (hb hby d5_103) rfl ?_
  refine g_iload X23 hx (pc' := 107) rfl (hb hby d5_105) rfl ?_
  refine g_icmpN X23 hx (pcN := 110) (hb hby d5_107) rfl (show ¬ (¬ (2 : Int32) < (3 : Int32)) from by decide) ?_
  refine g_aloadN X23 hx (pc' := 111) rfl (hb hby d5_110) rfl rfl ?_
  refine g_iload X23 hx (pc' := 113) rfl (hb hby d5_111) rfl ?_
  refine g_iload X23 hx (pc' := 115) rfl (hb hby d5_113) rfl ?_
  refine g_iadd X23 hx (pc' := 116) rfl (hb hby d5_115) ?_
  refine g_normI (z := (2 : Int32)) (by decide) ?_
  refine g_dup2 X23 hx (pc' := 117) rfl (hb hby d5_116) rfl rfl ?_
  refine g_daload X23 hx hZ V23 (i := 2) (by decide) (show (2 : Nat) < 12 by decide) (v := c02) rfl (pc' := 118) rfl (hb hby d5_117) ?_
  refine g_dload X23 hx (pc' := 120) rfl (hb hby d5_118) rfl ?_
  have q27 : Dy mx02 1074 (FP.ddiv c02 t0) := dy_div yc02 yt0 hz0 (by exact own_g0 ec02) rfl (Nat.lt_of_le_of_lt bx02 (by decide)) (by decide)
  refine g_ddiv X23 hx (pc' := 121) (z := (FP.ddiv c02 t0)) rfl (hb hby d5_120) (dy_noNaN q27) rfl ?_
  refine g_absD (fun d27 hd27 => ?_)
  rw [← hd27] at q27
  refine g_dastore X23 hx hZ V23 (i := 2) (by decide) (show (2 : Nat) < 12 by decide) hg (pc' := 122) rfl (hb hby d5_121) (fun T28 h28 X28 W28 N28 => ?_)
  have f29 := f24.other W28 hne
  have f30 := (by have q := (Keep.of_wr W28).1; exact Nat.le_trans f25 q : n0 ≤ h28.size)
  have f31 := f26.wr W28 (Or.inl (List.mem_of_getElem? (i := 0) rfl))
  have V28 : AD Z h28 ca [d17, d22, d27, c10, c11, c12, c20, c21, c22, c30, c31, c32] := N28
  refine g_iincC X28 hx (pc' := 125) (x := (2 : Int32)) (z := (3 : Int32)) rfl (hb hby d5_122) rfl (by decide) (l' := #[.val (.ref ta), .val (.int (4 : Int32)), .val (.int (1 : Int32)), .val (.ref ca), .val (.int (3 : Int32)), .val (.int (0 : Int32)), .val (.int (0 : Int32)), .val (.double t0), .second, .val (.int (3 : Int32)), .unset, .unset]) rfl ?_
  refine g_goto X28 hx (pc' := 103) (hb hby d5_125) (by decide) (by decide) ?_
  refine g_iload X28 hx (pc' := 105) rfl (hb hby d5_103) rfl ?_
  refine g_iload X28 hx (pc' := 107) rfl (hb hby d5_105) rfl ?_
  refine g_icmpY X28 hx (pcY := 128) (hb hby d5_107) (by decide) (by decide) (show ¬ (3 : Int32) < (3 : Int32) from by decide) ?_
  refine g_iincC X28 hx (pc' := 131) (x := (0 : Int32)) (z := (-1 : Int32)) rfl (hb hby d5_128) rfl (by decide) (l' := #[.val (.ref ta), .val (.int (4 : Int32)), .val (.int (1 : Int32)), .val (.ref ca), .val (.int (3 : Int32)), .val (.int (-1 : Int32)), .val (.int (0 : Int32)), .val (.double t0), .second, .val (.int (3 : Int32)), .unset, .unset]) rfl ?_
  refine g_goto X28 hx (pc' := 5) (hb hby d5_131) (by decide) (by decide) ?_
  refine g_iload X28 hx (pc' := 7) rfl (hb hby d5_5) rfl ?_
  refine g_ifY X28 hx (pcY := 134) (hb hby d5_7) (by decide) (by decide) (show (-1 : Int32) < 0 from by decide) ?_
  exact g_retV X28 hx hlk hret (hb hby d5_134) (by decide) (by decide) (⟨rfl, f31, _, V28, rfl, fun _ => own_dyeq q17 yx00 rfl, fun _ => own_dyeq q22 yx01 rfl, fun _ => own_dyeq q27 yx02 rfl, fun _ => own_dyeq yc10 yx10 ec10, fun _ => own_dyeq yc11 yx11 ec11, fun _ => own_dyeq yc12 yx12 ec12, fun _ => own_dyeq yc20 yx20 ec20, fun _ => own_dyeq yc21 yx21 ec21, fun _ => own_dyeq yc22 yx22 ec22, fun _ => own_dyeq yc30 yx30 ec30, fun _ => own_dyeq yc31 yx31 ec31, fun _ => own_dyeq yc32 yx32 ec32⟩)
set_option maxRecDepth 65536 in
set_option maxHeartbeats 40000000 in
theorem rm5_2_0 (l : Launch) (Z : State) (a0 : Array Value) (hw : ∀ d ∈ tables_1, d.before a0 Z = true) (ws : List Jvm.Cond) (n0 : Nat) (ta ca : Addr) (t0 : UInt64) (t1 : UInt64) (t2 : UInt64) (t3 : UInt64) (t4 : UInt64) (t5 : UInt64) (t6 : UInt64) (t7 : UInt64) (t8 : UInt64) (t9 : UInt64) (t10 : UInt64) (t11 : UInt64) (t12 : UInt64) (t13 : UInt64) (t14 : UInt64) (t15 : UInt64) (mt0 : Int) (mt1 : Int) (mt2 : Int) (mt5 : Int) (mt6 : Int) (mt10 : Int)  (x00 : Int64) (mx00 : Int) (x01 : Int64) (mx01 : Int) (x02 : Int64) (mx02 : Int) (x10 : Int64) (mx10 : Int) (x11 : Int64) (mx11 : Int) (x12 : Int64) (mx12 : Int) (x20 : Int64) (mx20 : Int) (x21 : Int64) (mx21 : Int) (x22 : Int64) (mx22 : Int) (x30 : Int64) (mx30 : Int) (x31 : Int64) (mx31 : Int) (x32 : Int64) (mx32 : Int) (h0 : Heap) (hn0 : n0 ≤ h0.size) (At : AD Z h0 ta [t0, t1, t2, t3, t4, t5, t6, t7, t8, t9, t10, t11, t12, t13, t14, t15]) (Ac : AD Z h0 ca []) (hne : ta ≠ ca) (hg : n0 ≤ ca) (yt0 : Dy mt0 1074 t0) (bt0 : mt0.natAbs ≤ 128) (yt1 : Dy mt1 1074 t1) (bt1 : mt1.natAbs ≤ 128) (yt2 : Dy mt2 1074 t2) (bt2 : mt2.natAbs ≤ 128) (yt5 : Dy mt5 1074 t5) (bt5 : mt5.natAbs ≤ 128) (yt6 : Dy mt6 1074 t6) (bt6 : mt6.natAbs ≤ 128) (yt10 : Dy mt10 1074 t10) (bt10 : mt10.natAbs ≤ 128) (hz0 : mt0 ≠ 0) (hz5 : mt5 ≠ 0) (hz10 : mt10 ≠ 0)  (yx00 : Dy mx00 1074 (FP.l2d x00)) (bx00 : mx00.natAbs ≤ 128) (yx01 : Dy mx01 1074 (FP.l2d x01)) (bx01 : mx01.natAbs ≤ 128) (yx02 : Dy mx02 1074 (FP.l2d x02)) (bx02 : mx02.natAbs ≤ 128) (yx10 : Dy mx10 1074 (FP.l2d x10)) (bx10 : mx10.natAbs ≤ 128) (yx11 : Dy mx11 1074 (FP.l2d x11)) (bx11 : mx11.natAbs ≤ 128) (yx12 : Dy mx12 1074 (FP.l2d x12)) (bx12 : mx12.natAbs ≤ 128) (yx20 : Dy mx20 1074 (FP.l2d x20)) (bx20 : mx20.natAbs ≤ 128) (yx21 : Dy mx21 1074 (FP.l2d x21)) (bx21 : mx21.natAbs ≤ 128) (yx22 : Dy mx22 1074 (FP.l2d x22)) (bx22 : mx22.natAbs ≤ 128) (yx30 : Dy mx30 1074 (FP.l2d x30)) (bx30 : mx30.natAbs ≤ 128) (yx31 : Dy mx31 1074 (FP.l2d x31)) (bx31 : mx31.natAbs ≤ 128) (yx32 : Dy mx32 1074 (FP.l2d x32)) (bx32 : mx32.natAbs ≤ 128) :
    Con l Z n0 (⟨"com/example/orthogon/orthogon/Triangular", "solveUpper", "([DII[DI)V"⟩ : MethodName) prog_16_method_3_code 12 none ws ({ frames := 0, cells := 0, slots := 0, locals := 0 } : Room) #[(.ref ta), (.int (4 : Int32)), (.int (2 : Int32)), (.ref ca), (.int (0 : Int32))] h0 (fun v h => v = none ∧ Keep h0 h [ca] ∧ ∃ xs, AD Z h ca xs ∧ xs.length = 4 * 0 ∧ (0 < 0 → cmpValue (FP.dcmp (xs.getD (0 * 0 + 0) 0) (FP.l2d x00)) .l = 0) ∧ (1 < 0 → cmpValue (FP.dcmp (xs.getD (0 * 0 + 1) 0) (FP.l2d x01)) .l = 0) ∧ (2 < 0 → cmpValue (FP.dcmp (xs.getD (0 * 0 + 2) 0) (FP.l2d x02)) .l = 0) ∧ (0 < 0 → cmpValue (FP.dcmp (xs.getD (1 * 0 + 0) 0) (FP.l2d x10)) .l = 0) ∧ (1 < 0 → cmpValue (FP.dcmp (xs.getD (1 * 0 + 1) 0) (FP.l2d x11)) .l = 0) ∧ (2 < 0 → cmpValue (FP.dcmp (xs.getD (1 * 0 + 2) 0) (FP.l2d x12)) .l = 0) ∧ (0 < 0 → cmpValue (FP.dcmp (xs.getD (2 * 0 + 0) 0) (FP.l2d x20)) .l = 0) ∧ (1 < 0 → cmpValue (FP.dcmp (xs.getD (2 * 0 + 1) 0) (FP.l2d x21)) .l = 0) ∧ (2 < 0 → cmpValue (FP.dcmp (xs.getD (2 * 0 + 2) 0) (FP.l2d x22)) .l = 0) ∧ (0 < 0 → cmpValue (FP.dcmp (xs.getD (3 * 0 + 0) 0) (FP.l2d x30)) .l = 0) ∧ (1 < 0 → cmpValue (FP.dcmp (xs.getD (3 * 0 + 1) 0) (FP.l2d x31)) .l = 0) ∧ (2 < 0 → cmpValue (FP.dcmp (xs.getD (3 * 0 + 2) 0) (FP.l2d x32)) .l = 0)) := by
  refine con_start (plainFor_of_name (by first | (simp [plainName, overriddenIn]; done) | decide +kernel)) (fr0 := fun m => mkF m 0 #[.val (.ref ta), .val (.int (4 : Int32)), .val (.int (2 : Int32)), .val (.ref ca), .val (.int (0 : Int32)), .unset, .unset, .unset, .unset, .unset, .unset, .unset] []) (fun m => by first | (simp [entryFrame, mkF, argsToLocals, Value.category]; done) | rfl) ?_
  intro p e s m below meth c T0 hx hZ hby hml hown hnm hret hlk X0
  replace hown : s.vm.findClass "com/example/orthogon/orthogon/Triangular" = some m.cls := hown
  replace hml : c.maxLocals = 12 := hml
  refine g_iloadN X0 hx (pc' := 1) rfl (hb hby d5_0) rfl ?_
  refine g_iconst X0 hx (pc' := 2) (z := (1 : Int32)) rfl (hb hby d5_1) rfl ?_
  refine g_isub X0 hx (pc' := 3) rfl (hb hby d5_2) ?_
  refine g_normI (z := (1 : Int32)) (by decide) ?_
  refine g_istore X0 hx (pc' := 5) rfl (hb hby d5_3) (l' := #[.val (.ref ta), .val (.int (4 : Int32)), .val (.int (2 : Int32)), .val (.ref ca), .val (.int (0 : Int32)), .val (.int (1 : Int32)), .unset, .unset, .unset, .unset, .unset, .unset]) rfl ?_
  refine g_iload X0 hx (pc' := 7) rfl (hb hby d5_5) rfl ?_
  refine g_ifN X0 hx (pcN := 10) (hb hby d5_7) rfl (show ¬ ((1 : Int32) < 0) from by decide) ?_
  refine g_iload X0 hx (pc' := 12) rfl (hb hby d5_10) rfl ?_
  refine g_iload X0 hx (pc' := 14) rfl (hb hby d5_12) rfl ?_
  refine g_imul X0 hx (pc' := 15) rfl (hb hby d5_14) ?_
  refine g_normI (z := (0 : Int32)) (by decide) ?_
  refine g_istore X0 hx (pc' := 17) rfl (hb hby d5_15) (l' := #[.val (.ref ta), .val (.int (4 : Int32)), .val (.int (2 : Int32)), .val (.ref ca), .val (.int (0 : Int32)), .val (.int (1 : Int32)), .val (.int (0 : Int32)), .unset, .unset, .unset, .unset, .unset]) rfl ?_
  refine g_iload X0 hx (pc' := 19) rfl (hb hby d5_17) rfl ?_
  refine g_iconst X0 hx (pc' := 20) (z := (1 : Int32)) rfl (hb hby d5_19) rfl ?_
  refine g_iadd X0 hx (pc' := 21) rfl (hb hby d5_20) ?_
  refine g_normI (z := (2 : Int32)) (by decide) ?_
  refine g_istore X0 hx (pc' := 23) rfl (hb hby d5_21) (l' := #[.val (.ref ta), .val (.int (4 : Int32)), .val (.int (2 : Int32)), .val (.ref ca), .val (.int (0 : Int32)), .val (.int (1 : Int32)), .val (.int (0 : Int32)), .val (.int (2 : Int32)), .unset, .unset, .unset, .unset]) rfl ?_
  refine g_iload X0 hx (pc' := 25) rfl (hb hby d5_23) rfl ?_
  refine g_iloadN X0 hx (pc' := 26) rfl (hb hby d5_25) rfl ?_
  refine g_icmpY X0 hx (pcY := 89) (hb hby d5_26) (by decide) (by decide) (show ¬ (2 : Int32) < (2 : Int32) from by decide) ?_
  refine g_aloadN X0 hx (pc' := 90) rfl (hb hby d5_89) rfl rfl ?_
  refine g_iload X0 hx (pc' := 92) rfl (hb hby d5_90) rfl ?_
  refine g_iloadN X0 hx (pc' := 93) rfl (hb hby d5_92) rfl ?_
  refine g_imul X0 hx (pc' := 94) rfl (hb hby d5_93) ?_
  refine g_normI (z := (4 : Int32)) (by decide) ?_
  refine g_iload X0 hx (pc' := 96) rfl (hb hby d5_94) rfl ?_
  refine g_iadd X0 hx (pc' := 97) rfl (hb hby d5_96) ?_
  refine g_normI (z := (5 : Int32)) (by decide) ?_
  refine g_daload X0 hx hZ At (i := 5) (by decide) (show (5 : Nat) < 16 by decide) (v := t5) rfl (pc' := 98) rfl (hb hby d5_97) ?_
  refine g_dstore X0 hx (pc' := 100) rfl (hb hby d5_98) (l' := #[.val (.ref ta), .val (.int (4 : Int32)), .val (.int (2 : Int32)), .val (.ref ca), .val (.int (0 : Int32)), .val (.int (1 : Int32)), .val (.int (0 : Int32)), .val (.double t5), .second, .unset, .unset, .unset]) rfl ?_
  refine g_iconst X0 hx (pc' := 101) (z := (0 : Int32)) rfl (hb hby d5_100) rfl ?_
  refine g_istore X0 hx (pc' := 103) rfl (hb hby d5_101) (l' := #[.val (.ref ta), .val (.int (4 : Int32)), .val (.int (2 : Int32)), .val (.ref ca), .val (.int (0 : Int32)), .val (.int (1 : Int32)), .val (.int (0 : Int32)), .val (.double t5), .second, .val (.int (0 : Int32)), .unset, .unset]) rfl ?_
  refine g_iload X0 hx (pc' := 105) rfl (hb hby d5_103) rfl ?_
  refine g_iload X0 hx (pc' := 107) rfl (hb hby d5_105) rfl ?_
  refine g_icmpY X0 hx (pcY := 128) (hb hby d5_107) (by decide) (by decide) (show ¬ (0 : Int32) < (0 : Int32) from by decide) ?_
  refine g_iincC X0 hx (pc' := 131) (x := (1 : Int32)) (z := (0 : Int32)) rfl (hb hby d5_128) rfl (by decide) (l' := #[.val (.ref ta), .val (.int (4 : Int32)), .val (.int (2 : Int32)), .val (.ref ca), .val (.int (0 : Int32)), .val (.int (0 : Int32)), .val (.int (0 : Int32)), .val (.double t5), .second, .val (.int (0 : Int32)), .unset, .unset]) rfl ?_
  refine g_goto X0 hx (pc' := 5) (hb hby d5_131) (by decide) (by decide) ?_
  refine g_iload X0 hx (pc' := 7) rfl (hb hby d5_5) rfl ?_
  refine g_ifN X0 hx (pcN := 10) (hb hby d5_7) rfl (show ¬ ((0 : Int32) < 0) from by decide) ?_
  refine g_iload X0 hx (pc' := 12) rfl (hb hby d5_10) rfl ?_
  refine g_iload X0 hx (pc' := 14) rfl (hb hby d5_12) rfl ?_
  refine g_imul X0 hx (pc' := 15) rfl (hb hby d5_14) ?_
  refine g_normI (z := (0 : Int32)) (by decide) ?_
  refine g_istore X0 hx (pc' := 17) rfl (hb hby d5_15) (l' := #[.val (.ref ta), .val (.int (4 : Int32)), .val (.int (2 : Int32)), .val (.ref ca), .val (.int (0 : Int32)), .val (.int (0 : Int32)), .val (.int (0 : Int32)), .val (.double t5), .second, .val (.int (0 : Int32)), .unset, .unset]) rfl ?_
  refine g_iload X0 hx (pc' := 19) rfl (hb hby d5_17) rfl ?_
  refine g_iconst X0 hx (pc' := 20) (z := (1 : Int32)) rfl (hb hby d5_19) rfl ?_
  refine g_iadd X0 hx (pc' := 21) rfl (hb hby d5_20) ?_
  refine g_normI (z := (1 : Int32)) (by decide) ?_
  refine g_istore X0 hx (pc' := 23) rfl (hb hby d5_21) (l' := #[.val (.ref ta), .val (.int (4 : Int32)), .val (.int (2 : Int32)), .val (.ref ca), .val (.int (0 : Int32)), .val (.int (0 : Int32)), .val (.int (0 : Int32)), .val (.int (1 : Int32)), .unset, .val (.int (0 : Int32)), .unset, .unset]) rfl ?_
  refine g_iload X0 hx (pc' := 25) rfl (hb hby d5_23) rfl ?_
  refine g_iloadN X0 hx (pc' := 26) rfl (hb hby d5_25) rfl ?_
  refine g_icmpN X0 hx (pcN := 29) (hb hby d5_26) rfl (show ¬ (¬ (1 : Int32) < (2 : Int32)) from by decide) ?_
  refine g_aloadN X0 hx (pc' := 30) rfl (hb hby d5_29) rfl rfl ?_
  refine g_iload X0 hx (pc' := 32) rfl (hb hby d5_30) rfl ?_
  refine g_iloadN X0 hx (pc' := 33) rfl (hb hby d5_32) rfl ?_
  refine g_imul X0 hx (pc' := 34) rfl (hb hby d5_33) ?_
  refine g_normI (z := (0 : Int32)) (by decide) ?_
  refine g_iload X0 hx (pc' := 36) rfl (hb hby d5_34) rfl ?_
  refine g_iadd X0 hx (pc' := 37) rfl (hb hby d5_36) ?_
  refine g_normI (z := (1 : Int32)) (by decide) ?_
  refine g_daload X0 hx hZ At (i := 1) (by decide) (show (1 : Nat) < 16 by decide) (v := t1) rfl (pc' := 38) rfl (hb hby d5_37) ?_
  refine g_dstore X0 hx (pc' := 40) rfl (hb hby d5_38) (l' := #[.val (.ref ta), .val (.int (4 : Int32)), .val (.int (2 : Int32)), .val (.ref ca), .val (.int (0 : Int32)), .val (.int (0 : Int32)), .val (.int (0 : Int32)), .val (.int (1 : Int32)), .val (.double t1), .second, .unset, .unset]) rfl ?_
  refine g_iload X0 hx (pc' := 42) rfl (hb hby d5_40) rfl ?_
  refine g_iload X0 hx (pc' := 44) rfl (hb hby d5_42) rfl ?_
  refine g_imul X0 hx (pc' := 45) rfl (hb hby d5_44) ?_
  refine g_normI (z := (0 : Int32)) (by decide) ?_
  refine g_istore X0 hx (pc' := 47) rfl (hb hby d5_45) (l' := #[.val (.ref ta), .val (.int (4 : Int32)), .val (.int (2 : Int32)), .val (.ref ca), .val (.int (0 : Int32)), .val (.int (0 : Int32)), .val (.int (0 : Int32)), .val (.int (1 : Int32)), .val (.double t1), .second, .val (.int (0 : Int32)), .unset]) rfl ?_
  refine g_iconst X0 hx (pc' := 48) (z := (0 : Int32)) rfl (hb hby d5_47) rfl ?_
  refine g_istore X0 hx (pc' := 50) rfl (hb hby d5_48) (l' := #[.val (.ref ta), .val (.int (4 : Int32)), .val (.int (2 : Int32)), .val (.ref ca), .val (.int (0 : Int32)), .val (.int (0 : Int32)), .val (.int (0 : Int32)), .val (.int (1 : Int32)), .val (.double t1), .second, .val (.int (0 : Int32)), .val (.int (0 : Int32))]) rfl ?_
  refine g_iload X0 hx (pc' := 52) rfl (hb hby d5_50) rfl ?_
  refine g_iload X0 hx (pc' := 54) rfl (hb hby d5_52) rfl ?_
  refine g_icmpY X0 hx (pcY := 83) (hb hby d5_54) (by decide) (by decide) (show ¬ (0 : Int32) < (0 : Int32) from by decide) ?_
  refine g_iincC X0 hx (pc' := 86) (x := (1 : Int32)) (z := (2 : Int32)) rfl (hb hby d5_83) rfl (by decide) (l' := #[.val (.ref ta), .val (.int (4 : Int32)), .val (.int (2 : Int32)), .val (.ref ca), .val (.int (0 : Int32)), .val (.int (0 : Int32)), .val (.int (0 : Int32)), .val (.int (2 : Int32)), .val (.double t1), .second, .val (.int (0 : Int32)), .val (.int (0 : Int32))]) rfl ?_
  refine g_goto X0 hx (pc' := 23) (hb hby d5_86) (by decide) (by decide) ?_
  refine g_iload X0 hx (pc' := 25) rfl (hb hby d5_23) rfl ?_
  refine g_iloadN X0 hx (pc' := 26) rfl (hb hby d5_25) rfl ?_
  refine g_icmpY X0 hx (pcY := 89) (hb hby d5_26) (by decide) (by decide) (show ¬ (2 : Int32) < (2 : Int32) from by decide) ?_
  refine g_aloadN X0 hx (pc' := 90) rfl (hb hby d5_89) rfl rfl ?_
  refine g_iload X0 hx (pc' := 92) rfl (hb hby d5_90) rfl ?_
  refine g_iloadN X0 hx (pc' := 93) rfl (hb hby d5_92) rfl ?_
  refine g_imul X0 hx (pc' := 94) rfl (hb hby d5_93) ?_
  refine g_normI (z := (0 : Int32)) (by decide) ?_
  refine g_iload X0 hx (pc' := 96) rfl (hb hby d5_94) rfl ?_
  refine g_iadd X0 hx (pc' := 97) rfl (hb hby d5_96) ?_
  refine g_normI (z := (0 : Int32)) (by decide) ?_
  refine g_daload X0 hx hZ At (i := 0) (by decide) (show (0 : Nat) < 16 by decide) (v := t0) rfl (pc' := 98) rfl (hb hby d5_97) ?_
  refine g_dstore X0 hx (pc' := 100) rfl (hb hby d5_98) (l' := #[.val (.ref ta), .val (.int (4 : Int32)), .val (.int (2 : Int32)), .val (.ref ca), .val (.int (0 : Int32)), .val (.int (0 : Int32)), .val (.int (0 : Int32)), .val (.double t0), .second, .unset, .val (.int (0 : Int32)), .val (.int (0 : Int32))]) rfl ?_
  refine g_iconst X0 hx (pc' := 101) (z := (0 : Int32)) rfl (hb hby d5_100) rfl ?_
  refine g_istore X0 hx (pc' := 103) rfl (hb hby d5_101) (l' := #[.val (.ref ta), .val (.int (4 : Int32)), .val (.int (2 : Int32)), .val (.ref ca), .val (.int (0 : Int32)), .val (.int (0 : Int32)), .val (.int (0 : Int32)), .val (.double t0), .second, .val (.int (0 : Int32)), .val (.int (0 : Int32)), .val (.int (0 : Int32))]) rfl ?_
  refine g_iload X0 hx (pc' := 105) rfl (hb hby d5_103) rfl ?_
  refine g_iload X0 hx (pc' := 107) rfl (hb hby d5_105) rfl ?_
  refine g_icmpY X0 hx (pcY := 128) (hb hby d5_107) (by decide) (by decide) (show ¬ (0 : Int32) < (0 : Int32) from by decide) ?_
  refine g_iincC X0 hx (pc' := 131) (x := (0 : Int32)) (z := (-1 : Int32)) rfl (hb hby d5_128) rfl (by decide) (l' := #[.val (.ref ta), .val (.int (4 : Int32)), .val (.int (2 : Int32)), .val (.ref ca), .val (.int (0 : Int32)), .val (.int (-1 : Int32)), .val (.int (0 : Int32)), .val (.double t0), .second, .val (.int (0 : Int32)), .val (.int (0 : Int32)), .val (.int (0 : Int32))]) rfl ?_
  refine g_goto X0 hx (pc' := 5) (hb hby d5_131) (by decide) (by decide) ?_
  refine g_iload X0 hx (pc' := 7) rfl (hb hby d5_5) rfl ?_
  refine g_ifY X0 hx (pcY := 134) (hb hby d5_7) (by decide) (by decide) (show (-1 : Int32) < 0 from by decide) ?_
  exact g_retV X0 hx hlk hret (hb hby d5_134) (by decide) (by decide) (⟨rfl, (Keep.refl h0 [ca]), _, Ac, rfl, fun q => absurd q (by decide), fun q => absurd q (by decide), fun q => absurd q (by decide), fun q => absurd q (by decide), fun q => absurd q (by decide), fun q => absurd q (by decide), fun q => absurd q (by decide), fun q => absurd q (by decide), fun q => absurd q (by decide), fun q => absurd q (by decide), fun q => absurd q (by decide), fun q => absurd q (by decide)⟩)
set_option maxRecDepth 65536 in
set_option maxHeartbeats 40000000 in
theorem rm5_2_1 (l : Launch) (Z : State) (a0 : Array Value) (hw : ∀ d ∈ tables_1, d.before a0 Z = true) (ws : List Jvm.Cond) (n0 : Nat) (ta ca : Addr) (t0 : UInt64) (t1 : UInt64) (t2 : UInt64) (t3 : UInt64) (t4 : UInt64) (t5 : UInt64) (t6 : UInt64) (t7 : UInt64) (t8 : UInt64) (t9 : UInt64) (t10 : UInt64) (t11 : UInt64) (t12 : UInt64) (t13 : UInt64) (t14 : UInt64) (t15 : UInt64) (mt0 : Int) (mt1 : Int) (mt2 : Int) (mt5 : Int) (mt6 : Int) (mt10 : Int) (c00 : UInt64) (mc00 : Int) (c10 : UInt64) (mc10 : Int) (c20 : UInt64) (mc20 : Int) (c30 : UInt64) (mc30 : Int) (x00 : Int64) (mx00 : Int) (x01 : Int64) (mx01 : Int) (x02 : Int64) (mx02 : Int) (x10 : Int64) (mx10 : Int) (x11 : Int64) (mx11 : Int) (x12 : Int64) (mx12 : Int) (x20 : Int64) (mx20 : Int) (x21 : Int64) (mx21 : Int) (x22 : Int64) (mx22 : Int) (x30 : Int64) (mx30 : Int) (x31 : Int64) (mx31 : Int) (x32 : Int64) (mx32 : Int) (h0 : Heap) (hn0 : n0 ≤ h0.size) (At : AD Z h0 ta [t0, t1, t2, t3, t4, t5, t6, t7, t8, t9, t10, t11, t12, t13, t14, t15]) (Ac : AD Z h0 ca [c00, c10, c20, c30]) (hne : ta ≠ ca) (hg : n0 ≤ ca) (yt0 : Dy mt0 1074 t0) (bt0 : mt0.natAbs ≤ 128) (yt1 : Dy mt1 1074 t1) (bt1 : mt1.natAbs ≤ 128) (yt2 : Dy mt2 1074 t2) (bt2 : mt2.natAbs ≤ 128) (yt5 : Dy mt5 1074 t5) (bt5 : mt5.natAbs ≤ 128) (yt6 : Dy mt6 1074 t6) (bt6 : mt6.natAbs ≤ 128) (yt10 : Dy mt10 1074 t10) (bt10 : mt10.natAbs ≤ 128) (hz0 : mt0 ≠ 0) (hz5 : mt5 ≠ 0) (hz10 : mt10 ≠ 0) (yc00 : Dy mc00 1074 c00) (bc00 : mc00.natAbs ≤ 49152) (ec00 : mc00 = mt0 * mx00 + mt1 * mx10) (yc10 : Dy mc10 1074 c10) (bc10 : mc10.natAbs ≤ 49152) (ec10 : mc10 = mt5 * mx10) (yc20 : Dy mc20 1074 c20) (bc20 : mc20.natAbs ≤ 49152) (ec20 : mc20 = mx20) (yc30 : Dy mc30 1074 c30) (bc30 : mc30.natAbs ≤ 49152) (ec30 : mc30 = mx30) (yx00 : Dy mx00 1074 (FP.l2d x00)) (bx00 : mx00.natAbs ≤ 128) (yx01 : Dy mx01 1074 (FP.l2d x01)) (bx01 : mx01.natAbs ≤ 128) (yx02 : Dy mx02 1074 (FP.l2d x02)) (bx02 : mx02.natAbs ≤ 128) (yx10 : Dy mx10 1074 (FP.l2d x10)) (bx10 : mx10.natAbs ≤ 128) (yx11 : Dy mx11 1074 (FP.l2d x11)) (bx11 : mx11.natAbs ≤ 128) (yx12 : Dy mx12 1074 (FP.l2d x12)) (bx12 : mx12.natAbs ≤ 128) (yx20 : Dy mx20 1074 (FP.l2d x20)) (bx20 : mx20.natAbs ≤ 128) (yx21 : Dy mx21 1074 (FP.l2d x21)) (bx21 : mx21.natAbs ≤ 128) (yx22 : Dy mx22 1074 (FP.l2d x22)) (bx22 : mx22.natAbs ≤ 128) (yx30 : Dy mx30 1074 (FP.l2d x30)) (bx30 : mx30.natAbs ≤ 128) (yx31 : Dy mx31 1074 (FP.l2d x31)) (bx31 : mx31.natAbs ≤ 128) (yx32 : Dy mx32 1074 (FP.l2d x32)) (bx32 : mx32.natAbs ≤ 128) :
    Con l Z n0 (⟨"com/example/orthogon/orthogon/Triangular", "solveUpper", "([DII[DI)V"⟩ : MethodName) prog_16_method_3_code 12 none ws ({ frames := 0, cells := 0, slots := 0, locals := 0 } : Room) #[(.ref ta), (.int (4 : Int32)), (.int (2 : Int32)), (.ref ca), (.int (1 : Int32))] h0 (fun v h => v = none ∧ Keep h0 h [ca] ∧ ∃ xs, AD Z h ca xs ∧ xs.length = 4 * 1 ∧ (0 < 1 → cmpValue (FP.dcmp (xs.getD (0 * 1 + 0) 0) (FP.l2d x00)) .l = 0) ∧ (1 < 1 → cmpValue (FP.dcmp (xs.getD (0 * 1 + 1) 0) (FP.l2d x01)) .l = 0) ∧ (2 < 1 → cmpValue (FP.dcmp (xs.getD (0 * 1 + 2) 0) (FP.l2d x02)) .l = 0) ∧ (0 < 1 → cmpValue (FP.dcmp (xs.getD (1 * 1 + 0) 0) (FP.l2d x10)) .l = 0) ∧ (1 < 1 → cmpValue (FP.dcmp (xs.getD (1 * 1 + 1) 0) (FP.l2d x11)) .l = 0) ∧ (2 < 1 → cmpValue (FP.dcmp (xs.getD (1 * 1 + 2) 0) (FP.l2d x12)) .l = 0) ∧ (0 < 1 → cmpValue (FP.dcmp (xs.getD (2 * 1 + 0) 0) (FP.l2d x20)) .l = 0) ∧ (1 < 1 → cmpValue (FP.dcmp (xs.getD (2 * 1 + 1) 0) (FP.l2d x21)) .l = 0) ∧ (2 < 1 → cmpValue (FP.dcmp (xs.getD (2 * 1 + 2) 0) (FP.l2d x22)) .l = 0) ∧ (0 < 1 → cmpValue (FP.dcmp (xs.getD (3 * 1 + 0) 0) (FP.l2d x30)) .l = 0) ∧ (1 < 1 → cmpValue (FP.dcmp (xs.getD (3 * 1 + 1) 0) (FP.l2d x31)) .l = 0) ∧ (2 < 1 → cmpValue (FP.dcmp (xs.getD (3 * 1 + 2) 0) (FP.l2d x32)) .l = 0)) := by
  refine con_start (plainFor_of_name (by first | (simp [plainName, overriddenIn]; done) | decide +kernel)) (fr0 := fun m => mkF m 0 #[.val (.ref ta), .val (.int (4 : Int32)), .val (.int (2 : Int32)), .val (.ref ca), .val (.int (1 : Int32)), .unset, .unset, .unset, .unset, .unset, .unset, .unset] []) (fun m => by first | (simp [entryFrame, mkF, argsToLocals, Value.category]; done) | rfl) ?_
  intro p e s m below meth c T0 hx hZ hby hml hown hnm hret hlk X0
  replace hown : s.vm.findClass "com/example/orthogon/orthogon/Triangular" = some m.cls := hown
  replace hml : c.maxLocals = 12 := hml
  refine g_iloadN X0 hx (pc' := 1) rfl (hb hby d5_0) rfl ?_
  refine g_iconst X0 hx (pc' := 2) (z := (1 : Int32)) rfl (hb hby d5_1) rfl ?_
  refine g_isub X0 hx (pc' := 3) rfl (hb hby d5_2) ?_
  refine g_normI (z := (1 : Int32)) (by decide) ?_
  refine g_istore X0 hx (pc' := 5) rfl (hb hby d5_3) (l' := #[.val (.ref ta), .val (.int (4 : Int32)), .val (.int (2 : Int32)), .val (.ref ca), .val (.int (1 : Int32)), .val (.int (1 : Int32)), .unset, .unset, .unset, .unset, .unset, .unset]) rfl ?_
  refine g_iload X0 hx (pc' := 7) rfl (hb hby d5_5) rfl ?_
  refine g_ifN X0 hx (pcN := 10) (hb hby d5_7) rfl (show ¬ ((1 : Int32) < 0) from by decide) ?_
  refine g_iload X0 hx (pc' := 12) rfl (hb hby d5_10) rfl ?_
  refine g_iload X0 hx (pc' := 14) rfl (hb hby d5_12) rfl ?_
  refine g_imul X0 hx (pc' := 15) rfl (hb hby d5_14) ?_
  refine g_normI (z := (1 : Int32)) (by decide) ?_
  refine g_istore X0 hx (pc' := 17) rfl (hb hby d5_15) (l' := #[.val (.ref ta), .val (.int (4 : Int32)), .val (.int (2 : Int32)), .val (.ref ca), .val (.int (1 : Int32)), .val (.int (1 : Int32)), .val (.int (1 : Int32)), .unset, .unset, .unset, .unset, .unset]) rfl ?_
  refine g_iload X0 hx (pc' := 19) rfl (hb hby d5_17) rfl ?_
  refine g_iconst X0 hx (pc' := 20) (z := (1 : Int32)) rfl (hb hby d5_19) rfl ?_
  refine g_iadd X0 hx (pc' := 21) rfl (hb hby d5_20) ?_
  refine g_normI (z := (2 : Int32)) (by decide) ?_
  refine g_istore X0 hx (pc' := 23) rfl (hb hby d5_21) (l' := #[.val (.ref ta), .val (.int (4 : Int32)), .val (.int (2 : Int32)), .val (.ref ca), .val (.int (1 : Int32)), .val (.int (1 : Int32)), .val (.int (1 : Int32)), .val (.int (2 : Int32)), .unset, .unset, .unset, .unset]) rfl ?_
  refine g_iload X0 hx (pc' := 25) rfl (hb hby d5_23) rfl ?_
  refine g_iloadN X0 hx (pc' := 26) rfl (hb hby d5_25) rfl ?_
  refine g_icmpY X0 hx (pcY := 89) (hb hby d5_26) (by decide) (by decide) (show ¬ (2 : Int32) < (2 : Int32) from by decide) ?_
  refine g_aloadN X0 hx (pc' := 90) rfl (hb hby d5_89) rfl rfl ?_
  refine g_iload X0 hx (pc' := 92) rfl (hb hby d5_90) rfl ?_
  refine g_iloadN X0 hx (pc' := 93) rfl (hb hby d5_92) rfl ?_
  refine g_imul X0 hx (pc' := 94) rfl (hb hby d5_93) ?_
  refine g_normI (z := (4 : Int32)) (by decide) ?_
  refine g_iload X0 hx (pc' := 96) rfl (hb hby d5_94) rfl ?_
  refine g_iadd X0 hx (pc' := 97) rfl (hb hby d5_96) ?_
  refine g_normI (z := (5 : Int32)) (by decide) ?_
  refine g_daload X0 hx hZ At (i := 5) (by decide) (show (5 : Nat) < 16 by decide) (v := t5) rfl (pc' := 98) rfl (hb hby d5_97) ?_
  refine g_dstore X0 hx (pc' := 100) rfl (hb hby d5_98) (l' := #[.val (.ref ta), .val (.int (4 : Int32)), .val (.int (2 : Int32)), .val (.ref ca), .val (.int (1 : Int32)), .val (.int (1 : Int32)), .val (.int (1 : Int32)), .val (.double t5), .second, .unset, .unset, .unset]) rfl ?_
  refine g_iconst X0 hx (pc' := 101) (z := (0 : Int32)) rfl (hb hby d5_100) rfl ?_
  refine g_istore X0 hx (pc' := 103) rfl (hb hby d5_101) (l' := #[.val (.ref ta), .val (.int (4 : Int32)), .val (.int (2 : Int32)), .val (.ref ca), .val (.int (1 : Int32)), .val (.int (1 : Int32)), .val (.int (1 : Int32)), .val (.double t5), .second, .val (.int (0 : Int32)), .unset, .unset]) rfl ?_
  refine g_iload X0 hx (pc' := 105) rfl (hb hby d5_103) rfl ?_
  refine g_iload X0 hx (pc' := 107) rfl (hb hby d5_105) rfl ?_
  refine g_icmpN X0 hx (pcN := 110) (hb hby d5_107) rfl (show ¬ (¬ (0 : Int32) < (1 : Int32)) from by decide) ?_
  refine g_aloadN X0 hx (pc' := 111) rfl (hb hby d5_110) rfl rfl ?_
  refine g_iload X0 hx (pc' := 113) rfl (hb hby d5_111) rfl ?_
  refine g_iload X0 hx (pc' := 115) rfl (hb hby d5_113) rfl ?_
  refine g_iadd X0 hx (pc' := 116) rfl (hb hby d5_115) ?_
  refine g_normI (z := (1 : Int32)) (by decide) ?_
  refine g_dup2 X0 hx (pc' := 117) rfl (hb hby d5_116) rfl rfl ?_
  refine g_daload X0 hx hZ Ac (i := 1) (by decide) (show (1 : Nat) < 4 by decide) (v := c10) rfl (pc' := 118) rfl (hb hby d5_117) ?_
  refine g_dload X0 hx (pc' := 120) rfl (hb hby d5_118) rfl ?_
  have q32 : Dy mx10 1074 (FP.ddiv c10 t5) := dy_div yc10 yt5 hz5 (by exact own_g0 ec10) rfl (Nat.lt_of_le_of_lt bx10 (by decide)) (by decide)
  refine g_ddiv X0 hx (pc' := 121) (z := (FP.ddiv c10 t5)) rfl (hb hby d5_120) (dy_noNaN q32) rfl ?_
  refine g_absD (fun d32 hd32 => ?_)
  rw [← hd32] at q32
  refine g_dastore X0 hx hZ Ac (i := 1) (by decide) (show (1 : Nat) < 4 by decide) hg (pc' := 122) rfl (hb hby d5_121) (fun T33 h33 X33 W33 N33 => ?_)
  have f34 := At.other W33 hne
  have f35 := (by have q := (Keep.of_wr W33).1; exact Nat.le_trans hn0 q : n0 ≤ h33.size)
  have f36 := (Keep.refl h0 [ca]).wr W33 (Or.inl (List.mem_of_getElem? (i := 0) rfl))
  have V33 : AD Z h33 ca [c00, d32, c20, c30] := N33
  refine g_iincC X33 hx (pc' := 125) (x := (0 : Int32)) (z := (1 : Int32)) rfl (hb hby d5_122) rfl (by decide) (l' := #[.val (.ref ta), .val (.int (4 : Int32)), .val (.int (2 : Int32)), .val (.ref ca), .val (.int (1 : Int32)), .val (.int (1 : Int32)), .val (.int (1 : Int32)), .val (.double t5), .second, .val (.int (1 : Int32)), .unset, .unset]) rfl ?_
  refine g_goto X33 hx (pc' := 103) (hb hby d5_125) (by decide) (by decide) ?_
  refine g_iload X33 hx (pc' := 105) rfl (hb hby d5_103) rfl ?_
  refine g_iload X33 hx (pc' := 107) rfl (hb hby d5_105) rfl ?_
  refine g_icmpY X33 hx (pcY := 128) (hb hby d5_107) (by decide) (by decide) (show ¬ (1 : Int32) < (1 : Int32) from by decide) ?_
  refine g_iincC X33 hx (pc' := 131) (x := (1 : Int32)) (z := (0 : Int32)) rfl (hb hby d5_128) rfl (by decide) (l' := #[.val (.ref ta), .val (.int (4 : Int32)), .val (.int (2 : Int32)), .val (.ref ca), .val (.int (1 : Int32)), .val (.int (0 : Int32)), .val (.int (1 : Int32)), .val (.double t5), .second, .val (.int (1 : Int32)), .unset, .unset]) rfl ?_
  refine g_goto X33 hx (pc' := 5) (hb hby d5_131) (by decide) (by decide) ?_
  refine g_iload X33 hx (pc' := 7) rfl (hb hby d5_5) rfl ?_
  refine g_ifN X33 hx (pcN := 10) (hb hby d5_7) rfl (show ¬ ((0 : Int32) < 0) from by decide) ?_
  refine g_iload X33 hx (pc' := 12) rfl (hb hby d5_10) rfl ?_
  refine g_iload X33 hx (pc' := 14) rfl (hb hby d5_12) rfl ?_
  refine g_imul X33 hx (pc' := 15) rfl (hb hby d5_14) ?_
  refine g_normI (z := (0 : Int32)) (by decide) ?_
  refine g_istore X33 hx (pc' := 17) rfl (hb hby d5_15) (l' := #[.val (.ref ta), .val (.int (4 : Int32)), .val (.int (2 : Int32)), .val (.ref ca), .val (.int (1 : Int32)), .val (.int (0 : Int32)), .val (.int (0 : Int32)), .val (.double t5), .second, .val (.int (1 : Int32)), .unset, .unset]) rfl ?_
  refine g_iload X33 hx (pc' := 19) rfl (hb hby d5_17) rfl ?_
  refine g_iconst X33 hx (pc' := 20) (z := (1 : Int32)) rfl (hb hby d5_19) rfl ?_
  refine g_iadd X33 hx (pc' := 21) rfl (hb hby d5_20) ?_
  refine g_normI (z := (1 : Int32)) (by decide) ?_
  refine g_istore X33 hx (pc' := 23) rfl (hb hby d5_21) (l' := #[.val (.ref ta), .val (.int (4 : Int32)), .val (.int (2 : Int32)), .val (.ref ca), .val (.int (1 : Int32)), .val (.int (0 : Int32)), .val (.int (0 : Int32)), .val (.int (1 : Int32)), .unset, .val (.int (1 : Int32)), .unset, .unset]) rfl ?_
  refine g_iload X33 hx (pc' := 25) rfl (hb hby d5_23) rfl ?_
  refine g_iloadN X33 hx (pc' := 26) rfl (hb hby d5_25) rfl ?_
  refine g_icmpN X33 hx (pcN := 29) (hb hby d5_26) rfl (show ¬ (¬ (1 : Int32) < (2 : Int32)) from by decide) ?_
  refine g_aloadN X33 hx (pc' := 30) rfl (hb hby d5_29) rfl rfl ?_
  refine g_iload X33 hx (pc' := 32) rfl (hb hby d5_30) rfl ?_
  refine g_iloadN X33 hx (pc' := 33) rfl (hb hby d5_32) rfl ?_
  refine g_imul X33 hx (pc' := 34) rfl (hb hby d5_33) ?_
  refine g_normI (z := (0 : Int32)) (by decide) ?_
  refine g_iload X33 hx (pc' := 36) rfl (hb hby d5_34) rfl ?_
  refine g_iadd X33 hx (pc' := 37) rfl (hb hby d5_36) ?_
  refine g_normI (z := (1 : Int32)) (by decide) ?_
  refine g_daload X33 hx hZ f34 (i := 1) (by decide) (show (1 : Nat) < 16 by decide) (v := t1) rfl (pc' := 38) rfl (hb hby d5_37) ?_
  refine g_dstore X33 hx (pc' := 40) rfl (hb hby d5_38) (l' := #[.val (.ref ta), .val (.int (4 : Int32)), .val (.int (2 : Int32)), .val (.ref ca), .val (.int (1 : Int32)), .val (.int (0 : Int32)), .val (.int (0 : Int32)), .val (.int (1 : Int32)), .val (.double t1), .second, .unset, .unset]) rfl ?_
  refine g_iload X33 hx (pc' := 42) rfl (hb hby d5_40) rfl ?_
  refine g_iload X33 hx (pc' := 44) rfl (hb hby d5_42) rfl ?_
  refine g_imul X33 hx (pc' := 45) rfl (hb hby d5_44) ?_
  refine g_normI (z := (1 : Int32)) (by decide) ?_
  refine g_istore X33 hx (pc' := 47) rfl (hb hby d5_45) (l' := #[.val (.ref ta), .val (.int (4 : Int32)), .val (.int (2 : Int32)), .val (.ref ca), .val (.int (1 : Int32)), .val (.int (0 : Int32)), .val (.int (0 : Int32)), .val (.int (1 : Int32)), .val (.double t1), .second, .val (.int (1 : Int32)), .unset]) rfl ?_
  refine g_iconst X33 hx (pc' := 48) (z := (0 : Int32)) rfl (hb hby d5_47) rfl ?_
  refine g_istore X33 hx (pc' := 50) rfl (hb hby d5_48) (l' := #[.val (.ref ta), .val (.int (4 : Int32)), .val (.int (2 : Int32)), .val (.ref ca), .val (.int (1 : Int32)), .val (.int (0 : Int32)), .val (.int (0 : Int32)), .val (.int (1 : Int32)), .val (.double t1), .second, .val (.int (1 : Int32)), .val (.int (0 : Int32))]) rfl ?_
  refine g_iload X33 hx (pc' := 52) rfl (hb hby d5_50) rfl ?_
  refine g_iload X33 hx (pc' := 54) rfl (hb hby d5_52) rfl ?_
  refine g_icmpN X33 hx (pcN := 57) (hb hby d5_54) rfl (show ¬ (¬ (0 : Int32) < (1 : Int32)) from by decide) ?_
  refine g_aloadN X33 hx (pc' := 58) rfl (hb hby d5_57) rfl rfl ?_
  refine g_iload X33 hx (pc' := 60) rfl (hb hby d5_58) rfl ?_
  refine g_iload X33 hx (pc' := 62) rfl (hb hby d5_60) rfl ?_
  refine g_iadd X33 hx (pc' := 63) rfl (hb hby d5_62) ?_
  refine g_normI (z := (0 : Int32)) (by decide) ?_
  refine g_dup2 X33 hx (pc' := 64) rfl (hb hby d5_63) rfl rfl ?_
  refine g_daload X33 hx hZ V33 (i := 0) (by decide) (show (0 : Nat) < 4 by decide) (v := c00) rfl (pc' := 65) rfl (hb hby d5_64) ?_
  refine g_dload X33 hx (pc' := 67) rfl (hb hby d5_65) rfl ?_
  refine g_aloadN X33 hx (pc' := 68) rfl (hb hby d5_67) rfl rfl ?_
  refine g_iload X33 hx (pc' := 70) rfl (hb hby d5_68) rfl ?_
  refine g_iload X33 hx (pc' := 72) rfl (hb hby d5_70) rfl ?_
  refine g_iadd X33 hx (pc' := 73) rfl (hb hby d5_72) ?_
  refine g_normI (z := (1 : Int32)) (by decide) ?_
  refine g_daload X33 hx hZ V33 (i := 1) (by decide) (show (1 : Nat) < 4 by decide) (v := d32) rfl (pc' := 74) rfl (hb hby d5_73) ?_
  have q37 : Dy (mt1 * mx10) 1074 (FP.dmul t1 d32) := dy_mul yt1 q32 (by decide) (own_mb bt1 bx10 (by decide)) (by decide)
  refine g_dmul X33 hx (pc' := 75) (z := (FP.dmul t1 d32)) rfl (hb hby d5_74) (dy_noNaN q37) rfl ?_
  refine g_absD (fun d37 hd37 => ?_)
  rw [← hd37] at q37
  obtain ⟨n37, en37⟩ : ∃ z : Int, z = mt1 * mx10 := ⟨_, rfl⟩
  rw [← en37] at q37
  have b37 : n37.natAbs ≤ 16384 := by rw [en37, Int.natAbs_mul]; exact Nat.le_trans (Nat.mul_le_mul bt1 bx10) (by decide)
  have q38 : Dy (mc00 - n37) 1074 (FP.dsub c00 d37) := dy_sub yc00 q37 (own_subb bc00 b37 (by decide)) (by decide)
  refine g_dsub X33 hx (pc' := 76) (z := (FP.dsub c00 d37)) rfl (hb hby d5_75) (dy_noNaN q38) rfl ?_
  refine g_absD (fun d38 hd38 => ?_)
  rw [← hd38] at q38
  obtain ⟨n38, en38⟩ : ∃ z : Int, z = mc00 - n37 := ⟨_, rfl⟩
  rw [← en38] at q38
  have b38 : n38.natAbs ≤ 65536 := by rw [en38]; exact Nat.le_trans (own_subl bc00 b37) (by decide)
  refine g_dastore X33 hx hZ V33 (i := 0) (by decide) (show (0 : Nat) < 4 by decide) hg (pc' := 77) rfl (hb hby d5_76) (fun T39 h39 X39 W39 N39 => ?_)
  have f40 := f34.other W39 hne
  have f41 := (by have q := (Keep.of_wr W39).1; exact Nat.le_trans f35 q : n0 ≤ h39.size)
  have f42 := f36.wr W39 (Or.inl (List.mem_of_getElem? (i := 0) rfl))
  have V39 : AD Z h39 ca [d38, d32, c20, c30] := N39
  refine g_iincC X39 hx (pc' := 80) (x := (0 : Int32)) (z := (1 : Int32)) rfl (hb hby d5_77) rfl (by decide) (l' := #[.val (.ref ta), .val (.int (4 : Int32)), .val (.int (2 : Int32)), .val (.ref ca), .val (.int (1 : Int32)), .val (.int (0 : Int32)), .val (.int (0 : Int32)), .val (.int (1 : Int32)), .val (.double t1), .second, .val (.int (1 : Int32)), .val (.int (1 : Int32))]) rfl ?_
  refine g_goto X39 hx (pc' := 50) (hb hby d5_80) (by decide) (by decide) ?_
  refine g_iload X39 hx (pc' := 52) rfl (hb hby d5_50) rfl ?_
  refine g_iload X39 hx (pc' := 54) rfl (hb hby d5_52) rfl ?_
  refine g_icmpY X39 hx (pcY := 83) (hb hby d5_54) (by decide) (by decide) (show ¬ (1 : Int32) < (1 : Int32) from by decide) ?_
  refine g_iincC X39 hx (pc' := 86) (x := (1 : Int32)) (z := (2 : Int32)) rfl (hb hby d5_83) rfl (by decide) (l' := #[.val (.ref ta), .val (.int (4 : Int32)), .val (.int (2 : Int32)), .val (.ref ca), .val (.int (1 : Int32)), .val (.int (0 : Int32)), .val (.int (0 : Int32)), .val (.int (2 : Int32)), .val (.double t1), .second, .val (.int (1 : Int32)), .val (.int (1 : Int32))]) rfl ?_
  refine g_goto X39 hx (pc' := 23) (hb hby d5_86) (by decide) (by decide) ?_
  refine g_iload X39 hx (pc' := 25) rfl (hb hby d5_23) rfl ?_
  refine g_iloadN X39 hx (pc' := 26) rfl (hb hby d5_25) rfl ?_
  refine g_icmpY X39 hx (pcY := 89) (hb hby d5_26) (by decide) (by decide) (show ¬ (2 : Int32) < (2 : Int32) from by decide) ?_
  refine g_aloadN X39 hx (pc' := 90) rfl (hb hby d5_89) rfl rfl ?_
  refine g_iload X39 hx (pc' := 92) rfl (hb hby d5_90) rfl ?_
  refine g_iloadN X39 hx (pc' := 93) rfl (hb hby d5_92) rfl ?_
  refine g_imul X39 hx (pc' := 94) rfl (hb hby d5_93) ?_
  refine g_normI (z := (0 : Int32)) (by decide) ?_
  refine g_iload X39 hx (pc' := 96) rfl (hb hby d5_94) rfl ?_
  refine g_iadd X39 hx (pc' := 97) rfl (hb hby d5_96) ?_
  refine g_normI (z := (0 : Int32)) (by decide) ?_
  refine g_daload X39 hx hZ f40 (i := 0) (by decide) (show (0 : Nat) < 16 by decide) (v := t0) rfl (pc' := 98) rfl (hb hby d5_97) ?_
  refine g_dstore X39 hx (pc' := 100) rfl (hb hby d5_98) (l' := #[.val (.ref ta), .val (.int (4 : Int32)), .val (.int (2 : Int32)), .val (.ref ca), .val (.int (1 : Int32)), .val (.int (0 : Int32)), .val (.int (0 : Int32)), .val (.double t0), .second, .unset, .val (.int (1 : Int32)), .val (.int (1 : Int32))]) rfl ?_
  refine g_iconst X39 hx (pc' := 101) (z := (0 : Int32)) rfl (hb hby d5_100) rfl ?_
  refine g_istore X39 hx (pc' := 103) rfl (hb hby d5_101) (l' := #[.val (.ref ta), .val (.int (4 : Int32)), .val (.int (2 : Int32)), .val (.ref ca), .val (.int (1 : Int32)), .val (.int (0 : Int32)), .val (.int (0 : Int32)), .val (.double t0), .second, .val (.int (0 : Int32)), .val (.int (1 : Int32)), .val (.int (1 : Int32))]) rfl ?_
  refine g_iload X39 hx (pc' := 105) rfl (hb hby d5_103) rfl ?_
  refine g_iload X39 hx (pc' := 107) rfl (hb hby d5_105) rfl ?_
  refine g_icmpN X39 hx (pcN := 110) (hb hby d5_107) rfl (show ¬ (¬ (0 : Int32) < (1 : Int32)) from by decide) ?_
  refine g_aloadN X39 hx (pc' := 111) rfl (hb hby d5_110) rfl rfl ?_
  refine g_iload X39 hx (pc' := 113) rfl (hb hby d5_111) rfl ?_
  refine g_iload X39 hx (pc' := 115) rfl (hb hby d5_113) rfl ?_
  refine g_iadd X39 hx (pc' := 116) rfl (hb hby d5_115) ?_
  refine g_normI (z := (0 : Int32)) (by decide) ?_
  refine g_dup2 X39 hx (pc' := 117) rfl (hb hby d5_116) rfl rfl ?_
  refine g_daload X39 hx hZ V39 (i := 0) (by decide) (show (0 : Nat) < 4 by decide) (v := d38) rfl (pc' := 118) rfl (hb hby d5_117) ?_
  refine g_dload X39 hx (pc' := 120) rfl (hb hby d5_118) rfl ?_
  have q43 : Dy mx00 1074 (FP.ddiv d38 t0) := dy_div q38 yt0 hz0 (by rw [en38, en37]; exact own_g1 ec00) rfl (Nat.lt_of_le_of_lt bx00 (by decide)) (by decide)
  refine g_ddiv X39 hx (pc' := 121) (z := (FP.ddiv d38 t0)) rfl (hb hby d5_120) (dy_noNaN q43) rfl ?_
  refine g_absD (fun d43 hd43 => ?_)
  rw [← hd43] at q43
  refine g_dastore X39 hx hZ V39 (i := 0) (by decide) (show (0 : Nat) < 4 by decide) hg (pc' := 122) rfl (hb hby d5_121) (fun T44 h44 X44 W44 N44 => ?_)
  have f45 := f40.other W44 hne
  have f46 := (by have q := (Keep.of_wr W44).1; exact Nat.le_trans f41 q : n0 ≤ h44.size)
  have f47 := f42.wr W44 (Or.inl (List.mem_of_getElem? (i := 0) rfl))
  have V44 : AD Z h44 ca [d43, d32, c20, c30] := N44
  refine g_iincC X44 hx (pc' := 125) (x := (0 : Int32)) (z := (1 : Int32)) rfl (hb hby d5_122) rfl (by decide) (l' := #[.val (.ref ta), .val (.int (4 : Int32)), .val (.int (2 : Int32)), .val (.ref ca), .val (.int (1 : Int32)), .val (.int (0 : Int32)), .val (.int (0 : Int32)), .val (.double t0), .second, .val (.int (1 : Int32)), .val (.int (1 : Int32)), .val (.int (1 : Int32))]) rfl ?_
  refine g_goto X44 hx (pc' := 103) (hb hby d5_125) (by decide) (by decide) ?_
  refine g_iload X44 hx (pc' := 105) rfl (hb hby d5_103) rfl ?_
  refine g_iload X44 hx (pc' := 107) rfl (hb hby d5_105) rfl ?_
  refine g_icmpY X44 hx (pcY := 128) (hb hby d5_107) (by decide) (by decide) (show ¬ (1 : Int32) < (1 : Int32) from by decide) ?_
  refine g_iincC X44 hx (pc' := 131) (x := (0 : Int32)) (z := (-1 : Int32)) rfl (hb hby d5_128) rfl (by decide) (l' := #[.val (.ref ta), .val (.int (4 : Int32)), .val (.int (2 : Int32)), .val (.ref ca), .val (.int (1 : Int32)), .val (.int (-1 : Int32)), .val (.int (0 : Int32)), .val (.double t0), .second, .val (.int (1 : Int32)), .val (.int (1 : Int32)), .val (.int (1 : Int32))]) rfl ?_
  refine g_goto X44 hx (pc' := 5) (hb hby d5_131) (by decide) (by decide) ?_
  refine g_iload X44 hx (pc' := 7) rfl (hb hby d5_5) rfl ?_
  refine g_ifY X44 hx (pcY := 134) (hb hby d5_7) (by decide) (by decide) (show (-1 : Int32) < 0 from by decide) ?_
  exact g_retV X44 hx hlk hret (hb hby d5_134) (by decide) (by decide) (⟨rfl, f47, _, V44, rfl, fun _ => own_dyeq q43 yx00 rfl, fun q => absurd q (by decide), fun q => absurd q (by decide), fun _ => own_dyeq q32 yx10 rfl, fun q => absurd q (by decide), fun q => absurd q (by decide), fun _ => own_dyeq yc20 yx20 ec20, fun q => absurd q (by decide), fun q => absurd q (by decide), fun _ => own_dyeq yc30 yx30 ec30, fun q => absurd q (by decide), fun q => absurd q (by decide)⟩)
set_option maxRecDepth 65536 in
set_option maxHeartbeats 40000000 in
theorem rm5_2_2 (l : Launch) (Z : State) (a0 : Array Value) (hw : ∀ d ∈ tables_1, d.before a0 Z = true) (ws : List Jvm.Cond) (n0 : Nat) (ta ca : Addr) (t0 : UInt64) (t1 : UInt64) (t2 : UInt64) (t3 : UInt64) (t4 : UInt64) (t5 : UInt64) (t6 : UInt64) (t7 : UInt64) (t8 : UInt64) (t9 : UInt64) (t10 : UInt64) (t11 : UInt64) (t12 : UInt64) (t13 : UInt64) (t14 : UInt64) (t15 : UInt64) (mt0 : Int) (mt1 : Int) (mt2 : Int) (mt5 : Int) (mt6 : Int) (mt10 : Int) (c00 : UInt64) (mc00 : Int) (c01 : UInt64) (mc01 : Int) (c10 : UInt64) (mc10 : Int) (c11 : UInt64) (mc11 : Int) (c20 : UInt64) (mc20 : Int) (c21 : UInt64) (mc21 : Int) (c30 : UInt64) (mc30 : Int) (c31 : UInt64) (mc31 : Int) (x00 : Int64) (mx00 : Int) (x01 : Int64) (mx01 : Int) (x02 : Int64) (mx02 : Int) (x10 : Int64) (mx10 : Int) (x11 : Int64) (mx11 : Int) (x12 : Int64) (mx12 : Int) (x20 : Int64) (mx20 : Int) (x21 : Int64) (mx21 : Int) (x22 : Int64) (mx22 : Int) (x30 : Int64) (mx30 : Int) (x31 : Int64) (mx31 : Int) (x32 : Int64) (mx32 : Int) (h0 : Heap) (hn0 : n0 ≤ h0.size) (At : AD Z h0 ta [t0, t1, t2, t3, t4, t5, t6, t7, t8, t9, t10, t11, t12, t13, t14, t15]) (Ac : AD Z h0 ca [c00, c01, c10, c11, c20, c21, c30, c31]) (hne : ta ≠ ca) (hg : n0 ≤ ca) (yt0 : Dy mt0 1074 t0) (bt0 : mt0.natAbs ≤ 128) (yt1 : Dy mt1 1074 t1) (bt1 : mt1.natAbs ≤ 128) (yt2 : Dy mt2 1074 t2) (bt2 : mt2.natAbs ≤ 128) (yt5 : Dy mt5 1074 t5) (bt5 : mt5.natAbs ≤ 128) (yt6 : Dy mt6 1074 t6) (bt6 : mt6.natAbs ≤ 128) (yt10 : Dy mt10 1074 t10) (bt10 : mt10.natAbs ≤ 128) (hz0 : mt0 ≠ 0) (hz5 : mt5 ≠ 0) (hz10 : mt10 ≠ 0) (yc00 : Dy mc00 1074 c00) (bc00 : mc00.natAbs ≤ 49152) (ec00 : mc00 = mt0 * mx00 + mt1 * mx10) (yc01 : Dy mc01 1074 c01) (bc01 : mc01.natAbs ≤ 49152) (ec01 : mc01 = mt0 * mx01 + mt1 * mx11) (yc10 : Dy mc10 1074 c10) (bc10 : mc10.natAbs ≤ 49152) (ec10 : mc10 = mt5 * mx10) (yc11 : Dy mc11 1074 c11) (bc11 : mc11.natAbs ≤ 49152) (ec11 : mc11 = mt5 * mx11) (yc20 : Dy mc20 1074 c20) (bc20 : mc20.natAbs ≤ 49152) (ec20 : mc20 = mx20) (yc21 : Dy mc21 1074 c21) (bc21 : mc21.natAbs ≤ 49152) (ec21 : mc21 = mx21) (yc30 : Dy mc30 1074 c30) (bc30 : mc30.natAbs ≤ 49152) (ec30 : mc30 = mx30) (yc31 : Dy mc31 1074 c31) (bc31 : mc31.natAbs ≤ 49152) (ec31 : mc31 = mx31) (yx00 : Dy mx00 1074 (FP.l2d x00)) (bx00 : mx00.natAbs ≤ 128) (yx01 : Dy mx01 1074 (FP.l2d x01)) (bx01 : mx01.natAbs ≤ 128) (yx02 : Dy mx02 1074 (FP.l2d x02)) (bx02 : mx02.natAbs ≤ 128) (yx10 : Dy mx10 1074 (FP.l2d x10)) (bx10 : mx10.natAbs ≤ 128) (yx11 : Dy mx11 1074 (FP.l2d x11)) (bx11 : mx11.natAbs ≤ 128) (yx12 : Dy mx12 1074 (FP.l2d x12)) (bx12 : mx12.natAbs ≤ 128) (yx20 : Dy mx20 1074 (FP.l2d x20)) (bx20 : mx20.natAbs ≤ 128) (yx21 : Dy mx21 1074 (FP.l2d x21)) (bx21 : mx21.natAbs ≤ 128) (yx22 : Dy mx22 1074 (FP.l2d x22)) (bx22 : mx22.natAbs ≤ 128) (yx30 : Dy mx30 1074 (FP.l2d x30)) (bx30 : mx30.natAbs ≤ 128) (yx31 : Dy mx31 1074 (FP.l2d x31)) (bx31 : mx31.natAbs ≤ 128) (yx32 : Dy mx32 1074 (FP.l2d x32)) (bx32 : mx32.natAbs ≤ 128) :
    Con l Z n0 (⟨"com/example/orthogon/orthogon/Triangular", "solveUpper", "([DII[DI)V"⟩ : MethodName) prog_16_method_3_code 12 none ws ({ frames := 0, cells := 0, slots := 0, locals := 0 } : Room) #[(.ref ta), (.int (4 : Int32)), (.int (2 : Int32)), (.ref ca), (.int (2 : Int32))] h0 (fun v h => v = none ∧ Keep h0 h [ca] ∧ ∃ xs, AD Z h ca xs ∧ xs.length = 4 * 2 ∧ (0 < 2 → cmpValue (FP.dcmp (xs.getD (0 * 2 + 0) 0) (FP.l2d x00)) .l = 0) ∧ (1 < 2 → cmpValue (FP.dcmp (xs.getD (0 * 2 + 1) 0) (FP.l2d x01)) .l = 0) ∧ (2 < 2 → cmpValue (FP.dcmp (xs.getD (0 * 2 + 2) 0) (FP.l2d x02)) .l = 0) ∧ (0 < 2 → cmpValue (FP.dcmp (xs.getD (1 * 2 + 0) 0) (FP.l2d x10)) .l = 0) ∧ (1 < 2 → cmpValue (FP.dcmp (xs.getD (1 * 2 + 1) 0) (FP.l2d x11)) .l = 0) ∧ (2 < 2 → cmpValue (FP.dcmp (xs.getD (1 * 2 + 2) 0) (FP.l2d x12)) .l = 0) ∧ (0 < 2 → cmpValue (FP.dcmp (xs.getD (2 * 2 + 0) 0) (FP.l2d x20)) .l = 0) ∧ (1 < 2 → cmpValue (FP.dcmp (xs.getD (2 * 2 + 1) 0) (FP.l2d x21)) .l = 0) ∧ (2 < 2 → cmpValue (FP.dcmp (xs.getD (2 * 2 + 2) 0) (FP.l2d x22)) .l = 0) ∧ (0 < 2 → cmpValue (FP.dcmp (xs.getD (3 * 2 + 0) 0) (FP.l2d x30)) .l = 0) ∧ (1 < 2 → cmpValue (FP.dcmp (xs.getD (3 * 2 + 1) 0) (FP.l2d x31)) .l = 0) ∧ (2 < 2 → cmpValue (FP.dcmp (xs.getD (3 * 2 + 2) 0) (FP.l2d x32)) .l = 0)) := by
  refine con_start (plainFor_of_name (by first | (simp [plainName, overriddenIn]; done) | decide +kernel)) (fr0 := fun m => mkF m 0 #[.val (.ref ta), .val (.int (4 : Int32)), .val (.int (2 : Int32)), .val (.ref ca), .val (.int (2 : Int32)), .unset, .unset, .unset, .unset, .unset, .unset, .unset] []) (fun m => by first | (simp [entryFrame, mkF, argsToLocals, Value.category]; done) | rfl) ?_
  intro p e s m below meth c T0 hx hZ hby hml hown hnm hret hlk X0
  replace hown : s.vm.findClass "com/example/orthogon/orthogon/Triangular" = some m.cls := hown
  replace hml : c.maxLocals = 12 := hml
  refine g_iloadN X0 hx (pc' := 1) rfl (hb hby d5_0) rfl ?_
  refine g_iconst X0 hx (pc' := 2) (z := (1 : Int32)) rfl (hb hby d5_1) rfl ?_
  refine g_isub X0 hx (pc' := 3) rfl (hb hby d5_2) ?_
  refine g_normI (z := (1 : Int32)) (by decide) ?_
  refine g_istore X0 hx (pc' := 5) rfl (hb hby d5_3) (l' := #[.val (.ref ta), .val (.int (4 : Int32)), .val (.int (2 : Int32)), .val (.ref ca), .val (.int (2 : Int32)), .val (.int (1 : Int32)), .unset, .unset, .unset, .unset, .unset, .unset]) rfl ?_
  refine g_iload X0 hx (pc' := 7) rfl (hb hby d5_5) rfl ?_
  refine g_ifN X0 hx (pcN := 10) (hb hby d5_7) rfl (show ¬ ((1 : Int32) < 0) from by decide) ?_
  refine g_iload X0 hx (pc' := 12) rfl (hb hby d5_10) rfl ?_
  refine g_iload X0 hx (pc' := 14) rfl (hb hby d5_12) rfl ?_
  refine g_imul X0 hx (pc' := 15) rfl (hb hby d5_14) ?_
  refine g_normI (z := (2 : Int32)) (by decide) ?_
  refine g_istore X0 hx (pc' := 17) rfl (hb hby d5_15) (l' := #[.val (.ref ta), .val (.int (4 : Int32)), .val (.int (2 : Int32)), .val (.ref ca), .val (.int (2 : Int32)), .val (.int (1 : Int32)), .val (.int (2 : Int32)), .unset, .unset, .unset, .unset, .unset]) rfl ?_
  refine g_iload X0 hx (pc' := 19) rfl (hb hby d5_17) rfl ?_
  refine g_iconst X0 hx (pc' := 20) (z := (1 : Int32)) rfl (hb hby d5_19) rfl ?_
  refine g_iadd X0 hx (pc' := 21) rfl (hb hby d5_20) ?_
  refine g_normI (z := (2 : Int32)) (by decide) ?_
  refine g_istore X0 hx (pc' := 23) rfl (hb hby d5_21) (l' := #[.val (.ref ta), .val (.int (4 : Int32)), .val (.int (2 : Int32)), .val (.ref ca), .val (.int (2 : Int32)), .val (.int (1 : Int32)), .val (.int (2 : Int32)), .val (.int (2 : Int32)), .unset, .unset, .unset, .unset]) rfl ?_
  refine g_iload X0 hx (pc' := 25) rfl (hb hby d5_23) rfl ?_
  refine g_iloadN X0 hx (pc' := 26) rfl (hb hby d5_25) rfl ?_
  refine g_icmpY X0 hx (pcY := 89) (hb hby d5_26) (by decide) (by decide) (show ¬ (2 : Int32) < (2 : Int32) from by decide) ?_
  refine g_aloadN X0 hx (pc' := 90) rfl (hb hby d5_89) rfl rfl ?_
  refine g_iload X0 hx (pc' := 92) rfl (hb hby d5_90) rfl ?_
  refine g_iloadN X0 hx (pc' := 93) rfl (hb hby d5_92) rfl ?_
  refine g_imul X0 hx (pc' := 94) rfl (hb hby d5_93) ?_
  refine g_normI (z := (4 : Int32)) (by decide) ?_
  refine g_iload X0 hx (pc' := 96) rfl (hb hby d5_94) rfl ?_
  refine g_iadd X0 hx (pc' := 97) rfl (hb hby d5_96) ?_
  refine g_normI (z := (5 : Int32)) (by decide) ?_
  refine g_daload X0 hx hZ At (i := 5) (by decide) (show (5 : Nat) < 16 by decide) (v := t5) rfl (pc' := 98) rfl (hb hby d5_97) ?_
  refine g_dstore X0 hx (pc' := 100) rfl (hb hby d5_98) (l' := #[.val (.ref ta), .val (.int (4 : Int32)), .val (.int (2 : Int32)), .val (.ref ca), .val (.int (2 : Int32)), .val (.int (1 : Int32)), .val (.int (2 : Int32)), .val (.double t5), .second, .unset, .unset, .unset]) rfl ?_
  refine g_iconst X0 hx (pc' := 101) (z := (0 : Int32)) rfl (hb hby d5_100) rfl ?_
  refine g_istore X0 hx (pc' := 103) rfl (hb hby d5_101) (l' := #[.val (.ref ta), .val (.int (4 : Int32)), .val (.int (2 : Int32)), .val (.ref ca), .val (.int (2 : Int32)), .val (.int (1 : Int32)), .val (.int (2 : Int32)), .val (.double t5), .second, .val (.int (0 : Int32)), .unset, .unset]) rfl ?_
  refine g_iload X0 hx (pc' := 105) rfl (hb hby d5_103) rfl ?_
  refine g_iload X0 hx (pc' := 107) rfl (hb hby d5_105) rfl ?_
  refine g_icmpN X0 hx (pcN := 110) (hb hby d5_107) rfl (show ¬ (¬ (0 : Int32) < (2 : Int32)) from by decide) ?_
  refine g_aloadN X0 hx (pc' := 111) rfl (hb hby d5_110) rfl rfl ?_
  refine g_iload X0 hx (pc' := 113) rfl (hb hby d5_111) rfl ?_
  refine g_iload X0 hx (pc' := 115) rfl (hb hby d5_113) rfl ?_
  refine g_iadd X0 hx (pc' := 116) rfl (hb hby d5_115) ?_
  refine g_normI (z := (2 : Int32)) (by decide) ?_
  refine g_dup2 X0 hx (pc' := 117) rfl (hb hby d5_116) rfl rfl ?_
  refine g_daload X0 hx hZ Ac (i := 2) (by decide) (show (2 : Nat) < 8 by decide) (v := c10) rfl (pc' := 118) rfl (hb hby d5_117) ?_
  refine g_dload X0 hx (pc' := 120) rfl (hb hby d5_118) rfl ?_
  have q48 : Dy mx10 1074 (FP.ddiv c10 t5) := dy_div yc10 yt5 hz5 (by exact own_g0 ec10) rfl (Nat.lt_of_le_of_lt bx10 (by decide)) (by decide)
  refine g_ddiv X0 hx (pc' := 121) (z := (FP.ddiv c10 t5)) rfl (hb hby d5_120) (dy_noNaN q48) rfl ?_
  refine g_absD (fun d48 hd48 => ?_)
  rw [← hd48] at q48
  refine g_dastore X0 hx hZ Ac (i := 2) (by decide) (show (2 : Nat) < 8 by decide) hg (pc' := 122) rfl (hb hby d5_121) (fun T49 h49 X49 W49 N49 => ?_)
  have f50 := At.other W49 hne
  have f51 := (by have q := (Keep.of_wr W49).1; exact Nat.le_trans hn0 q : n0 ≤ h49.size)
  have f52 := (Keep.refl h0 [ca]).wr W49 (Or.inl (List.mem_of_getElem? (i := 0) rfl))
  have V49 : AD Z h49 ca [c00, c01, d48, c11, c20, c21, c30, c31] := N49
  refine g_iincC X49 hx (pc' := 125) (x := (0 : Int32)) (z := (1 : Int32)) rfl (hb hby d5_122) rfl (by decide) (l' := #[.val (.ref ta), .val (.int (4 : Int32)), .val (.int (2 : Int32)), .val (.ref ca), .val (.int (2 : Int32)), .val (.int (1 : Int32)), .val (.int (2 : Int32)), .val (.double t5), .second, .val (.int (1 : Int32)), .unset, .unset]) rfl ?_
  refine g_goto X49 hx (pc' := 103) (hb hby d5_125) (by decide) (by decide) ?_
  refine g_iload X49 hx (pc' := 105) rfl (hb hby d5_103) rfl ?_
  refine g_iload X49 hx (pc' := 107) rfl (hb hby d5_105) rfl ?_
  refine g_icmpN X49 hx (pcN := 110) (hb hby d5_107) rfl (show ¬ (¬ (1 : Int32) < (2 : Int32)) from by decide) ?_
  refine g_aloadN X49 hx (pc' := 111) rfl (hb hby d5_110) rfl rfl ?_
  refine g_iload X49 hx (pc' := 113) rfl (hb hby d5_111) rfl ?_
  refine g_iload X49 hx (pc' := 115) rfl (hb hby d5_113) rfl ?_
  refine g_iadd X49 hx (pc' := 116) rfl (hb hby d5_115) ?_
  refine g_normI (z := (3 : Int32)) (by decide) ?_
  refine g_dup2 X49 hx (pc' := 117) rfl (hb hby d5_116) rfl rfl ?_
  refine g_daload X49 hx hZ V49 (i := 3) (by decide) (show (3 : Nat) < 8 by decide) (v := c11) rfl (pc' := 118) rfl (hb hby d5_117) ?_
  refine g_dload X49 hx (pc' := 120) rfl (hb hby d5_118) rfl ?_
  have q53 : Dy mx11 1074 (FP.ddiv c11 t5) := dy_div yc11 yt5 hz5 (by exact own_g0 ec11) rfl (Nat.lt_of_le_of_lt bx11 (by decide)) (by decide)
  refine g_ddiv X49 hx (pc' := 121) (z := (FP.ddiv c11 t5)) rfl (hb hby d5_120) (dy_noNaN q53) rfl ?_
  refine g_absD (fun d53 hd53 => ?_)
  rw [← hd53] at q53
  refine g_dastore X49 hx hZ V49 (i := 3) (by decide) (show (3 : Nat) < 8 by decide) hg (pc' := 122) rfl (hb hby d5_121) (fun T54 h54 X54 W54 N54 => ?_)
  have f55 := f50.other W54 hne
  have f56 := (by have q := (Keep.of_wr W54).1; exact Nat.le_trans f51 q : n0 ≤ h54.size)
  have f57 := f52.wr W54 (Or.inl (List.mem_of_getElem? (i := 0) rfl))
  have V54 : AD Z h54 ca [c00, c01, d48, d53, c20, c21, c30, c31] := N54
  refine g_iincC X54 hx (pc' := 125) (x := (1 : Int32)) (z := (2 : Int32)) rfl (hb hby d5_122) rfl (by decide) (l' := #[.val (.ref ta), .val (.int (4 : Int32)), .val (.int (2 : Int32)), .val (.ref ca), .val (.int (2 : Int32)), .val (.int (1 : Int32)), .val (.int (2 : Int32)), .val (.double t5), .second, .val (.int (2 : Int32)), .unset, .unset]) rfl ?_
  refine g_goto X54 hx (pc' := 103) (hb hby d5_125) (by decide) (by decide) ?_
  refine g_iload X54 hx (pc' := 105) rfl (hb hby d5_103) rfl ?_
  refine g_iload X54 hx (pc' := 107) rfl (hb hby d5_105) rfl ?_
  refine g_icmpY X54 hx (pcY := 128) (hb hby d5_107) (by decide) (by decide) (show ¬ (2 : Int32) < (2 : Int32) from by decide) ?_
  refine g_iincC X54 hx (pc' := 131) (x := (1 : Int32)) (z := (0 : Int32)) rfl (hb hby d5_128) rfl (by decide) (l' := #[.val (.ref ta), .val (.int (4 : Int32)), .val (.int (2 : Int32)), .val (.ref ca), .val (.int (2 : Int32)), .val (.int (0 : Int32)), .val (.int (2 : Int32)), .val (.double t5), .second, .val (.int (2 : Int32)), .unset, .unset]) rfl ?_
  refine g_goto X54 hx (pc' := 5) (hb hby d5_131) (by decide) (by decide) ?_
  refine g_iload X54 hx (pc' := 7) rfl (hb hby d5_5) rfl ?_
  refine g_ifN X54 hx (pcN := 10) (hb hby d5_7) rfl (show ¬ ((0 : Int32) < 0) from by decide) ?_
  refine g_iload X54 hx (pc' := 12) rfl (hb hby d5_10) rfl ?_
  refine g_iload X54 hx (pc' := 14) rfl (hb hby d5_12) rfl ?_
  refine g_imul X54 hx (pc' := 15) rfl (hb hby d5_14) ?_
  refine g_normI (z := (0 : Int32)) (by decide) ?_
  refine g_istore X54 hx (pc' := 17) rfl (hb hby d5_15) (l' := #[.val (.ref ta), .val (.int (4 : Int32)), .val (.int (2 : Int32)), .val (.ref ca), .val (.int (2 : Int32)), .val (.int (0 : Int32)), .val (.int (0 : Int32)), .val (.double t5), .second, .val (.int (2 : Int32)), .unset, .unset]) rfl ?_
  refine g_iload X54 hx (pc' := 19) rfl (hb hby d5_17) rfl ?_
  refine g_iconst X54 hx (pc' := 20) (z := (1 : Int32)) rfl (hb hby d5_19) rfl ?_
  refine g_iadd X54 hx (pc' := 21) rfl (hb hby d5_20) ?_
  refine g_normI (z := (1 : Int32)) (by decide) ?_
  refine g_istore X54 hx (pc' := 23) rfl (hb hby d5_21) (l' := #[.val (.ref ta), .val (.int (4 : Int32)), .val (.int (2 : Int32)), .val (.ref ca), .val (.int (2 : Int32)), .val (.int (0 : Int32)), .val (.int (0 : Int32)), .val (.int (1 : Int32)), .unset, .val (.int (2 : Int32)), .unset, .unset]) rfl ?_
  refine g_iload X54 hx (pc' := 25) rfl (hb hby d5_23) rfl ?_
  refine g_iloadN X54 hx (pc' := 26) rfl (hb hby d5_25) rfl ?_
  refine g_icmpN X54 hx (pcN := 29) (hb hby d5_26) rfl (show ¬ (¬ (1 : Int32) < (2 : Int32)) from by decide) ?_
  refine g_aloadN X54 hx (pc' := 30) rfl (hb hby d5_29) rfl rfl ?_
  refine g_iload X54 hx (pc' := 32) rfl (hb hby d5_30) rfl ?_
  refine g_iloadN X54 hx (pc' := 33) rfl (hb hby d5_32) rfl ?_
  refine g_imul X54 hx (pc' := 34) rfl (hb hby d5_33) ?_
  refine g_normI (z := (0 : Int32)) (by decide) ?_
  refine g_iload X54 hx (pc' := 36) rfl (hb hby d5_34) rfl ?_
  refine g_iadd X54 hx (pc' := 37) rfl (hb hby d5_36) ?_
  refine g_normI (z := (1 : Int32)) (by decide) ?_
  refine g_daload X54 hx hZ f55 (i := 1) (by decide) (show (1 : Nat) < 16 by decide) (v := t1) rfl (pc' := 38) rfl (hb hby d5_37) ?_
  refine g_dstore X54 hx (pc' := 40) rfl (hb hby d5_38) (l' := #[.val (.ref ta), .val (.int (4 : Int32)), .val (.int (2 : Int32)), .val (.ref ca), .val (.int (2 : Int32)), .val (.int (0 : Int32)), .val (.int (0 : Int32)), .val (.int (1 : Int32)), .val (.double t1), .second, .unset, .unset]) rfl ?_
  refine g_iload X54 hx (pc' := 42) rfl (hb hby d5_40) rfl ?_
  refine g_iload X54 hx (pc' := 44) rfl (hb hby d5_42) rfl ?_
  refine g_imul X54 hx (pc' := 45) rfl (hb hby d5_44) ?_
  refine g_normI (z := (2 : Int32)) (by decide) ?_
  refine g_istore X54 hx (pc' := 47) rfl (hb hby d5_45) (l' := #[.val (.ref ta), .val (.int (4 : Int32)), .val (.int (2 : Int32)), .val (.ref ca), .val (.int (2 : Int32)), .val (.int (0 : Int32)), .val (.int (0 : Int32)), .val (.int (1 : Int32)), .val (.double t1), .second, .val (.int (2 : Int32)), .unset]) rfl ?_
  refine g_iconst X54 hx (pc' := 48) (z := (0 : Int32)) rfl (hb hby d5_47) rfl ?_
  refine g_istore X54 hx (pc' := 50) rfl (hb hby d5_48) (l' := #[.val (.ref ta), .val (.int (4 : Int32)), .val (.int (2 : Int32)), .val (.ref ca), .val (.int (2 : Int32)), .val (.int (0 : Int32)), .val (.int (0 : Int32)), .val (.int (1 : Int32)), .val (.double t1), .second, .val (.int (2 : Int32)), .val (.int (0 : Int32))]) rfl ?_
  refine g_iload X54 hx (pc' := 52) rfl (hb hby d5_50) rfl ?_
  refine g_iload X54 hx (pc' := 54) rfl (hb hby d5_52) rfl ?_
  refine g_icmpN X54 hx (pcN := 57) (hb hby d5_54) rfl (show ¬ (¬ (0 : Int32) < (2 : Int32)) from by decide) ?_
  refine g_aloadN X54 hx (pc' := 58) rfl (hb hby d5_57) rfl rfl ?_
  refine g_iload X54 hx (pc' := 60) rfl (hb hby d5_58) rfl ?_
  refine g_iload X54 hx (pc' := 62) rfl (hb hby d5_60) rfl ?_
  refine g_iadd X54 hx (pc' := 63) rfl (hb hby d5_62) ?_
  refine g_normI (z := (0 : Int32)) (by decide) ?_
  refine g_dup2 X54 hx (pc' := 64) rfl (hb hby d5_63) rfl rfl ?_
  refine g_daload X54 hx hZ V54 (i := 0) (by decide) (show (0 : Nat) < 8 by decide) (v := c00) rfl (pc' := 65) rfl (hb hby d5_64) ?_
  refine g_dload X54 hx (pc' := 67) rfl (hb hby d5_65) rfl ?_
  refine g_aloadN X54 hx (pc' := 68) rfl (hb hby d5_67) rfl rfl ?_
  refine g_iload X54 hx (pc' := 70) rfl (hb hby d5_68) rfl ?_
  refine g_iload X54 hx (pc' := 72) rfl (hb hby d5_70) rfl ?_
  refine g_iadd X54 hx (pc' := 73) rfl (hb hby d5_72) ?_
  refine g_normI (z := (2 : Int32)) (by decide) ?_
  refine g_daload X54 hx hZ V54 (i := 2) (by decide) (show (2 : Nat) < 8 by decide) (v := d48) rfl (pc' := 74) rfl (hb hby d5_73) ?_
  have q58 : Dy (mt1 * mx10) 1074 (FP.dmul t1 d48) := dy_mul yt1 q48 (by decide) (own_mb bt1 bx10 (by decide)) (by decide)
  refine g_dmul X54 hx (pc' := 75) (z := (FP.dmul t1 d48)) rfl (hb hby d5_74) (dy_noNaN q58) rfl ?_
  refine g_absD (fun d58 hd58 => ?_)
  rw [← hd58] at q58
  obtain ⟨n58, en58⟩ : ∃ z : Int, z = mt1 * mx10 := ⟨_, rfl⟩
  rw [← en58] at q58
  have b58 : n58.natAbs ≤ 16384 := by rw [en58, Int.natAbs_mul]; exact Nat.le_trans (Nat.mul_le_mul bt1 bx10) (by decide)
  have q59 : Dy (mc00 - n58) 1074 (FP.dsub c00 d58) := dy_sub yc00 q58 (own_subb bc00 b58 (by decide)) (by decide)
  refine g_dsub X54 hx (pc' := 76) (z := (FP.dsub c00 d58)) rfl (hb hby d5_75) (dy_noNaN q59) rfl ?_
  refine g_absD (fun d59 hd59 => ?_)
  rw [← hd59] at q59
  obtain ⟨n59, en59⟩ : ∃ z : Int, z = mc00 - n58 := ⟨_, rfl⟩
  rw [← en59] at q59
  have b59 : n59.natAbs ≤ 65536 := by rw [en59]; exact Nat.le_trans (own_subl bc00 b58) (by decide)
  refine g_dastore X54 hx hZ V54 (i := 0) (by decide) (show (0 : Nat) < 8 by decide) hg (pc' := 77) rfl (hb hby d5_76) (fun T60 h60 X60 W60 N60 => ?_)
  have f61 := f55.other W60 hne
  have f62 := (by have q := (Keep.of_wr W60).1; exact Nat.le_trans f56 q : n0 ≤ h60.size)
  have f63 := f57.wr W60 (Or.inl (List.mem_of_getElem? (i := 0) rfl))
  have V60 : AD Z h60 ca [d59, c01, d48, d53, c20, c21, c30, c31] := N60
  refine g_iincC X60 hx (pc' := 80) (x := (0 : Int32)) (z := (1 : Int32)) rfl (hb hby d5_77) rfl (by decide) (l' := #[.val (.ref ta), .val (.int (4 : Int32)), .val (.int (2 : Int32)), .val (.ref ca), .val (.int (2 : Int32)), .val (.int (0 : Int32)), .val (.int (0 : Int32)), .val (.int (1 : Int32)), .val (.double t1), .second, .val (.int (2 : Int32)), .val (.int (1 : Int32))]) rfl ?_
  refine g_goto X60 hx (pc' := 50) (hb hby d5_80) (by decide) (by decide) ?_
  refine g_iload X60 hx (pc' := 52) rfl (hb hby d5_50) rfl ?_
  refine g_iload X60 hx (pc' := 54) rfl (hb hby d5_52) rfl ?_
  refine g_icmpN X60 hx (pcN := 57) (hb hby d5_54) rfl (show ¬ (¬ (1 : Int32) < (2 : Int32)) from by decide) ?_
  refine g_aloadN X60 hx (pc' := 58) rfl (hb hby d5_57) rfl rfl ?_
  refine g_iload X60 hx (pc' := 60) rfl (hb hby d5_58) rfl ?_
  refine g_iload X60 hx (pc' := 62) rfl (hb hby d5_60) rfl ?_
  refine g_iadd X60 hx (pc' := 63) rfl (hb hby d5_62) ?_
  refine g_normI (z := (1 : Int32)) (by decide) ?_
  refine g_dup2 X60 hx (pc' := 64) rfl (hb hby d5_63) rfl rfl ?_
  refine g_daload X60 hx hZ V60 (i := 1) (by decide) (show (1 : Nat) < 8 by decide) (v := c01) rfl (pc' := 65) rfl (hb hby d5_64) ?_
  refine g_dload X60 hx (pc' := 67) rfl (hb hby d5_65) rfl ?_
  refine g_aloadN X60 hx (pc' := 68) rfl (hb hby d5_67) rfl rfl ?_
  refine g_iload X60 hx (pc' := 70) rfl (hb hby d5_68) rfl ?_
  refine g_iload X60 hx (pc' := 72) rfl (hb hby d5_70) rfl ?_
  refine g_iadd X60 hx (pc' := 73) rfl (hb hby d5_72) ?_
  refine g_normI (z := (3 : Int32)) (by decide) ?_
  refine g_daload X60 hx hZ V60 (i := 3) (by decide) (show (3 : Nat) < 8 by decide) (v := d53) rfl (pc' := 74) rfl (hb hby d5_73) ?_
  have q64 : Dy (mt1 * mx11) 1074 (FP.dmul t1 d53) := dy_mul yt1 q53 (by decide) (own_mb bt1 bx11 (by decide)) (by decide)
  refine g_dmul X60 hx (pc' := 75) (z := (FP.dmul t1 d53)) rfl (hb hby d5_74) (dy_noNaN q64) rfl ?_
  refine g_absD (fun d64 hd64 => ?_)
  rw [← hd64] at q64
  obtain ⟨n64, en64⟩ : ∃ z : Int, z = mt1 * mx11 := ⟨_, rfl⟩
  rw [← en64] at q64
  have b64 : n64.natAbs ≤ 16384 := by rw [en64, Int.natAbs_mul]; exact Nat.le_trans (Nat.mul_le_mul bt1 bx11) (by decide)
  have q65 : Dy (mc01 - n64) 1074 (FP.dsub c01 d64) := dy_sub yc01 q64 (own_subb bc01 b64 (by decide)) (by decide)
  refine g_dsub X60 hx (pc' := 76) (z := (FP.dsub c01 d64)) rfl (hb hby d5_75) (dy_noNaN q65) rfl ?_
  refine g_absD (fun d65 hd65 => ?_)
  rw [← hd65] at q65
  obtain ⟨n65, en65⟩ : ∃ z : Int, z = mc01 - n64 := ⟨_, rfl⟩
  rw [← en65] at q65
  have b65 : n65.natAbs ≤ 65536 := by rw [en65]; exact Nat.le_trans (own_subl bc01 b64) (by decide)
  refine g_dastore X60 hx hZ V60 (i := 1) (by decide) (show (1 : Nat) < 8 by decide) hg (pc' := 77) rfl (hb hby d5_76) (fun T66 h66 X66 W66 N66 => ?_)
  have f67 := f61.other W66 hne
  have f68 := (by have q := (Keep.of_wr W66).1; exact Nat.le_trans f62 q : n0 ≤ h66.size)
  have f69 := f63.wr W66 (Or.inl (List.mem_of_getElem? (i := 0) rfl))
  have V66 : AD Z h66 ca [d59, d65, d48, d53, c20, c21, c30, c31] := N66
  refine g_iincC X66 hx (pc' := 80) (x := (1 : Int32)) (z := (2 : Int32)) rfl (hb hby d5_77) rfl (by decide) (l' := #[.val (.ref ta), .val (.int (4 : Int32)), .val (.int (2 : Int32)), .val (.ref ca), .val (.int (2 : Int32)), .val (.int (0 : Int32)), .val (.int (0 : Int32)), .val (.int (1 : Int32)), .val (.double t1), .second, .val (.int (2 : Int32)), .val (.int (2 : Int32))]) rfl ?_
  refine g_goto X66 hx (pc' := 50) (hb hby d5_80) (by decide) (by decide) ?_
  refine g_iload X66 hx (pc' := 52) rfl (hb hby d5_50) rfl ?_
  refine g_iload X66 hx (pc' := 54) rfl (hb hby d5_52) rfl ?_
  refine g_icmpY X66 hx (pcY := 83) (hb hby d5_54) (by decide) (by decide) (show ¬ (2 : Int32) < (2 : Int32) from by decide) ?_
  refine g_iincC X66 hx (pc' := 86) (x := (1 : Int32)) (z := (2 : Int32)) rfl (hb hby d5_83) rfl (by decide) (l' := #[.val (.ref ta), .val (.int (4 : Int32)), .val (.int (2 : Int32)), .val (.ref ca), .val (.int (2 : Int32)), .val (.int (0 : Int32)), .val (.int (0 : Int32)), .val (.int (2 : Int32)), .val (.double t1), .second, .val (.int (2 : Int32)), .val (.int (2 : Int32))]) rfl ?_
  refine g_goto X66 hx (pc' := 23) (hb hby d5_86) (by decide) (by decide) ?_
  refine g_iload X66 hx (pc' := 25) rfl (hb hby d5_23) rfl ?_
  refine g_iloadN X66 hx (pc' := 26) rfl (hb hby d5_25) rfl ?_
  refine g_icmpY X66 hx (pcY := 89) (hb hby d5_26) (by decide) (by decide) (show ¬ (2 : Int32) < (2 : Int32) from by decide) ?_
  refine g_aloadN X66 hx (pc' := 90) rfl (hb hby d5_89) rfl rfl ?_
  refine g_iload X66 hx (pc' := 92) rfl (hb hby d5_90) rfl ?_
  refine g_iloadN X66 hx (pc' := 93) rfl (hb hby d5_92) rfl ?_
  refine g_imul X66 hx (pc' := 94) rfl (hb hby d5_93) ?_
  refine g_normI (z := (0 : Int32)) (by decide) ?_
  refine g_iload X66 hx (pc' := 96) rfl (hb hby d5_94) rfl ?_
  refine g_iadd X66 hx (pc' := 97) rfl (hb hby d5_96) ?_
  refine g_normI (z := (0 : Int32)) (by decide) ?_
  refine g_daload X66 hx hZ f67 (i := 0) (by decide) (show (0 : Nat) < 16 by decide) (v := t0) rfl (pc' := 98) rfl (hb hby d5_97) ?_
  refine g_dstore X66 hx (pc' := 100) rfl (hb hby d5_98) (l' := #[.val (.ref ta), .val (.int (4 : Int32)), .val (.int (2 : Int32)), .val (.ref ca), .val (.int (2 : Int32)), .val (.int (0 : Int32)), .val (.int (0 : Int32)), .val (.double t0), .second, .unset, .val (.int (2 : Int32)), .val (.int (2 : Int32))]) rfl ?_
  refine g_iconst X66 hx (pc' := 101) (z := (0 : Int32)) rfl (hb hby d5_100) rfl ?_
  refine g_istore X66 hx (pc' := 103) rfl (hb hby d5_101) (l' := #[.val (.ref ta), .val (.int (4 : Int32)), .val (.int (2 : Int32)), .val (.ref ca), .val (.int (2 : Int32)), .val (.int (0 : Int32)), .val (.int (0 : Int32)), .val (.double t0), .second, .val (.int (0 : Int32)), .val (.int (2 : Int32)), .val (.int (2 : Int32))]) rfl ?_
  refine g_iload X66 hx (pc' := 105) rfl (hb hby d5_103) rfl ?_
  refine g_iload X66 hx (pc' := 107) rfl (hb hby d5_105) rfl ?_
  refine g_icmpN X66 hx (pcN := 110) (hb hby d5_107) rfl (show ¬ (¬ (0 : Int32) < (2 : Int32)) from by decide) ?_
  refine g_aloadN X66 hx (pc' := 111) rfl (hb hby d5_110) rfl rfl ?_
  refine g_iload X66 hx (pc' := 113) rfl (hb hby d5_111) rfl ?_
  refine g_iload X66 hx (pc' := 115) rfl (hb hby d5_113) rfl ?_
  refine g_iadd X66 hx (pc' := 116) rfl (hb hby d5_115) ?_
  refine g_normI (z := (0 : Int32)) (by decide) ?_
  refine g_dup2 X66 hx (pc' := 117) rfl (hb hby d5_116) rfl rfl ?_
  refine g_daload X66 hx hZ V66 (i := 0) (by decide) (show (0 : Nat) < 8 by decide) (v := d59) rfl (pc' := 118) rfl (hb hby d5_117) ?_
  refine g_dload X66 hx (pc' := 120) rfl (hb hby d5_118) rfl ?_
  have q70 : Dy mx00 1074 (FP.ddiv d59 t0) := dy_div q59 yt0 hz0 (by rw [en59, en58]; exact own_g1 ec00) rfl (Nat.lt_of_le_of_lt bx00 (by decide)) (by decide)
  refine g_ddiv X66 hx (pc' := 121) (z := (FP.ddiv d59 t0)) rfl (hb hby d5_120) (dy_noNaN q70) rfl ?_
  refine g_absD (fun d70 hd70 => ?_)
  rw [← hd70] at q70
  refine g_dastore X66 hx hZ V66 (i := 0) (by decide) (show (0 : Nat) < 8 by decide) hg (pc' := 122) rfl (hb hby d5_121) (fun T71 h71 X71 W71 N71 => ?_)
  have f72 := f67.other W71 hne
  have f73 := (by have q := (Keep.of_wr W71).1; exact Nat.le_trans f68 q : n0 ≤ h71.size)
  have f74 := f69.wr W71 (Or.inl (List.mem_of_getElem? (i := 0) rfl))
  have V71 : AD Z h71 ca [d70, d65, d48, d53, c20, c21, c30, c31] := N71
  refine g_iincC X71 hx (pc' := 125) (x := (0 : Int32)) (z := (1 : Int32)) rfl (hb hby d5_122) rfl (by decide) (l' := #[.val (.ref ta), .val (.int (4 : Int32)), .val (.int (2 : Int32)), .val (.ref ca), .val (.int (2 : Int32)), .val (.int (0 : Int32)), .val (.int (0 : Int32)), .val (.double t0), .second, .val (.int (1 : Int32)), .val (.int (2 : Int32)), .val (.int (2 : Int32))]) rfl ?_
  refine g_goto X71 hx (pc' := 103) (hb hby d5_125) (by decide) (by decide) ?_
  refine g_iload X71 hx (pc' := 105) rfl (hb hby d5_103) rfl ?_
  refine g_iload X71 hx (pc' := 107) rfl (hb hby d5_105) rfl ?_
  refine g_icmpN X71 hx (pcN := 110) (hb hby d5_107) rfl (show ¬ (¬ (1 : Int32) < (2 : Int32)) from by decide) ?_
  refine g_aloadN X71 hx (pc' := 111) rfl (hb hby d5_110) rfl rfl ?_
  refine g_iload X71 hx (pc' := 113) rfl (hb hby d5_111) rfl ?_
  refine g_iload X71 hx (pc' := 115) rfl (hb hby d5_113) rfl ?_
  refine g_iadd X71 hx (pc' := 116) rfl (hb hby d5_115) ?_
  refine g_normI (z := (1 : Int32)) (by decide) ?_
  refine g_dup2 X71 hx (pc' := 117) rfl (hb hby d5_116) rfl rfl ?_
  refine g_daload X71 hx hZ V71 (i := 1) (by decide) (show (1 : Nat) < 8 by decide) (v := d65) rfl (pc' := 118) rfl (hb hby d5_117) ?_
  refine g_dload X71 hx (pc' := 120) rfl (hb hby d5_118) rfl ?_
  have q75 : Dy mx01 1074 (FP.ddiv d65 t0) := dy_div q65 yt0 hz0 (by rw [en65, en64]; exact own_g1 ec01) rfl (Nat.lt_of_le_of_lt bx01 (by decide)) (by decide)
  refine g_ddiv X71 hx (pc' := 121) (z := (FP.ddiv d65 t0)) rfl (hb hby d5_120) (dy_noNaN q75) rfl ?_
  refine g_absD (fun d75 hd75 => ?_)
  rw [← hd75] at q75
  refine g_dastore X71 hx hZ V71 (i := 1) (by decide) (show (1 : Nat) < 8 by decide) hg (pc' := 122) rfl (hb hby d5_121) (fun T76 h76 X76 W76 N76 => ?_)
  have f77 := f72.other W76 hne
  have f78 := (by have q := (Keep.of_wr W76).1; exact Nat.le_trans f73 q : n0 ≤ h76.size)
  have f79 := f74.wr W76 (Or.inl (List.mem_of_getElem? (i := 0) rfl))
  have V76 : AD Z h76 ca [d70, d75, d48, d53, c20, c21, c30, c31] := N76
  refine g_iincC X76 hx (pc' := 125) (x := (1 : Int32)) (z := (2 : Int32)) rfl (hb hby d5_122) rfl (by decide) (l' := #[.val (.ref ta), .val (.int (4 : Int32)), .val (.int (2 : Int32)), .val (.ref ca), .val (.int (2 : Int32)), .val (.int (0 : Int32)), .val (.int (0 : Int32)), .val (.double t0), .second, .val (.int (2 : Int32)), .val (.int (2 : Int32)), .val (.int (2 : Int32))]) rfl ?_
  refine g_goto X76 hx (pc' := 103) (hb hby d5_125) (by decide) (by decide) ?_
  refine g_iload X76 hx (pc' := 105) rfl (hb hby d5_103) rfl ?_
  refine g_iload X76 hx (pc' := 107) rfl (hb hby d5_105) rfl ?_
  refine g_icmpY X76 hx (pcY := 128) (hb hby d5_107) (by decide) (by decide) (show ¬ (2 : Int32) < (2 : Int32) from by decide) ?_
  refine g_iincC X76 hx (pc' := 131) (x := (0 : Int32)) (z := (-1 : Int32)) rfl (hb hby d5_128) rfl (by decide) (l' := #[.val (.ref ta), .val (.int (4 : Int32)), .val (.int (2 : Int32)), .val (.ref ca), .val (.int (2 : Int32)), .val (.int (-1 : Int32)), .val (.int (0 : Int32)), .val (.double t0), .second, .val (.int (2 : Int32)), .val (.int (2 : Int32)), .val (.int (2 : Int32))]) rfl ?_
  refine g_goto X76 hx (pc' := 5) (hb hby d5_131) (by decide) (by decide) ?_
  refine g_iload X76 hx (pc' := 7) rfl (hb hby d5_5) rfl ?_
  refine g_ifY X76 hx (pcY := 134) (hb hby d5_7) (by decide) (by decide) (show (-1 : Int32) < 0 from by decide) ?_
  exact g_retV X76 hx hlk hret (hb hby d5_134) (by decide) (by decide) (⟨rfl, f79, _, V76, rfl, fun _ => own_dyeq q70 yx00 rfl, fun _ => own_dyeq q75 yx01 rfl, fun q => absurd q (by decide), fun _ => own_dyeq q48 yx10 rfl, fun _ => own_dyeq q53 yx11 rfl, fun q => absurd q (by decide), fun _ => own_dyeq yc20 yx20 ec20, fun _ => own_dyeq yc21 yx21 ec21, fun q => absurd q (by decide), fun _ => own_dyeq yc30 yx30 ec30, fun _ => own_dyeq yc31 yx31 ec31, fun q => absurd q (by decide)⟩)
set_option maxRecDepth 65536 in
set_option maxHeartbeats 40000000 in
theorem rm5_2_3 (l : Launch) (Z : State) (a0 : Array Value) (hw : ∀ d ∈ tables_1, d.before a0 Z = true) (ws : List Jvm.Cond) (n0 : Nat) (ta ca : Addr) (t0 : UInt64) (t1 : UInt64) (t2 : UInt64) (t3 : UInt64) (t4 : UInt64) (t5 : UInt64) (t6 : UInt64) (t7 : UInt64) (t8 : UInt64) (t9 : UInt64) (t10 : UInt64) (t11 : UInt64) (t12 : UInt64) (t13 : UInt64) (t14 : UInt64) (t15 : UInt64) (mt0 : Int) (mt1 : Int) (mt2 : Int) (mt5 : Int) (mt6 : Int) (mt10 : Int) (c00 : UInt64) (mc00 : Int) (c01 : UInt64) (mc01 : Int) (c02 : UInt64) (mc02 : Int) (c10 : UInt64) (mc10 : Int) (c11 : UInt64) (mc11 : Int) (c12 : UInt64) (mc12 : Int) (c20 : UInt64) (mc20 : Int) (c21 : UInt64) (mc21 : Int) (c22 : UInt64) (mc22 : Int) (c30 : UInt64) (mc30 : Int) (c31 : UInt64) (mc31 : Int) (c32 : UInt64) (mc32 : Int) (x00 : Int64) (mx00 : Int) (x01 : Int64) (mx01 : Int) (x02 : Int64) (mx02 : Int) (x10 : Int64) (mx10 : Int) (x11 : Int64) (mx11 : Int) (x12 : Int64) (mx12 : Int) (x20 : Int64) (mx20 : Int) (x21 : Int64) (mx21 : Int) (x22 : Int64) (mx22 : Int) (x30 : Int64) (mx30 : Int) (x31 : Int64) (mx31 : Int) (x32 : Int64) (mx32 : Int) (h0 : Heap) (hn0 : n0 ≤ h0.size) (At : AD Z h0 ta [t0, t1, t2, t3, t4, t5, t6, t7, t8, t9, t10, t11, t12, t13, t14, t15]) (Ac : AD Z h0 ca [c00, c01, c02, c10, c11, c12, c20, c21, c22, c30, c31, c32]) (hne : ta ≠ ca) (hg : n0 ≤ ca) (yt0 : Dy mt0 1074 t0) (bt0 : mt0.natAbs ≤ 128) (yt1 : Dy mt1 1074 t1) (bt1 : mt1.natAbs ≤ 128) (yt2 : Dy mt2 1074 t2) (bt2 : mt2.natAbs ≤ 128) (yt5 : Dy mt5 1074 t5) (bt5 : mt5.natAbs ≤ 128) (yt6 : Dy mt6 1074 t6) (bt6 : mt6.natAbs ≤ 128) (yt10 : Dy mt10 1074 t10) (bt10 : mt10.natAbs ≤ 128) (hz0 : mt0 ≠ 0) (hz5 : mt5 ≠ 0) (hz10 : mt10 ≠ 0) (yc00 : Dy mc00 1074 c00) (bc00 : mc00.natAbs ≤ 49152) (ec00 : mc00 = mt0 * mx00 + mt1 * mx10) (yc01 : Dy mc01 1074 c01) (bc01 : mc01.natAbs ≤ 49152) (ec01 : mc01 = mt0 * mx01 + mt1 * mx11) (yc02 : Dy mc02 1074 c02) (bc02 : mc02.natAbs ≤ 49152) (ec02 : mc02 = mt0 * mx02 + mt1 * mx12) (yc10 : Dy mc10 1074 c10) (bc10 : mc10.natAbs ≤ 49152) (ec10 : mc10 = mt5 * mx10) (yc11 : Dy mc11 1074 c11) (bc11 : mc11.natAbs ≤ 49152) (ec11 : mc11 = mt5 * mx11) (yc12 : Dy mc12 1074 c12) (bc12 : mc12.natAbs ≤ 49152) (ec12 : mc12 = mt5 * mx12) (yc20 : Dy mc20 1074 c20) (bc20 : mc20.natAbs ≤ 49152) (ec20 : mc20 = mx20) (yc21 : Dy mc21 1074 c21) (bc21 : mc21.natAbs ≤ 49152) (ec21 : mc21 = mx21) (yc22 : Dy mc22 1074 c22) (bc22 : mc22.natAbs ≤ 49152) (ec22 : mc22 = mx22) (yc30 : Dy mc30 1074 c30) (bc30 : mc30.natAbs ≤ 49152) (ec30 : mc30 = mx30) (yc31 : Dy mc31 1074 c31) (bc31 : mc31.natAbs ≤ 49152) (ec31 : mc31 = mx31) (yc32 : Dy mc32 1074 c32) (bc32 : mc32.natAbs ≤ 49152) (ec32 : mc32 = mx32) (yx00 : Dy mx00 1074 (FP.l2d x00)) (bx00 : mx00.natAbs ≤ 128) (yx01 : Dy mx01 1074 (FP.l2d x01)) (bx01 : mx01.natAbs ≤ 128) (yx02 : Dy mx02 1074 (FP.l2d x02)) (bx02 : mx02.natAbs ≤ 128) (yx10 : Dy mx10 1074 (FP.l2d x10)) (bx10 : mx10.natAbs ≤ 128) (yx11 : Dy mx11 1074 (FP.l2d x11)) (bx11 : mx11.natAbs ≤ 128) (yx12 : Dy mx12 1074 (FP.l2d x12)) (bx12 : mx12.natAbs ≤ 128) (yx20 : Dy mx20 1074 (FP.l2d x20)) (bx20 : mx20.natAbs ≤ 128) (yx21 : Dy mx21 1074 (FP.l2d x21)) (bx21 : mx21.natAbs ≤ 128) (yx22 : Dy mx22 1074 (FP.l2d x22)) (bx22 : mx22.natAbs ≤ 128) (yx30 : Dy mx30 1074 (FP.l2d x30)) (bx30 : mx30.natAbs ≤ 128) (yx31 : Dy mx31 1074 (FP.l2d x31)) (bx31 : mx31.natAbs ≤ 128) (yx32 : Dy mx32 1074 (FP.l2d x32)) (bx32 : mx32.natAbs ≤ 128) :
    Con l Z n0 (⟨"com/example/orthogon/orthogon/Triangular", "solveUpper", "([DII[DI)V"⟩ : MethodName) prog_16_method_3_code 12 none ws ({ frames := 0, cells := 0, slots := 0, locals := 0 } : Room) #[(.ref ta), (.int (4 : Int32)), (.int (2 : Int32)), (.ref ca), (.int (3 : Int32))] h0 (fun v h => v = none ∧ Keep h0 h [ca] ∧ ∃ xs, AD Z h ca xs ∧ xs.length = 4 * 3 ∧ (0 < 3 → cmpValue (FP.dcmp (xs.getD (0 * 3 + 0) 0) (FP.l2d x00)) .l = 0) ∧ (1 < 3 → cmpValue (FP.dcmp (xs.getD (0 * 3 + 1) 0) (FP.l2d x01)) .l = 0) ∧ (2 < 3 → cmpValue (FP.dcmp (xs.getD (0 * 3 + 2) 0) (FP.l2d x02)) .l = 0) ∧ (0 < 3 → cmpValue (FP.dcmp (xs.getD (1 * 3 + 0) 0) (FP.l2d x10)) .l = 0) ∧ (1 < 3 → cmpValue (FP.dcmp (xs.getD (1 * 3 + 1) 0) (FP.l2d x11)) .l = 0) ∧ (2 < 3 → cmpValue (FP.dcmp (xs.getD (1 * 3 + 2) 0) (FP.l2d x12)) .l = 0) ∧ (0 < 3 → cmpValue (FP.dcmp (xs.getD (2 * 3 + 0) 0) (FP.l2d x20)) .l = 0) ∧ (1 < 3 → cmpValue (FP.dcmp (xs.getD (2 * 3 + 1) 0) (FP.l2d x21)) .l = 0) ∧ (2 < 3 → cmpValue (FP.dcmp (xs.getD (2 * 3 + 2) 0) (FP.l2d x22)) .l = 0) ∧ (0 < 3 → cmpValue (FP.dcmp (xs.getD (3 * 3 + 0) 0) (FP.l2d x30)) .l = 0) ∧ (1 < 3 → cmpValue (FP.dcmp (xs.getD (3 * 3 + 1) 0) (FP.l2d x31)) .l = 0) ∧ (2 < 3 → cmpValue (FP.dcmp (xs.getD (3 * 3 + 2) 0) (FP.l2d x32)) .l = 0)) := by
  refine con_start (plainFor_of_name (by first | (simp [plainName, overriddenIn]; done) | decide +kernel)) (fr0 := fun m => mkF m 0 #[.val (.ref ta), .val (.int (4 : Int32)), .val (.int (2 : Int32)), .val (.ref ca), .val (.int (3 : Int32)), .unset, .unset, .unset, .unset, .unset, .unset, .unset] []) (fun m => by first | (simp [entryFrame, mkF, argsToLocals, Value.category]; done) | rfl) ?_
  intro p e s m below meth c T0 hx hZ hby hml hown hnm hret hlk X0
  replace hown : s.vm.findClass "com/example/orthogon/orthogon/Triangular" = some m.cls := hown
  replace hml : c.maxLocals = 12 := hml
  refine g_iloadN X0 hx (pc' := 1) rfl (hb hby d5_0) rfl ?_
  refine g_iconst X0 hx (pc' := 2) (z := (1 : Int32)) rfl (hb hby d5_1) rfl ?_
  refine g_isub X0 hx (pc' := 3) rfl (hb hby d5_2) ?_
  refine g_normI (z := (1 : Int32)) (by decide) ?_
  refine g_istore X0 hx (pc' := 5) rfl (hb hby d5_3) (l' := #[.val (.ref ta), .val (.int (4 : Int32)), .val (.int (2 : Int32)), .val (.ref ca), .val (.int (3 : Int32)), .val (.int (1 : Int32)), .unset, .unset, .unset, .unset, .unset, .unset]) rfl ?_
  refine g_iload X0 hx (pc' := 7) rfl (hb hby d5_5) rfl ?_
  refine g_ifN X0 hx (pcN := 10) (hb hby d5_7) rfl (show ¬ ((1 : Int32) < 0) from by decide) ?_
  refine g_iload X0 hx (pc' := 12) rfl (hb hby d5_10) rfl ?_
  refine g_iload X0 hx (pc' := 14) rfl (hb hby d5_12) rfl ?_
  refine g_imul X0 hx (pc' := 15) rfl (hb hby d5_14) ?_
  refine g_normI (z := (3 : Int32)) (by decide) ?_
  refine g_istore X0 hx (pc' := 17) rfl (hb hby d5_15) (l' := #[.val (.ref ta), .val (.int (4 : Int32)), .val (.int (2 : Int32)), .val (.ref ca), .val (.int (3 : Int32)), .val (.int (1 : Int32)), .val (.int (3 : Int32)), .unset, .unset, .unset, .unset, .unset]) rfl ?_
  refine g_iload X0 hx (pc' := 19) rfl (hb hby d5_17) rfl ?_
  refine g_iconst X0 hx (pc' := 20) (z := (1 : Int32)) rfl (hb hby d5_19) rfl ?_
  refine g_iadd X0 hx (pc' := 21) rfl (hb hby d5_20) ?_
  refine g_normI (z := (2 : Int32)) (by decide) ?_
  refine g_istore X0 hx (pc' := 23) rfl (hb hby d5_21) (l' := #[.val (.ref ta), .val (.int (4 : Int32)), .val (.int (2 : Int32)), .val (.ref ca), .val (.int (3 : Int32)), .val (.int (1 : Int32)), .val (.int (3 : Int32)), .val (.int (2 : Int32)), .unset, .unset, .unset, .unset]) rfl ?_
  refine g_iload X0 hx (pc' := 25) rfl (hb hby d5_23) rfl ?_
  refine g_iloadN X0 hx (pc' := 26) rfl (hb hby d5_25) rfl ?_
  refine g_icmpY X0 hx (pcY := 89) (hb hby d5_26) (by decide) (by decide) (show ¬ (2 : Int32) < (2 : Int32) from by decide) ?_
  refine g_aloadN X0 hx (pc' := 90) rfl (hb hby d5_89) rfl rfl ?_
  refine g_iload X0 hx (pc' := 92) rfl (hb hby d5_90) rfl ?_
  refine g_iloadN X0 hx (pc' := 93) rfl (hb hby d5_92) rfl ?_
  refine g_imul X0 hx (pc' := 94) rfl (hb hby d5_93) ?_
  refine g_normI (z := (4 : Int32)) (by decide) ?_
  refine g_iload X0 hx (pc' := 96) rfl (hb hby d5_94) rfl ?_
  refine g_iadd X0 hx (pc' := 97) rfl (hb hby d5_96) ?_
  refine g_normI (z := (5 : Int32)) (by decide) ?_
  refine g_daload X0 hx hZ At (i := 5) (by decide) (show (5 : Nat) < 16 by decide) (v := t5) rfl (pc' := 98) rfl (hb hby d5_97) ?_
  refine g_dstore X0 hx (pc' := 100) rfl (hb hby d5_98) (l' := #[.val (.ref ta), .val (.int (4 : Int32)), .val (.int (2 : Int32)), .val (.ref ca), .val (.int (3 : Int32)), .val (.int (1 : Int32)), .val (.int (3 : Int32)), .val (.double t5), .second, .unset, .unset, .unset]) rfl ?_
  refine g_iconst X0 hx (pc' := 101) (z := (0 : Int32)) rfl (hb hby d5_100) rfl ?_
  refine g_istore X0 hx (pc' := 103) rfl (hb hby d5_101) (l' := #[.val (.ref ta), .val (.int (4 : Int32)), .val (.int (2 : Int32)), .val (.ref ca), .val (.int (3 : Int32)), .val (.int (1 : Int32)), .val (.int (3 : Int32)), .val (.double t5), .second, .val (.int (0 : Int32)), .unset, .unset]) rfl ?_
  refine g_iload X0 hx (pc' := 105) rfl (hb hby d5_103) rfl ?_
  refine g_iload X0 hx (pc' := 107) rfl (hb hby d5_105) rfl ?_
  refine g_icmpN X0 hx (pcN := 110) (hb hby d5_107) rfl (show ¬ (¬ (0 : Int32) < (3 : Int32)) from by decide) ?_
  refine g_aloadN X0 hx (pc' := 111) rfl (hb hby d5_110) rfl rfl ?_
  refine g_iload X0 hx (pc' := 113) rfl (hb hby d5_111) rfl ?_
  refine g_iload X0 hx (pc' := 115) rfl (hb hby d5_113) rfl ?_
  refine g_iadd X0 hx (pc' := 116) rfl (hb hby d5_115) ?_
  refine g_normI (z := (3 : Int32)) (by decide) ?_
  refine g_dup2 X0 hx (pc' := 117) rfl (hb hby d5_116) rfl rfl ?_
  refine g_daload X0 hx hZ Ac (i := 3) (by decide) (show (3 : Nat) < 12 by decide) (v := c10) rfl (pc' := 118) rfl (hb hby d5_117) ?_
  refine g_dload X0 hx (pc' := 120) rfl (hb hby d5_118) rfl ?_
  have q80 : Dy mx10 1074 (FP.ddiv c10 t5) := dy_div yc10 yt5 hz5 (by exact own_g0 ec10) rfl (Nat.lt_of_le_of_lt bx10 (by decide)) (by decide)
  refine g_ddiv X0 hx (pc' := 121) (z := (FP.ddiv c10 t5)) rfl (hb hby d5_120) (dy_noNaN q80) rfl ?_
  refine g_absD (fun d80 hd80 => ?_)
  rw [← hd80] at q80
  refine g_dastore X0 hx hZ Ac (i := 3) (by decide) (show (3 : Nat) < 12 by decide) hg (pc' := 122) rfl (hb hby d5_121) (fun T81 h81 X81 W81 N81 => ?_)
  have f82 := At.other W81 hne
  have f83 := (by have q := (Keep.of_wr W81).1; exact Nat.le_trans hn0 q : n0 ≤ h81.size)
  have f84 := (Keep.refl h0 [ca]).wr W81 (Or.inl (List.mem_of_getElem? (i := 0) rfl))
  have V81 : AD Z h81 ca [c00, c01, c02, d80, c11, c12, c20, c21, c22, c30, c31, c32] := N81
  refine g_iincC X81 hx (pc' := 125) (x := (0 : Int32)) (z := (1 : Int32)) rfl (hb hby d5_122) rfl (by decide) (l' := #[.val (.ref ta), .val (.int (4 : Int32)), .val (.int (2 : Int32)), .val (.ref ca), .val (.int (3 : Int32)), .val (.int (1 : Int32)), .val (.int (3 : Int32)), .val (.double t5), .second, .val (.int (1 : Int32)), .unset, .unset]) rfl ?_
  refine g_goto X81 hx (pc' := 103) (hb hby d5_125) (by decide) (by decide) ?_
  refine g_iload X81 hx (pc' := 105) rfl (hb hby d5_103) rfl ?_
  refine g_iload X81 hx (pc' := 107) rfl (hb hby d5_105) rfl ?_
  refine g_icmpN X81 hx (pcN := 110) (hb hby d5_107) rfl (show ¬ (¬ (1 : Int32) < (3 : Int32)) from by decide) ?_
  refine g_aloadN X81 hx (pc' := 111) rfl (hb hby d5_110) rfl rfl ?_
  refine g_iload X81 hx (pc' := 113) rfl (hb hby d5_111) rfl ?_
  refine g_iload X81 hx (pc' := 115) rfl (hb hby d5_113) rfl ?_
  refine g_iadd X81 hx (pc' := 116) rfl (hb hby d5_115) ?_
  refine g_normI (z := (4 : Int32)) (by decide) ?_
  refine g_dup2 X81 hx (pc' := 117) rfl (hb hby d5_116) rfl rfl ?_
  refine g_daload X81 hx hZ V81 (i := 4) (by decide) (show (4 : Nat) < 12 by decide) (v := c11) rfl (pc' := 118) rfl (hb hby d5_117) ?_
  refine g_dload X81 hx (pc' := 120) rfl (hb hby d5_118) rfl ?_
  have q85 : Dy mx11 1074 (FP.ddiv c11 t5) := dy_div yc11 yt5 hz5 (by exact own_g0 ec11) rfl (Nat.lt_of_le_of_lt bx11 (by decide)) (by decide)
  refine g_ddiv X81 hx (pc' := 121) (z := (FP.ddiv c11 t5)) rfl (hb hby d5_120) (dy_noNaN q85) rfl ?_
  refine g_absD (fun d85 hd85 => ?_)
  rw [← hd85] at q85
  refine g_dastore X81 hx hZ V81 (i := 4) (by decide) (show (4 : Nat) < 12 by decide) hg (pc' := 122) rfl (hb hby d5_121) (fun T86 h86 X86 W86 N86 => ?_)
  have f87 := f82.other W86 hne
  have f88 := (by have q := (Keep.of_wr W86).1; exact Nat.le_trans f83 q : n0 ≤ h86.size)
  have f89 := f84.wr W86 (Or.inl (List.mem_of_getElem? (i := 0) rfl))
  have V86 : AD Z h86 ca [c00, c01, c02, d80, d85, c12, c20, c21, c22, c30, c31, c32] := N86
  refine g_iincC X86 hx (pc' := 125) (x := (1 : Int32)) (z := (2 : Int32)) rfl (hb hby d5_122) rfl (by decide) (l' := #[.val (.ref ta), .val (.int (4 : Int32)), .val (.int (2 : Int32)), .val (.ref ca), .val (.int (3 : Int32)), .val (.int (1 : Int32)), .val (.int (3 : Int32)), .val (.double t5), .second, .val (.int (2 : Int32)), .unset, .unset]) rfl ?_
  refine g_goto X86 hx (pc' := 103) (hb hby d5_125) (by decide) (by decide) ?_
  refine g_iload X86 hx (pc' := 105) rfl (hb hby d5_103) rfl ?_
  refine g_iload X86 hx (pc' := 107) rfl (hb hby d5_105) rfl ?_
  refine g_icmpN X86 hx (pcN := 110) (hb hby d5_107) rfl (show ¬ (¬ (2 : Int32) < (3 : Int32)) from by decide) ?_
  refine g_aloadN X86 hx (pc' := 111) rfl (hb hby d5_110) rfl rfl ?_
  refine g_iload X86 hx (pc' := 113) rfl (hb hby d5_111) rfl ?_
  refine g_iload X86 hx (pc' := 115) rfl (hb hby d5_113) rfl ?_
  refine g_iadd X86 hx (pc' := 116) rfl (hb hby d5_115) ?_
  refine g_normI (z := (5 : Int32)) (by decide) ?_
  refine g_dup2 X86 hx (pc' := 117) rfl (hb hby d5_116) rfl rfl ?_
  refine g_daload X86 hx hZ V86 (i := 5) (by decide) (show (5 : Nat) < 12 by decide) (v := c12) rfl (pc' := 118) rfl (hb hby d5_117) ?_
  refine g_dload X86 hx (pc' := 120) rfl (hb hby d5_118) rfl ?_
  have q90 : Dy mx12 1074 (FP.ddiv c12 t5) := dy_div yc12 yt5 hz5 (by exact own_g0 ec12) rfl (Nat.lt_of_le_of_lt bx12 (by decide)) (by decide)
  refine g_ddiv X86 hx (pc' := 121) (z := (FP.ddiv c12 t5)) rfl (hb hby d5_120) (dy_noNaN q90) rfl ?_
  refine g_absD (fun d90 hd90 => ?_)
  rw [← hd90] at q90
  refine g_dastore X86 hx hZ V86 (i := 5) (by decide) (show (5 : Nat) < 12 by decide) hg (pc' := 122) rfl (hb hby d5_121) (fun T91 h91 X91 W91 N91 => ?_)
  have f92 := f87.other W91 hne
  have f93 := (by have q := (Keep.of_wr W91).1; exact Nat.le_trans f88 q : n0 ≤ h91.size)
  have f94 := f89.wr W91 (Or.inl (List.mem_of_getElem? (i := 0) rfl))
  have V91 : AD Z h91 ca [c00, c01, c02, d80, d85, d90, c20, c21, c22, c30, c31, c32] := N91
  refine g_iincC X91 hx (pc' := 125) (x := (2 : Int32)) (z := (3 : Int32)) rfl (hb hby d5_122) rfl (by decide) (l' := #[.val (.ref ta), .val (.int (4 : Int32)), .val (.int (2 : Int32)), .val (.ref ca), .val (.int (3 : Int32)), .val (.int (1 : Int32)), .val (.int (3 : Int32)), .val (.double t5), .second, .val (.int (3 : Int32)), .unset, .unset]) rfl ?_
  refine g_goto X91 hx (pc' := 103) (hb hby d5_125) (by decide) (by decide) ?_
  refine g_iload X91 hx (pc' := 105) rfl (hb hby d5_103) rfl ?_
  refine g_iload X91 hx (pc' := 107) rfl (hb hby d5_105) rfl ?_
  refine g_icmpY X91 hx (pcY := 128) (hb hby d5_107) (by decide) (by decide) (show ¬ (3 : Int32) < (3 : Int32) from by decide) ?_
  refine g_iincC X91 hx (pc' := 131) (x := (1 : Int32)) (z := (0 : Int32)) rfl (hb hby d5_128) rfl (by decide) (l' := #[.val (.ref ta), .val (.int (4 : Int32)), .val (.int (2 : Int32)), .val (.ref ca), .val (.int (3 : Int32)), .val (.int (0 : Int32)), .val (.int (3 : Int32)), .val (.double t5), .second, .val (.int (3 : Int32)), .unset, .unset]) rfl ?_
  refine g_goto X91 hx (pc' := 5) (hb hby d5_131) (by decide) (by decide) ?_
  refine g_iload X91 hx (pc' := 7) rfl (hb hby d5_5) rfl ?_
  refine g_ifN X91 hx (pcN := 10) (hb hby d5_7) rfl (show ¬ ((0 : Int32) < 0) from by decide) ?_
  refine g_iload X91 hx (pc' := 12) rfl (hb hby d5_10) rfl ?_
  refine g_iload X91 hx (pc' := 14) rfl (hb hby d5_12) rfl ?_
  refine g_imul X91 hx (pc' := 15) rfl (hb hby d5_14) ?_
  refine g_normI (z := (0 : Int32)) (by decide) ?_
  refine g_istore X91 hx (pc' := 17) rfl (hb hby d5_15) (l' := #[.val (.ref ta), .val (.int (4 : Int32)), .val (.int (2 : Int32)), .val (.ref ca), .val (.int (3 : Int32)), .val (.int (0 : Int32)), .val (.int (0 : Int32)), .val (.double t5), .second, .val (.int (3 : Int32)), .unset, .unset]) rfl ?_
  refine g_iload X91 hx (pc' := 19) rfl (hb hby d5_17) rfl ?_
  refine g_iconst X91 hx (pc' := 20) (z := (1 : Int32)) rfl (hb hby d5_19) rfl ?_
  refine g_iadd X91 hx (pc' := 21) rfl (hb hby d5_20) ?_
  refine g_normI (z := (1 : Int32)) (by decide) ?_
  refine g_istore X91 hx (pc' := 23) rfl (hb hby d5_21) (l' := #[.val (.ref ta), .val (.int (4 : Int32)), .val (.int (2 : Int32)), .val (.ref ca), .val (.int (3 : Int32)), .val (.int (0 : Int32)), .val (.int (0 : Int32)), .val (.int (1 : Int32)), .unset, .val (.int (3 : Int32)), .unset, .unset]) rfl ?_
  refine g_iload X91 hx (pc' := 25) rfl (hb hby d5_23) rfl ?_
  refine g_iloadN X91 hx (pc' := 26) rfl (hb hby d5_25) rfl ?_
  refine g_icmpN X91 hx (pcN := 29) (hb hby d5_26) rfl (show ¬ (¬ (1 : Int32) < (2 : Int32)) from by decide) ?_
  refine g_aloadN X91 hx (pc' := 30) rfl (hb hby d5_29) rfl rfl ?_
  refine g_iload X91 hx (pc' := 32) rfl (hb hby d5_30) rfl ?_
  refine g_iloadN X91 hx (pc' := 33) rfl (hb hby d5_32) rfl ?_
  refine g_imul X91 hx (pc' := 34) rfl (hb hby d5_33) ?_
  refine g_normI (z := (0 : Int32)) (by decide) ?_
  refine g_iload X91 hx (pc' := 36) rfl (hb hby d5_34) rfl ?_
  refine g_iadd X91 hx (pc' := 37) rfl (hb hby d5_36) ?_
  refine g_normI (z := (1 : Int32)) (by decide) ?_
  refine g_daload X91 hx hZ f92 (i := 1) (by decide) (show (1 : Nat) < 16 by decide) (v := t1) rfl (pc' := 38) rfl (hb hby d5_37) ?_
  refine g_dstore X91 hx (pc' := 40) rfl (hb hby d5_38) (l' := #[.val (.ref ta), .val (.int (4 : Int32)), .val (.int (2 : Int32)), .val (.ref ca), .val (.int (3 : Int32)), .val (.int (0 : Int32)), .val (.int (0 : Int32)), .val (.int (1 : Int32)), .val (.double t1), .second, .unset, .unset]) rfl ?_
  refine g_iload X91 hx (pc' := 42) rfl (hb hby d5_40) rfl ?_
  refine g_iload X91 hx (pc' := 44) rfl (hb hby d5_42) rfl ?_
  refine g_imul X91 hx (pc' := 45) rfl (hb hby d5_44) ?_
  refine g_normI (z := (3 : Int32)) (by decide) ?_
  refine g_istore X91 hx (pc' := 47) rfl (hb hby d5_45) (l' := #[.val (.ref ta), .val (.int (4 : Int32)), .val (.int (2 : Int32)), .val (.ref ca), .val (.int (3 : Int32)), .val (.int (0 : Int32)), .val (.int (0 : Int32)), .val (.int (1 : Int32)), .val (.double t1), .second, .val (.int (3 : Int32)), .unset]) rfl ?_
  refine g_iconst X91 hx (pc' := 48) (z := (0 : Int32)) rfl (hb hby d5_47) rfl ?_
  refine g_istore X91 hx (pc' := 50) rfl (hb hby d5_48) (l' := #[.val (.ref ta), .val (.int (4 : Int32)), .val (.int (2 : Int32)), .val (.ref ca), .val (.int (3 : Int32)), .val (.int (0 : Int32)), .val (.int (0 : Int32)), .val (.int (1 : Int32)), .val (.double t1), .second, .val (.int (3 : Int32)), .val (.int (0 : Int32))]) rfl ?_
  refine g_iload X91 hx (pc' := 52) rfl (hb hby d5_50) rfl ?_
  refine g_iload X91 hx (pc' := 54) rfl (hb hby d5_52) rfl ?_
  refine g_icmpN X91 hx (pcN := 57) (hb hby d5_54) rfl (show ¬ (¬ (0 : Int32) < (3 : Int32)) from by decide) ?_
  refine g_aloadN X91 hx (pc' := 58) rfl (hb hby d5_57) rfl rfl ?_
  refine g_iload X91 hx (pc' := 60) rfl (hb hby d5_58) rfl ?_
  refine g_iload X91 hx (pc' := 62) rfl (hb hby d5_60) rfl ?_
  refine g_iadd X91 hx (pc' := 63) rfl (hb hby d5_62) ?_
  refine g_normI (z := (0 : Int32)) (by decide) ?_
  refine g_dup2 X91 hx (pc' := 64) rfl (hb hby d5_63) rfl rfl ?_
  refine g_daload X91 hx hZ V91 (i := 0) (by decide) (show (0 : Nat) < 12 by decide) (v := c00) rfl (pc' := 65) rfl (hb hby d5_64) ?_
  refine g_dload X91 hx (pc' := 67) rfl (hb hby d5_65) rfl ?_
  refine g_aloadN X91 hx (pc' := 68) rfl (hb hby d5_67) rfl rfl ?_
  refine g_iload X91 hx (pc' := 70) rfl (hb hby d5_68) rfl ?_
  refine g_iload X91 hx (pc' := 72) rfl (hb hby d5_70) rfl ?_
  refine g_iadd X91 hx (pc' := 73) rfl (hb hby d5_72) ?_
  refine g_normI (z := (3 : Int32)) (by decide) ?_
  refine g_daload X91 hx hZ V91 (i := 3) (by decide) (show (3 : Nat) < 12 by decide) (v := d80) rfl (pc' := 74) rfl (hb hby d5_73) ?_
  have q95 : Dy (mt1 * mx10) 1074 (FP.dmul t1 d80) := dy_mul yt1 q80 (by decide) (own_mb bt1 bx10 (by decide)) (by decide)
  refine g_dmul X91 hx (pc' := 75) (z := (FP.dmul t1 d80)) rfl (hb hby d5_74) (dy_noNaN q95) rfl ?_
  refine g_absD (fun d95 hd95 => ?_)
  rw [← hd95] at q95
  obtain ⟨n95, en95⟩ : ∃ z : Int, z = mt1 * mx10 := ⟨_, rfl⟩
  rw [← en95] at q95
  have b95 : n95.natAbs ≤ 16384 := by rw [en95, Int.natAbs_mul]; exact Nat.le_trans (Nat.mul_le_mul bt1 bx10) (by decide)
  have q96 : Dy (mc00 - n95) 1074 (FP.dsub c00 d95) := dy_sub yc00 q95 (own_subb bc00 b95 (by decide)) (by decide)
  refine g_dsub X91 hx (pc' := 76) (z := (FP.dsub c00 d95)) rfl (hb hby d5_75) (dy_noNaN q96) rfl ?_
  refine g_absD (fun d96 hd96 => ?_)
  rw [← hd96] at q96
  obtain ⟨n96, en96⟩ : ∃ z : Int, z = mc00 - n95 := ⟨_, rfl⟩
  rw [← en96] at q96
  have b96 : n96.natAbs ≤ 65536 := by rw [en96]; exact Nat.le_trans (own_subl bc00 b95) (by decide)
  refine g_dastore X91 hx hZ V91 (i := 0) (by decide) (show (0 : Nat) < 12 by decide) hg (pc' := 77) rfl (hb hby d5_76) (fun T97 h97 X97 W97 N97 => ?_)
  have f98 := f92.other W97 hne
  have f99 := (by have q := (Keep.of_wr W97).1; exact Nat.le_trans f93 q : n0 ≤ h97.size)
  have f100 := f94.wr W97 (Or.inl (List.mem_of_getElem? (i := 0) rfl))
  have V97 : AD Z h97 ca [d96, c01, c02, d80, d85, d90, c20, c21, c22, c30, c31, c32] := N97
  refine g_iincC X97 hx (pc' := 80) (x := (0 : Int32)) (z := (1 : Int32)) rfl (hb hby d5_77) rfl (by decide) (l' := #[.val (.ref ta), .val (.int (4 : Int32)), .val (.int (2 : Int32)), .val (.ref ca), .val (.int (3 : Int32)), .val (.int (0 : Int32)), .val (.int (0 : Int32)), .val (.int (1 : Int32)), .val (.double t1), .second, .val (.int (3 : Int32)), .val (.int (1 : Int32))]) rfl ?_
  refine g_goto X97 hx (pc' := 50) (hb hby d5_80) (by decide) (by decide) ?_
  refine g_iload X97 hx (pc' := 52) rfl (hb hby d5_50) rfl ?_
  refine g_iload X97 hx (pc' := 54) rfl (hb hby d5_52) rfl ?_
  refine g_icmpN X97 hx (pcN := 57) (hb hby d5_54) rfl (show ¬ (¬ (1 : Int32) < (3 : Int32)) from by decide) ?_
  refine g_aloadN X97 hx (pc' := 58) rfl (hb hby d5_57) rfl rfl ?_
  refine g_iload X97 hx (pc' := 60) rfl (hb hby d5_58) rfl ?_
  refine g_iload X97 hx (pc' := 62) rfl (hb hby d5_60) rfl ?_
  refine g_iadd X97 hx (pc' := 63) rfl (hb hby d5_62) ?_
  refine g_normI (z := (1 : Int32)) (by decide) ?_
  refine g_dup2 X97 hx (pc' := 64) rfl (hb hby d5_63) rfl rfl ?_
  refine g_daload X97 hx hZ V97 (i := 1) (by decide) (show (1 : Nat) < 12 by decide) (v := c01) rfl (pc' := 65) rfl (hb hby d5_64) ?_
  refine g_dload X97 hx (pc' := 67) rfl (hb hby d5_65) rfl ?_
  refine g_aloadN X97 hx (pc' := 68) rfl (hb hby d5_67) rfl rfl ?_
  refine g_iload X97 hx (pc' := 70) rfl (hb hby d5_68) rfl ?_
  refine g_iload X97 hx (pc' := 72) rfl (hb hby d5_70) rfl ?_
  refine g_iadd X97 hx (pc' := 73) rfl (hb hby d5_72) ?_
  refine g_normI (z := (4 : Int32)) (by decide) ?_
  refine g_daload X97 hx hZ V97 (i := 4) (by decide) (show (4 : Nat) < 12 by decide) (v := d85) rfl (pc' := 74) rfl (hb hby d5_73) ?_
  have q101 : Dy (mt1 * mx11) 1074 (FP.dmul t1 d85) := dy_mul yt1 q85 (by decide) (own_mb bt1 bx11 (by decide)) (by decide)
  refine g_dmul X97 hx (pc' := 75) (z := (FP.dmul t1 d85)) rfl (hb hby d5_74) (dy_noNaN q101) rfl ?_
  refine g_absD (fun d101 hd101 => ?_)
  rw [← hd101] at q101
  obtain ⟨n101, en101⟩ : ∃ z : Int, z = mt1 * mx11 := ⟨_, rfl⟩
  rw [← en101] at q101
  have b101 : n101.natAbs ≤ 16384 := by rw [en101, Int.natAbs_mul]; exact Nat.le_trans (Nat.mul_le_mul bt1 bx11) (by decide)
  have q102 : Dy (mc01 - n101) 1074 (FP.dsub c01 d101) := dy_sub yc01 q101 (own_subb bc01 b101 (by decide)) (by decide)
  refine g_dsub X97 hx (pc' := 76) (z := (FP.dsub c01 d101)) rfl (hb hby d5_75) (dy_noNaN q102) rfl ?_
  refine g_absD (fun d102 hd102 => ?_)
  rw [← hd102] at q102
  obtain ⟨n102, en102⟩ : ∃ z : Int, z = mc01 - n101 := ⟨_, rfl⟩
  rw [← en102] at q102
  have b102 : n102.natAbs ≤ 65536 := by rw [en102]; exact Nat.le_trans (own_subl bc01 b101) (by decide)
  refine g_dastore X97 hx hZ V97 (i := 1) (by decide) (show (1 : Nat) < 12 by decide) hg (pc' := 77) rfl (hb hby d5_76) (fun T103 h103 X103 W103 N103 => ?_)
  have f104 := f98.other W103 hne
  have f105 := (by have q := (Keep.of_wr W103).1; exact Nat.le_trans f99 q : n0 ≤ h103.size)
  have f106 := f100.wr W103 (Or.inl (List.mem_of_getElem? (i := 0) rfl))
  have V103 : AD Z h103 ca [d96, d102, c02, d80, d85, d90, c20, c21, c22, c30, c31, c32] := N103
  refine g_iincC X103 hx (pc' := 80) (x := (1 : Int32)) (z := (2 : Int32)) rfl (hb hby d5_77) rfl (by decide) (l' := #[.val (.ref ta), .val (.int (4 : Int32)), .val (.int (2 : Int32)), .val (.ref ca), .val (.int (3 : Int32)), .val (.int (0 : Int32)), .val (.int (0 : Int32)), .val (.int (1 : Int32)), .val (.double t1), .second, .val (.int (3 : Int32)), .val (.int (2 : Int32))]) rfl ?_
  refine g_goto X103 hx (pc' := 50) (hb hby d5_80) (by decide) (by decide) ?_
  refine g_iload X103 hx (pc' := 52) rfl (hb hby d5_50) rfl ?_
  refine g_iload X103 hx (pc' := 54) rfl (hb hby d5_52) rfl ?_
  refine g_icmpN X103 hx (pcN := 57) (hb hby d5_54) rfl (show ¬ (¬ (2 : Int32) < (3 : Int32)) from by decide) ?_
  refine g_aloadN X103 hx (pc' := 58) rfl (hb hby d5_57) rfl rfl ?_
  refine g_iload X103 hx (pc' := 60) rfl (hb hby d5_58) rfl ?_
  refine g_iload X103 hx (pc' := 62) rfl (hb hby d5_60) rfl ?_
  refine g_iadd X103 hx (pc' := 63) rfl (hb hby d5_62) ?_
  refine g_normI (z := (2 : Int32)) (by decide) ?_
  refine g_dup2 X103 hx (pc' := 64) rfl (hb hby d5_63) rfl rfl ?_
  refine g_daload X103 hx hZ V103 (i := 2) (by decide) (show (2 : Nat) < 12 by decide) (v := c02) rfl (pc' := 65) rfl (hb hby d5_64) ?_
  refine g_dload X103 hx (pc' := 67) rfl (hb hby d5_65) rfl ?_
  refine g_aloadN X103 hx (pc' := 68) rfl (hb hby d5_67) rfl rfl ?_
  refine g_iload X103 hx (pc' := 70) rfl (hb hby d5_68) rfl ?_
  refine g_iload X103 hx (pc' := 72) rfl (hb hby d5_70) rfl ?_
  refine g_iadd X103 hx (pc' := 73) rfl (hb hby d5_72) ?_
  refine g_normI (z := (5 : Int32)) (by decide) ?_
  refine g_daload X103 hx hZ V103 (i := 5) (by decide) (show (5 : Nat) < 12 by decide) (v := d90) rfl (pc' := 74) rfl (hb hby d5_73) ?_
  have q107 : Dy (mt1 * mx12) 1074 (FP.dmul t1 d90) := dy_mul yt1 q90 (by decide) (own_mb bt1 bx12 (by decide)) (by decide)
  refine g_dmul X103 hx (pc' := 75) (z := (FP.dmul t1 d90)) rfl (hb hby d5_74) (dy_noNaN q107) rfl ?_
  refine g_absD (fun d107 hd107 => ?_)
  rw [← hd107] at q107
  obtain ⟨n107, en107⟩ : ∃ z : Int, z = mt1 * mx12 := ⟨_, rfl⟩
  rw [← en107] at q107
  have b107 : n107.natAbs ≤ 16384 := by rw [en107, Int.natAbs_mul]; exact Nat.le_trans (Nat.mul_le_mul bt1 bx12) (by decide)
  have q108 : Dy (mc02 - n107) 1074 (FP.dsub c02 d107) := dy_sub yc02 q107 (own_subb bc02 b107 (by decide)) (by decide)
  refine g_dsub X103 hx (pc' := 76) (z := (FP.dsub c02 d107)) rfl (hb hby d5_75) (dy_noNaN q108) rfl ?_
  refine g_absD (fun d108 hd108 => ?_)
  rw [← hd108] at q108
  obtain ⟨n108, en108⟩ : ∃ z : Int, z = mc02 - n107 := ⟨_, rfl⟩
  rw [← en108] at q108
  have b108 : n108.natAbs ≤ 65536 := by rw [en108]; exact Nat.le_trans (own_subl bc02 b107) (by decide)
  refine g_dastore X103 hx hZ V103 (i := 2) (by decide) (show (2 : Nat) < 12 by decide) hg (pc' := 77) rfl (hb hby d5_76) (fun T109 h109 X109 W109 N109 => ?_)
  have f110 := f104.other W109 hne
  have f111 := (by have q := (Keep.of_wr W109).1; exact Nat.le_trans f105 q : n0 ≤ h109.size)
  have f112 := f106.wr W109 (Or.inl (List.mem_of_getElem? (i := 0) rfl))
  have V109 : AD Z h109 ca [d96, d102, d108, d80, d85, d90, c20, c21, c22, c30, c31, c32] := N109
  refine g_iincC X109 hx (pc' := 80) (x := (2 : Int32)) (z := (3 : Int32)) rfl (hb hby d5_77) rfl (by decide) (l' := #[.val (.ref ta), .val (.int (4 : Int32)), .val (.int (2 : Int32)), .val (.ref ca), .val (.int (3 : Int32)), .val (.int (0 : Int32)), .val (.int (0 : Int32)), .val (.int (1 : Int32)), .val (.double t1), .second, .val (.int (3 : Int32)), .val (.int (3 : Int32))]) rfl ?_
  refine g_goto X109 hx (pc' := 50) (hb hby d5_80) (by decide) (by decide) ?_
  refine g_iload X109 hx (pc' := 52) rfl (hb hby d5_50) rfl ?_
  refine g_iload X109 hx (pc' := 54) rfl (hb hby d5_52) rfl ?_
  refine g_icmpY X109 hx (pcY := 83) (hb hby d5_54) (by decide) (by decide) (show ¬ (3 : Int32) < (3 : Int32) from by decide) ?_
  refine g_iincC X109 hx (pc' := 86) (x := (1 : Int32)) (z := (2 : Int32)) rfl (hb hby d5_83) rfl (by decide) (l' := #[.val (.ref ta), .val (.int (4 : Int32)), .val (.int (2 : Int32)), .val (.ref ca), .val (.int (3 : Int32)), .val (.int (0 : Int32)), .val (.int (0 : Int32)), .val (.int (2 : Int32)), .val (.double t1), .second, .val (.int (3 : Int32)), .val (.int (3 : Int32))]) rfl ?_
  refine g_goto X109 hx (pc' := 23) (hb hby d5_86) (by decide) (by decide) ?_
  refine g_iload X109 hx (pc' := 25) rfl (hb hby d5_23) rfl ?_
  refine g_iloadN X109 hx (pc' := 26) rfl (hb hby d5_25) rfl ?_
  refine g_icmpY X109 hx (pcY := 89) (hb hby d5_26) (by decide) (by decide) (show ¬ (2 : Int32) < (2 : Int32) from by decide) ?_
  refine g_aloadN X109 hx (pc' := 90) rfl (hb hby d5_89) rfl rfl ?_
  refine g_iload X109 hx (pc' := 92) rfl (hb hby d5_90) rfl ?_
  refine g_iloadN X109 hx (pc' := 93) rfl (hb hby d5_92) rfl ?_
  refine g_imul X109 hx (pc' := 94) rfl (hb hby d5_93) ?_
  refine g_normI (z := (0 : Int32)) (by decide) ?_
  refine g_iload X109 hx (pc' := 96) rfl (hb hby d5_94) rfl ?_
  refine g_iadd X109 hx (pc' := 97) rfl (hb hby d5_96) ?_
  refine g_normI (z := (0 : Int32)) (by decide) ?_
  refine g_daload X109 hx hZ f110 (i := 0) (by decide) (show (0 : Nat) < 16 by decide) (v := t0) rfl (pc' := 98) rfl (hb hby d5_97) ?_
  refine g_dstore X109 hx (pc' := 100) rfl (hb hby d5_98) (l' := #[.val (.ref ta), .val (.int (4 : Int32)), .val (.int (2 : Int32)), .val (.ref ca), .val (.int (3 : Int32)), .val (.int (0 : Int32)), .val (.int (0 : Int32)), .val (.double t0), .second, .unset, .val (.int (3 : Int32)), .val (.int (3 : Int32))]) rfl ?_
  refine g_iconst X109 hx (pc' := 101) (z := (0 : Int32)) rfl (hb hby d5_100) rfl ?_
  refine g_istore X109 hx (pc' := 103) rfl (hb hby d5_101) (l' := #[.val (.ref ta), .val (.int (4 : Int32)), .val (.int (2 : Int32)), .val (.ref ca), .val (.int (3 : Int32)), .val (.int (0 : Int32)), .val (.int (0 : Int32)), .val (.double t0), .second, .val (.int (0 : Int32)), .val (.int (3 : Int32)), .val (.int (3 : Int32))]) rfl ?_
  refine g_iload X109 hx (pc' := 105) rfl (hb hby d5_103) rfl ?_
  refine g_iload X109 hx (pc' := 107) rfl (hb hby d5_105) rfl ?_
  refine g_icmpN X109 hx (pcN := 110) (hb hby d5_107) rfl (show ¬ (¬ (0 : Int32) < (3 : Int32)) from by decide) ?_
  refine g_aloadN X109 hx (pc' := 111) rfl (hb hby d5_110) rfl rfl ?_
  refine g_iload X109 hx (pc' := 113) rfl (hb hby d5_111) rfl ?_
  refine g_iload X109 hx (pc' := 115) rfl (hb hby d5_113) rfl ?_
  refine g_iadd X109 hx (pc' := 116) rfl (hb hby d5_115) ?_
  refine g_normI (z := (0 : Int32)) (by decide) ?_
  refine g_dup2 X109 hx (pc' := 117) rfl (hb hby d5_116) rfl rfl ?_
  refine g_daload X109 hx hZ V109 (i := 0) (by decide) (show (0 : Nat) < 12 by decide) (v := d96) rfl (pc' := 118) rfl (hb hby d5_117) ?_
  refine g_dload X109 hx (pc' := 120) rfl (hb hby d5_118) rfl ?_
  have q113 : Dy mx00 1074 (FP.ddiv d96 t0) := dy_div q96 yt0 hz0 (by rw [en96, en95]; exact own_g1 ec00) rfl (Nat.lt_of_le_of_lt bx00 (by decide)) (by decide)
  refine g_ddiv X109 hx (pc' := 121) (z := (FP.ddiv d96 t0)) rfl (hb hby d5_120) (dy_noNaN q113) rfl ?_
  refine g_absD (fun d113 hd113 => ?_)
  rw [← hd113] at q113
  refine g_dastore X109 hx hZ V109 (i := 0) (by decide) (show (0 : Nat) < 12 by decide) hg (pc' := 122) rfl (hb hby d5_121) (fun T114 h114 X114 W114 N114 => ?_)
  have f115 := f110.other W114 hne
  have f116 := (by have q := (Keep.of_wr W114).1; exact Nat.le_trans f111 q : n0 ≤ h114.size)
  have f117 := f112.wr W114 (Or.inl (List.mem_of_getElem? (i := 0) rfl))
  have V114 : AD Z h114 ca [d113, d102, d108, d80, d85, d90, c20, c21, c22, c30, c31, c32] := N114
  refine g_iincC X114 hx (pc' := 125) (x := (0 : Int32)) (z := (1 : Int32)) rfl (hb hby d5_122) rfl (by decide) (l' := #[.val (.ref ta), .val (.int (4 : Int32)), .val (.int (2 : Int32)), .val (.ref ca), .val (.int (3 : Int32)), .val (.int (0 : Int32)), .val (.int (0 : Int32)), .val (.double t0), .second, .val (.int (1 : Int32)), .val (.int (3 : Int32)), .val (.int (3 : Int32))]) rfl ?_
  refine g_goto X114 hx (pc' := 103) (hb hby d5_125) (by decide) (by decide) ?_
  refine g_iload X114 hx (pc' := 105) rfl (hb hby d5_103) rfl ?_
  refine g_iload X114 hx (pc' := 107) rfl (hb hby d5_105) rfl ?_
  refine g_icmpN X114 hx (pcN := 110) (hb hby d5_107) rfl (show ¬ (¬ (1 : Int32) < (3 : Int32)) from by decide) ?_
  refine g_aloadN X114 hx (pc' := 111) rfl (hb hby d5_110) rfl rfl ?_
  refine g_iload X114 hx (pc' := 113) rfl (hb hby d5_111) rfl ?_
  refine g_iload X114 hx (pc' := 115) rfl (hb hby d5_113) rfl ?_
  refine g_iadd X114 hx (pc' := 116) rfl (hb hby d5_115) ?_
  refine g_normI (z := (1 : Int32)) (by decide) ?_
  refine g_dup2 X114 hx (pc' := 117) rfl (hb hby d5_116) rfl rfl ?_
  refine g_daload X114 hx hZ V114 (i := 1) (by decide) (show (1 : Nat) < 12 by decide) (v := d102) rfl (pc' := 118) rfl (hb hby d5_117) ?_
  refine g_dload X114 hx (pc' := 120) rfl (hb hby d5_118) rfl ?_
  have q118 : Dy mx01 1074 (FP.ddiv d102 t0) := dy_div q102 yt0 hz0 (by rw [en102, en101]; exact own_g1 ec01) rfl (Nat.lt_of_le_of_lt bx01 (by decide)) (by decide)
  refine g_ddiv X114 hx (pc' := 121) (z := (FP.ddiv d102 t0)) rfl (hb hby d5_120) (dy_noNaN q118) rfl ?_
  refine g_absD (fun d118 hd118 => ?_)
  rw [← hd118] at q118
  refine g_dastore X114 hx hZ V114 (i := 1) (by decide) (show (1 : Nat) < 12 by decide) hg (pc' := 122) rfl (hb hby d5_121) (fun T119 h119 X119 W119 N119 => ?_)
  have f120 := f115.other W119 hne
  have f121 := (by have q := (Keep.of_wr W119).1; exact Nat.le_trans f116 q : n0 ≤ h119.size)
  have f122 := f117.wr W119 (Or.inl (List.mem_of_getElem? (i := 0) rfl))
  have V119 : AD Z h119 ca [d113, d118, d108, d80, d85, d90, c20, c21, c22, c30, c31, c32] := N119
  refine g_iincC X119 hx (pc' := 125) (x := (1 : Int32)) (z := (2 : Int32)) rfl (hb hby d5_122) rfl (by decide) (l' := #[.val (.ref ta), .val (.int (4 : Int32)), .val (.int (2 : Int32)), .val (.ref ca), .val (.int (3 : Int32)), .val (.int (0 : Int32)), .val (.int (0 : Int32)), .val (.double t0), .second, .val (.int (2 : Int32)), .val (.int (3 : Int32)), .val (.int (3 : Int32))]) rfl ?_
  refine g_goto X119 hx (pc' := 103) (hb hby d5_125) (by decide) (by decide) ?_
  refine g_iload X119 hx (pc' := 105) rfl (hb hby d5_103) rfl ?_
  refine g_iload X119 hx (pc' := 107) rfl (hb hby d5_105) rfl ?_
  refine g_icmpN X119 hx (pcN := 110) (hb hby d5_107) rfl (show ¬ (¬ (2 : Int32) < (3 : Int32)) from by decide) ?_
  refine g_aloadN X119 hx (pc' := 111) rfl (hb hby d5_110) rfl rfl ?_
  refine g_iload X119 hx (pc' := 113) rfl (hb hby d5_111) rfl ?_
  refine g_iload X119 hx (pc' := 115) rfl (hb hby d5_113) rfl ?_
  refine g_iadd X119 hx (pc' := 116) rfl (hb hby d5_115) ?_
  refine g_normI (z := (2 : Int32)) (by decide) ?_
  refine g_dup2 X119 hx (pc' := 117) rfl (hb hby d5_116) rfl rfl ?_
  refine g_daload X119 hx hZ V119 (i := 2) (by decide) (show (2 : Nat) < 12 by decide) (v := d108) rfl (pc' := 118) rfl (hb hby d5_117) ?_
  refine g_dload X119 hx (pc' := 120) rfl (hb hby d5_118) rfl ?_
  have q123 : Dy mx02 1074 (FP.ddiv d108 t0) := dy_div q108 yt0 hz0 (by rw [en108, en107]; exact own_g1 ec02) rfl (Nat.lt_of_le_of_lt bx02 (by decide)) (by decide)
  refine g_ddiv X119 hx (pc' := 121) (z := (FP.ddiv d108 t0)) rfl (hb hby d5_120) (dy_noNaN q123) rfl ?_
  refine g_absD (fun d123 hd123 => ?_)
  rw [← hd123] at q123
  refine g_dastore X119 hx hZ V119 (i := 2) (by decide) (show (2 : Nat) < 12 by decide) hg (pc' := 122) rfl (hb hby d5_121) (fun T124 h124 X124 W124 N124 => ?_)
  have f125 := f120.other W124 hne
  have f126 := (by have q := (Keep.of_wr W124).1; exact Nat.le_trans f121 q : n0 ≤ h124.size)
  have f127 := f122.wr W124 (Or.inl (List.mem_of_getElem? (i := 0) rfl))
  have V124 : AD Z h124 ca [d113, d118, d123, d80, d85, d90, c20, c21, c22, c30, c31, c32] := N124
  refine g_iincC X124 hx (pc' := 125) (x := (2 : Int32)) (z := (3 : Int32)) rfl (hb hby d5_122) rfl (by decide) (l' := #[.val (.ref ta), .val (.int (4 : Int32)), .val (.int (2 : Int32)), .val (.ref ca), .val (.int (3 : Int32)), .val (.int (0 : Int32)), .val (.int (0 : Int32)), .val (.double t0), .second, .val (.int (3 : Int32)), .val (.int (3 : Int32)), .val (.int (3 : Int32))]) rfl ?_
  refine g_goto X124 hx (pc' := 103) (hb hby d5_125) (by decide) (by decide) ?_
  refine g_iload X124 hx (pc' := 105) rfl (hb hby d5_103) rfl ?_
  refine g_iload X124 hx (pc' := 107) rfl (hb hby d5_105) rfl ?_
  refine g_icmpY X124 hx (pcY := 128) (hb hby d5_107) (by decide) (by decide) (show ¬ (3 : Int32) < (3 : Int32) from by decide) ?_
  refine g_iincC X124 hx (pc' := 131) (x := (0 : Int32)) (z := (-1 : Int32)) rfl (hb hby d5_128) rfl (by decide) (l' := #[.val (.ref ta), .val (.int (4 : Int32)), .val (.int (2 : Int32)), .val (.ref ca), .val (.int (3 : Int32)), .val (.int (-1 : Int32)), .val (.int (0 : Int32)), .val (.double t0), .second, .val (.int (3 : Int32)), .val (.int (3 : Int32)), .val (.int (3 : Int32))]) rfl ?_
  refine g_goto X124 hx (pc' := 5) (hb hby d5_131) (by decide) (by decide) ?_
  refine g_iload X124 hx (pc' := 7) rfl (hb hby d5_5) rfl ?_
  refine g_ifY X124 hx (pcY := 134) (hb hby d5_7) (by decide) (by decide) (show (-1 : Int32) < 0 from by decide) ?_
  exact g_retV X124 hx hlk hret (hb hby d5_134) (by decide) (by decide) (⟨rfl, f127, _, V124, rfl, fun _ => own_dyeq q113 yx00 rfl, fun _ => own_dyeq q118 yx01 rfl, fun _ => own_dyeq q123 yx02 rfl, fun _ => own_dyeq q80 yx10 rfl, fun _ => own_dyeq q85 yx11 rfl, fun _ => own_dyeq q90 yx12 rfl, fun _ => own_dyeq yc20 yx20 ec20, fun _ => own_dyeq yc21 yx21 ec21, fun _ => own_dyeq yc22 yx22 ec22, fun _ => own_dyeq yc30 yx30 ec30, fun _ => own_dyeq yc31 yx31 ec31, fun _ => own_dyeq yc32 yx32 ec32⟩)
set_option maxRecDepth 65536 in
set_option maxHeartbeats 40000000 in
theorem rm5_3_0 (l : Launch) (Z : State) (a0 : Array Value) (hw : ∀ d ∈ tables_1, d.before a0 Z = true) (ws : List Jvm.Cond) (n0 : Nat) (ta ca : Addr) (t0 : UInt64) (t1 : UInt64) (t2 : UInt64) (t3 : UInt64) (t4 : UInt64) (t5 : UInt64) (t6 : UInt64) (t7 : UInt64) (t8 : UInt64) (t9 : UInt64) (t10 : UInt64) (t11 : UInt64) (t12 : UInt64) (t13 : UInt64) (t14 : UInt64) (t15 : UInt64) (mt0 : Int) (mt1 : Int) (mt2 : Int) (mt5 : Int) (mt6 : Int) (mt10 : Int)  (x00 : Int64) (mx00 : Int) (x01 : Int64) (mx01 : Int) (x02 : Int64) (mx02 : Int) (x10 : Int64) (mx10 : Int) (x11 : Int64) (mx11 : Int) (x12 : Int64) (mx12 : Int) (x20 : Int64) (mx20 : Int) (x21 : Int64) (mx21 : Int) (x22 : Int64) (mx22 : Int) (x30 : Int64) (mx30 : Int) (x31 : Int64) (mx31 : Int) (x32 : Int64) (mx32 : Int) (h0 : Heap) (hn0 : n0 ≤ h0.size) (At : AD Z h0 ta [t0, t1, t2, t3, t4, t5, t6, t7, t8, t9, t10, t11, t12, t13, t14, t15]) (Ac : AD Z h0 ca []) (hne : ta ≠ ca) (hg : n0 ≤ ca) (yt0 : Dy mt0 1074 t0) (bt0 : mt0.natAbs ≤ 128) (yt1 : Dy mt1 1074 t1) (bt1 : mt1.natAbs ≤ 128) (yt2 : Dy mt2 1074 t2) (bt2 : mt2.natAbs ≤ 128) (yt5 : Dy mt5 1074 t5) (bt5 : mt5.natAbs ≤ 128) (yt6 : Dy mt6 1074 t6) (bt6 : mt6.natAbs ≤ 128) (yt10 : Dy mt10 1074 t10) (bt10 : mt10.natAbs ≤ 128) (hz0 : mt0 ≠ 0) (hz5 : mt5 ≠ 0) (hz10 : mt10 ≠ 0)  (yx00 : Dy mx00 1074 (FP.l2d x00)) (bx00 : mx00.natAbs ≤ 128) (yx01 : Dy mx01 1074 (FP.l2d x01)) (bx01 : mx01.natAbs ≤ 128) (yx02 : Dy mx02 1074 (FP.l2d x02)) (bx02 : mx02.natAbs ≤ 128) (yx10 : Dy mx10 1074 (FP.l2d x10)) (bx10 : mx10.natAbs ≤ 128) (yx11 : Dy mx11 1074 (FP.l2d x11)) (bx11 : mx11.natAbs ≤ 128) (yx12 : Dy mx12 1074 (FP.l2d x12)) (bx12 : mx12.natAbs ≤ 128) (yx20 : Dy mx20 1074 (FP.l2d x20)) (bx20 : mx20.natAbs ≤ 128) (yx21 : Dy mx21 1074 (FP.l2d x21)) (bx21 : mx21.natAbs ≤ 128) (yx22 : Dy mx22 1074 (FP.l2d x22)) (bx22 : mx22.natAbs ≤ 128) (yx30 : Dy mx30 1074 (FP.l2d x30)) (bx30 : mx30.natAbs ≤ 128) (yx31 : Dy mx31 1074 (FP.l2d x31)) (bx31 : mx31.natAbs ≤ 128) (yx32 : Dy mx32 1074 (FP.l2d x32)) (bx32 : mx32.natAbs ≤ 128) :
    Con l Z n0 (⟨"com/example/orthogon/orthogon/Triangular", "solveUpper", "([DII[DI)V"⟩ : MethodName) prog_16_method_3_code 12 none ws ({ frames := 0, cells := 0, slots := 0, locals := 0 } : Room) #[(.ref ta), (.int (4 : Int32)), (.int (3 : Int32)), (.ref ca), (.int (0 : Int32))] h0 (fun v h => v = none ∧ Keep h0 h [ca] ∧ ∃ xs, AD Z h ca xs ∧ xs.length = 4 * 0 ∧ (0 < 0 → cmpValue (FP.dcmp (xs.getD (0 * 0 + 0) 0) (FP.l2d x00)) .l = 0) ∧ (1 < 0 → cmpValue (FP.dcmp (xs.getD (0 * 0 + 1) 0) (FP.l2d x01)) .l = 0) ∧ (2 < 0 → cmpValue (FP.dcmp (xs.getD (0 * 0 + 2) 0) (FP.l2d x02)) .l = 0) ∧ (0 < 0 → cmpValue (FP.dcmp (xs.getD (1 * 0 + 0) 0) (FP.l2d x10)) .l = 0) ∧ (1 < 0 → cmpValue (FP.dcmp (xs.getD (1 * 0 + 1) 0) (FP.l2d x11)) .l = 0) ∧ (2 < 0 → cmpValue (FP.dcmp (xs.getD (1 * 0 + 2) 0) (FP.l2d x12)) .l = 0) ∧ (0 < 0 → cmpValue (FP.dcmp (xs.getD (2 * 0 + 0) 0) (FP.l2d x20)) .l = 0) ∧ (1 < 0 → cmpValue (FP.dcmp (xs.getD (2 * 0 + 1) 0) (FP.l2d x21)) .l = 0) ∧ (2 < 0 → cmpValue (FP.dcmp (xs.getD (2 * 0 + 2) 0) (FP.l2d x22)) .l = 0) ∧ (0 < 0 → cmpValue (FP.dcmp (xs.getD (3 * 0 + 0) 0) (FP.l2d x30)) .l = 0) ∧ (1 < 0 → cmpValue (FP.dcmp (xs.getD (3 * 0 + 1) 0) (FP.l2d x31)) .l = 0) ∧ (2 < 0 → cmpValue (FP.dcmp (xs.getD (3 * 0 + 2) 0) (FP.l2d x32)) .l = 0)) := by
  refine con_start (plainFor_of_name (by first | (simp [plainName, overriddenIn]; done) | decide +kernel)) (fr0 := fun m => mkF m 0 #[.val (.ref ta), .val (.int (4 : Int32)), .val (.int (3 : Int32)), .val (.ref ca), .val (.int (0 : Int32)), .unset, .unset, .unset, .unset, .unset, .unset, .unset] []) (fun m => by first | (simp [entryFrame, mkF, argsToLocals, Value.category]; done) | rfl) ?_
  intro p e s m below meth c T0 hx hZ hby hml hown hnm hret hlk X0
  replace hown : s.vm.findClass "com/example/orthogon/orthogon/Triangular" = some m.cls := hown
  replace hml : c.maxLocals = 12 := hml
  refine g_iloadN X0 hx (pc' := 1) rfl (hb hby d5_0) rfl ?_
  refine g_iconst X0 hx (pc' := 2) (z := (1 : Int32)) rfl (hb hby d5_1) rfl ?_
  refine g_isub X0 hx (pc' := 3) rfl (hb hby d5_2) ?_
  refine g_normI (z := (2 : Int32)) (by decide) ?_
  refine g_istore X0 hx (pc' := 5) rfl (hb hby d5_3) (l' := #[.val (.ref ta), .val (.int (4 : Int32)), .val (.int (3 : Int32)), .val (.ref ca), .val (.int (0 : Int32)), .val (.int (2 : Int32)), .unset, .unset, .unset, .unset, .unset, .unset]) rfl ?_
  refine g_iload X0 hx (pc' := 7) rfl (hb hby d5_5) rfl ?_
  refine g_ifN X0 hx (pcN := 10) (hb hby d5_7) rfl (show ¬ ((2 : Int32) < 0) from by decide) ?_
  refine g_iload X0 hx (pc' := 12) rfl (hb hby d5_10) rfl ?_
  refine g_iload X0 hx (pc' := 14) rfl (hb hby d5_12) rfl ?_
  refine g_imul X0 hx (pc' := 15) rfl (hb hby d5_14) ?_
  refine g_normI (z := (0 : Int32)) (by decide) ?_
  refine g_istore X0 hx (pc' := 17) rfl (hb hby d5_15) (l' := #[.val (.ref ta), .val (.int (4 : Int32)), .val (.int (3 : Int32)), .val (.ref ca), .val (.int (0 : Int32)), .val (.int (2 : Int32)), .val (.int (0 : Int32)), .unset, .unset, .unset, .unset, .unset]) rfl ?_
  refine g_iload X0 hx (pc' := 19) rfl (hb hby d5_17) rfl ?_
  refine g_iconst X0 hx (pc' := 20) (z := (1 : Int32)) rfl (hb hby d5_19) rfl ?_
  refine g_iadd X0 hx (pc' := 21) rfl (hb hby d5_20) ?_
  refine g_normI (z := (3 : Int32)) (by decide) ?_
  refine g_istore X0 hx (pc' := 23) rfl (hb hby d5_21) (l' := #[.val (.ref ta), .val (.int (4 : Int32)), .val (.int (3 : Int32)), .val (.ref ca), .val (.int (0 : Int32)), .val (.int (2 : Int32)), .val (.int (0 : Int32)), .val (.int (3 : Int32)), .unset, .unset, .unset, .unset]) rfl ?_
  refine g_iload X0 hx (pc' := 25) rfl (hb hby d5_23) rfl ?_
  refine g_iloadN X0 hx (pc' := 26) rfl (hb hby d5_25) rfl ?_
  refine g_icmpY X0 hx (pcY := 89) (hb hby d5_26) (by decide) (by decide) (show ¬ (3 : Int32) < (3 : Int32) from by decide) ?_
  refine g_aloadN X0 hx (pc' := 90) rfl (hb hby d5_89) rfl rfl ?_
  refine g_iload X0 hx (pc' := 92) rfl (hb hby d5_90) rfl ?_
  refine g_iloadN X0 hx (pc' := 93) rfl (hb hby d5_92) rfl ?_
  refine g_imul X0 hx (pc' := 94) rfl (hb hby d5_93) ?_
  refine g_normI (z := (8 : Int32)) (by decide) ?_
  refine g_iload X0 hx (pc' := 96) rfl (hb hby d5_94) rfl ?_
  refine g_iadd X0 hx (pc' := 97) rfl (hb hby d5_96) ?_
  refine g_normI (z := (10 : Int32)) (by decide) ?_
  refine g_daload X0 hx hZ At (i := 10) (by decide) (show (10 : Nat) < 16 by decide) (v := t10) rfl (pc' := 98) rfl (hb hby d5_97) ?_
  refine g_dstore X0 hx (pc' := 100) rfl (hb hby d5_98) (l' := #[.val (.ref ta), .val (.int (4 : Int32)), .val (.int (3 : Int32)), .val (.ref ca), .val (.int (0 : Int32)), .val (.int (2 : Int32)), .val (.int (0 : Int32)), .val (.double t10), .second, .unset, .unset, .unset]) rfl ?_
  refine g_iconst X0 hx (pc' := 101) (z := (0 : Int32)) rfl (hb hby d5_100) rfl ?_
  refine g_istore X0 hx (pc' := 103) rfl (hb hby d5_101) (l' := #[.val (.ref ta), .val (.int (4 : Int32)), .val (.int (3 : Int32)), .val (.ref ca), .val (.int (0 : Int32)), .val (.int (2 : Int32)), .val (.int (0 : Int32)), .val (.double t10), .second, .val (.int (0 : Int32)), .unset, .unset]) rfl ?_
  refine g_iload X0 hx (pc' := 105) rfl (hb hby d5_103) rfl ?_
  refine g_iload X0 hx (pc' := 107) rfl (hb hby d5_105) rfl ?_
  refine g_icmpY X0 hx (pcY := 128) (hb hby d5_107) (by decide) (by decide) (show ¬ (0 : Int32) < (0 : Int32) from by decide) ?_
  refine g_iincC X0 hx (pc' := 131) (x := (2 : Int32)) (z := (1 : Int32)) rfl (hb hby d5_128) rfl (by decide) (l' := #[.val (.ref ta), .val (.int (4 : Int32)), .val (.int (3 : Int32)), .val (.ref ca), .val (.int (0 : Int32)), .val (.int (1 : Int32)), .val (.int (0 : Int32)), .val (.double t10), .second, .val (.int (0 : Int32)), .unset, .unset]) rfl ?_
  refine g_goto X0 hx (pc' := 5) (hb hby d5_131) (by decide) (by decide) ?_
  refine g_iload X0 hx (pc' := 7) rfl (hb hby d5_5) rfl ?_
  refine g_ifN X0 hx (pcN := 10) (hb hby d5_7) rfl (show ¬ ((1 : Int32) < 0) from by decide) ?_
  refine g_iload X0 hx (pc' := 12) rfl (hb hby d5_10) rfl ?_
  refine g_iload X0 hx (pc' := 14) rfl (hb hby d5_12) rfl ?_
  refine g_imul X0 hx (pc' := 15) rfl (hb hby d5_14) ?_
  refine g_normI (z := (0 : Int32)) (by decide) ?_
  refine g_istore X0 hx (pc' := 17) rfl (hb hby d5_15) (l' := #[.val (.ref ta), .val (.int (4 : Int32)), .val (.int (3 : Int32)), .val (.ref ca), .val (.int (0 : Int32)), .val (.int (1 : Int32)), .val (.int (0 : Int32)), .val (.double t10), .second, .val (.int (0 : Int32)), .unset, .unset]) rfl ?_
  refine g_iload X0 hx (pc' := 19) rfl (hb hby d5_17) rfl ?_
  refine g_iconst X0 hx (pc' := 20) (z := (1 : Int32)) rfl (hb hby d5_19) rfl ?_
  refine g_iadd X0 hx (pc' := 21) rfl (hb hby d5_20) ?_
  refine g_normI (z := (2 : Int32)) (by decide) ?_
  refine g_istore X0 hx (pc' := 23) rfl (hb hby d5_21) (l' := #[.val (.ref ta), .val (.int (4 : Int32)), .val (.int (3 : Int32)), .val (.ref ca), .val (.int (0 : Int32)), .val (.int (1 : Int32)), .val (.int (0 : Int32)), .val (.int (2 : Int32)), .unset, .val (.int (0 : Int32)), .unset, .unset]) rfl ?_
  refine g_iload X0 hx (pc' := 25) rfl (hb hby d5_23) rfl ?_
  refine g_iloadN X0 hx (pc' := 26) rfl (hb hby d5_25) rfl ?_
  refine g_icmpN X0 hx (pcN := 29) (hb hby d5_26) rfl (show ¬ (¬ (2 : Int32) < (3 : Int32)) from by decide) ?_
  refine g_aloadN X0 hx (pc' := 30) rfl (hb hby d5_29) rfl rfl ?_
  refine g_iload X0 hx (pc' := 32) rfl (hb hby d5_30) rfl ?_
  refine g_iloadN X0 hx (pc' := 33) rfl (hb hby d5_32) rfl ?_
  refine g_imul X0 hx (pc' := 34) rfl (hb hby d5_33) ?_
  refine g_normI (z := (4 : Int32)) (by decide) ?_
  refine g_iload X0 hx (pc' := 36) rfl (hb hby d5_34) rfl ?_
  refine g_iadd X0 hx (pc' := 37) rfl (hb hby d5_36) ?_
  refine g_normI (z := (6 : Int32)) (by decide) ?_
  refine g_daload X0 hx hZ At (i := 6) (by decide) (show (6 : Nat) < 16 by decide) (v := t6) rfl (pc' := 38) rfl (hb hby d5_37) ?_
  refine g_dstore X0 hx (pc' := 40) rfl (hb hby d5_38) (l' := #[.val (.ref ta), .val (.int (4 : Int32)), .val (.int (3 : Int32)), .val (.ref ca), .val (.int (0 : Int32)), .val (.int (1 : Int32)), .val (.int (0 : Int32)), .val (.int (2 : Int32)), .val (.double t6), .second, .unset, .unset]) rfl ?_
  refine g_iload X0 hx (pc' := 42) rfl (hb hby d5_40) rfl ?_
  refine g_iload X0 hx (pc' := 44) rfl (hb hby d5_42) rfl ?_
  refine g_imul X0 hx (pc' := 45) rfl (hb hby d5_44) ?_
  refine g_normI (z := (0 : Int32)) (by decide) ?_
  refine g_istore X0 hx (pc' := 47) rfl (hb hby d5_45) (l' := #[.val (.ref ta), .val (.int (4 : Int32)), .val (.int (3 : Int32)), .val (.ref ca), .val (.int (0 : Int32)), .val (.int (1 : Int32)), .val (.int (0 : Int32)), .val (.int (2 : Int32)), .val (.double t6), .second, .val (.int (0 : Int32)), .unset]) rfl ?_
  refine g_iconst X0 hx (pc' := 48) (z := (0 : Int32)) rfl (hb hby d5_47) rfl ?_
  refine g_istore X0 hx (pc' := 50) rfl (hb hby d5_48) (l' := #[.val (.ref ta), .val (.int (4 : Int32)), .val (.int (3 : Int32)), .val (.ref ca), .val (.int (0 : Int32)), .val (.int (1 : Int32)), .val (.int (0 : Int32)), .val (.int (2 : Int32)), .val (.double t6), .second, .val (.int (0 : Int32)), .val (.int (0 : Int32))]) rfl ?_
  refine g_iload X0 hx (pc' := 52) rfl (hb hby d5_50) rfl ?_
  refine g_iload X0 hx (pc' := 54) rfl (hb hby d5_52) rfl ?_
  refine g_icmpY X0 hx (pcY := 83) (hb hby d5_54) (by decide) (by decide) (show ¬ (0 : Int32) < (0 : Int32) from by decide) ?_
  refine g_iincC X0 hx (pc' := 86) (x := (2 : Int32)) (z := (3 : Int32)) rfl (hb hby d5_83) rfl (by decide) (l' := #[.val (.ref ta), .val (.int (4 : Int32)), .val (.int (3 : Int32)), .val (.ref ca), .val (.int (0 : Int32)), .val (.int (1 : Int32)), .val (.int (0 : Int32)), .val (.int (3 : Int32)), .val (.double t6), .second, .val (.int (0 : Int32)), .val (.int (0 : Int32))]) rfl ?_
  refine g_goto X0 hx (pc' := 23) (hb hby d5_86) (by decide) (by decide) ?_
  refine g_iload X0 hx (pc' := 25) rfl (hb hby d5_23) rfl ?_
  refine g_iloadN X0 hx (pc' := 26) rfl (hb hby d5_25) rfl ?_
  refine g_icmpY X0 hx (pcY := 89) (hb hby d5_26) (by decide) (by decide) (show ¬ (3 : Int32) < (3 : Int32) from by decide) ?_
  refine g_aloadN X0 hx (pc' := 90) rfl (hb hby d5_89) rfl rfl ?_
  refine g_iload X0 hx (pc' := 92) rfl (hb hby d5_90) rfl ?_
  refine g_iloadN X0 hx (pc' := 93) rfl (hb hby d5_92) rfl ?_
  refine g_imul X0 hx (pc' := 94) rfl (hb hby d5_93) ?_
  refine g_normI (z := (4 : Int32)) (by decide) ?_
  refine g_iload X0 hx (pc' := 96) rfl (hb hby d5_94) rfl ?_
  refine g_iadd X0 hx (pc' := 97) rfl (hb hby d5_96) ?_
  refine g_normI (z := (5 : Int32)) (by decide) ?_
  refine g_daload X0 hx hZ At (i := 5) (by decide) (show (5 : Nat) < 16 by decide) (v := t5) rfl (pc' := 98) rfl (hb hby d5_97) ?_
  refine g_dstore X0 hx (pc' := 100) rfl (hb hby d5_98) (l' := #[.val (.ref ta), .val (.int (4 : Int32)), .val (.int (3 : Int32)), .val (.ref ca), .val (.int (0 : Int32)), .val (.int (1 : Int32)), .val (.int (0 : Int32)), .val (.double t5), .second, .unset, .val (.int (0 : Int32)), .val (.int (0 : Int32))]) rfl ?_
  refine g_iconst X0 hx (pc' := 101) (z := (0 : Int32)) rfl (hb hby d5_100) rfl ?_
  refine g_istore X0 hx (pc' := 103) rfl (hb hby d5_101) (l' := #[.val (.ref ta), .val (.int (4 : Int32)), .val (.int (3 : Int32)), .val (.ref ca), .val (.int (0 : Int32)), .val (.int (1 : Int32)), .val (.int (0 : Int32)), .val (.double t5), .second, .val (.int (0 : Int32)), .val (.int (0 : Int32)), .val (.int (0 : Int32))]) rfl ?_
  refine g_iload X0 hx (pc' := 105) rfl (hb hby d5_103) rfl ?_
  refine g_iload X0 hx (pc' := 107) rfl (hb hby d5_105) rfl ?_
  refine g_icmpY X0 hx (pcY := 128) (hb hby d5_107) (by decide) (by decide) (show ¬ (0 : Int32) < (0 : Int32) from by decide) ?_
  refine g_iincC X0 hx (pc' := 131) (x := (1 : Int32)) (z := (0 : Int32)) rfl (hb hby d5_128) rfl (by decide) (l' := #[.val (.ref ta), .val (.int (4 : Int32)), .val (.int (3 : Int32)), .val (.ref ca), .val (.int (0 : Int32)), .val (.int (0 : Int32)), .val (.int (0 : Int32)), .val (.double t5), .second, .val (.int (0 : Int32)), .val (.int (0 : Int32)), .val (.int (0 : Int32))]) rfl ?_
  refine g_goto X0 hx (pc' := 5) (hb hby d5_131) (by decide) (by decide) ?_
  refine g_iload X0 hx (pc' := 7) rfl (hb hby d5_5) rfl ?_
  refine g_ifN X0 hx (pcN := 10) (hb hby d5_7) rfl (show ¬ ((0 : Int32) < 0) from by decide) ?_
  refine g_iload X0 hx (pc' := 12) rfl (hb hby d5_10) rfl ?_
  refine g_iload X0 hx (pc' := 14) rfl (hb hby d5_12) rfl ?_
  refine g_imul X0 hx (pc' := 15) rfl (hb hby d5_14) ?_
  refine g_normI (z := (0 : Int32)) (by decide) ?_
  refine g_istore X0 hx (pc' := 17) rfl (hb hby d5_15) (l' := #[.val (.ref ta), .val (.int (4 : Int32)), .val (.int (3 : Int32)), .val (.ref ca), .val (.int (0 : Int32)), .val (.int (0 : Int32)), .val (.int (0 : Int32)), .val (.double t5), .second, .val (.int (0 : Int32)), .val (.int (0 : Int32)), .val (.int (0 : Int32))]) rfl ?_
  refine g_iload X0 hx (pc' := 19) rfl (hb hby d5_17) rfl ?_
  refine g_iconst X0 hx (pc' := 20) (z := (1 : Int32)) rfl (hb hby d5_19) rfl ?_
  refine g_iadd X0 hx (pc' := 21) rfl (hb hby d5_20) ?_
  refine g_normI (z := (1 : Int32)) (by decide) ?_
  refine g_istore X0 hx (pc' := 23) rfl (hb hby d5_21) (l' := #[.val (.ref ta), .val (.int (4 : Int32)), .val (.int (3 : Int32)), .val (.ref ca), .val (.int (0 : Int32)), .val (.int (0 : Int32)), .val (.int (0 : Int32)), .val (.int (1 : Int32)), .unset, .val (.int (0 : Int32)), .val (.int (0 : Int32)), .val (.int (0 : Int32))]) rfl ?_
  refine g_iload X0 hx (pc' := 25) rfl (hb hby d5_23) rfl ?_
  refine g_iloadN X0 hx (pc' := 26) rfl (hb hby d5_25) rfl ?_
  refine g_icmpN X0 hx (pcN := 29) (hb hby d5_26) rfl (show ¬ (¬ (1 : Int32) < (3 : Int32)) from by decide) ?_
  refine g_aloadN X0 hx (pc' := 30) rfl (hb hby d5_29) rfl rfl ?_
  refine g_iload X0 hx (pc' := 32) rfl (hb hby d5_30) rfl ?_
  refine g_iloadN X0 hx (pc' := 33) rfl (hb hby d5_32) rfl ?_
  refine g_imul X0 hx (pc' := 34) rfl (hb hby d5_33) ?_
  refine g_normI (z := (0 : Int32)) (by decide) ?_
  refine g_iload X0 hx (pc' := 36) rfl (hb hby d5_34) rfl ?_
  refine g_iadd X0 hx (pc' := 37) rfl (hb hby d5_36) ?_
  refine g_normI (z := (1 : Int32)) (by decide) ?_
  refine g_daload X0 hx hZ At (i := 1) (by decide) (show (1 : Nat) < 16 by decide) (v := t1) rfl (pc' := 38) rfl (hb hby d5_37) ?_
  refine g_dstore X0 hx (pc' := 40) rfl (hb hby d5_38) (l' := #[.val (.ref ta), .val (.int (4 : Int32)), .val (.int (3 : Int32)), .val (.ref ca), .val (.int (0 : Int32)), .val (.int (0 : Int32)), .val (.int (0 : Int32)), .val (.int (1 : Int32)), .val (.double t1), .second, .val (.int (0 : Int32)), .val (.int (0 : Int32))]) rfl ?_
  refine g_iload X0 hx (pc' := 42) rfl (hb hby d5_40) rfl ?_
  refine g_iload X0 hx (pc' := 44) rfl (hb hby d5_42) rfl ?_
  refine g_imul X0 hx (pc' := 45) rfl (hb hby d5_44) ?_
  refine g_normI (z := (0 : Int32)) (by decide) ?_
  refine g_istore X0 hx (pc' := 47) rfl (hb hby d5_45) (l' := #[.val (.ref ta), .val (.int (4 : Int32)), .val (.int (3 : Int32)), .val (.ref ca), .val (.int (0 : Int32)), .val (.int (0 : Int32)), .val (.int (0 : Int32)), .val (.int (1 : Int32)), .val (.double t1), .second, .val (.int (0 : Int32)), .val (.int (0 : Int32))]) rfl ?_
  refine g_iconst X0 hx (pc' := 48) (z := (0 : Int32)) rfl (hb hby d5_47) rfl ?_
  refine g_istore X0 hx (pc' := 50) rfl (hb hby d5_48) (l' := #[.val (.ref ta), .val (.int (4 : Int32)), .val (.int (3 : Int32)), .val (.ref ca), .val (.int (0 : Int32)), .val (.int (0 : Int32)), .val (.int (0 : Int32)), .val (.int (1 : Int32)), .val (.double t1), .second, .val (.int (0 : Int32)), .val (.int (0 : Int32))]) rfl ?_
  refine g_iload X0 hx (pc' := 52) rfl (hb hby d5_50) rfl ?_
  refine g_iload X0 hx (pc' := 54) rfl (hb hby d5_52) rfl ?_
  refine g_icmpY X0 hx (pcY := 83) (hb hby d5_54) (by decide) (by decide) (show ¬ (0 : Int32) < (0 : Int32) from by decide) ?_
  refine g_iincC X0 hx (pc' := 86) (x := (1 : Int32)) (z := (2 : Int32)) rfl (hb hby d5_83) rfl (by decide) (l' := #[.val (.ref ta), .val (.int (4 : Int32)), .val (.int (3 : Int32)), .val (.ref ca), .val (.int (0 : Int32)), .val (.int (0 : Int32)), .val (.int (0 : Int32)), .val (.int (2 : Int32)), .val (.double t1), .second, .val (.int (0 : Int32)), .val (.int (0 : Int32))]) rfl ?_
  refine g_goto X0 hx (pc' := 23) (hb hby d5_86) (by decide) (by decide) ?_
  refine g_iload X0 hx (pc' := 25) rfl (hb hby d5_23) rfl ?_
  refine g_iloadN X0 hx (pc' := 26) rfl (hb hby d5_25) rfl ?_
  refine g_icmpN X0 hx (pcN := 29) (hb hby d5_26) rfl (show ¬ (¬ (2 : Int32) < (3 : Int32)) from by decide) ?_
  refine g_aloadN X0 hx (pc' := 30) rfl (hb hby d5_29) rfl rfl ?_
  refine g_iload X0 hx (pc' := 32) rfl (hb hby d5_30) rfl ?_
  refine g_iloadN X0 hx (pc' := 33) rfl (hb hby d5_32) rfl ?_
  refine g_imul X0 hx (pc' := 34) rfl (hb hby d5_33) ?_
  refine g_normI (z := (0 : Int32)) (by decide) ?_
  refine g_iload X0 hx (pc' := 36) rfl (hb hby d5_34) rfl ?_
  refine g_iadd X0 hx (pc' := 37) rfl (hb hby d5_36) ?_
  refine g_normI (z := (2 : Int32)) (by decide) ?_
  refine g_daload X0 hx hZ At (i := 2) (by decide) (show (2 : Nat) < 16 by decide) (v := t2) rfl (pc' := 38) rfl (hb hby d5_37) ?_
  refine g_dstore X0 hx (pc' := 40) rfl (hb hby d5_38) (l' := #[.val (.ref ta), .val (.int (4 : Int32)), .val (.int (3 : Int32)), .val (.ref ca), .val (.int (0 : Int32)), .val (.int (0 : Int32)), .val (.int (0 : Int32)), .val (.int (2 : Int32)), .val (.double t2), .second, .val (.int (0 : Int32)), .val (.int (0 : Int32))]) rfl ?_
  refine g_iload X0 hx (pc' := 42) rfl (hb hby d5_40) rfl ?_
  refine g_iload X0 hx (pc' := 44) rfl (hb hby d5_42) rfl ?_
  refine g_imul X0 hx (pc' := 45) rfl (hb hby d5_44) ?_
  refine g_normI (z := (0 : Int32)) (by decide) ?_
  refine g_istore X0 hx (pc' := 47) rfl (hb hby d5_45) (l' := #[.val (.ref ta), .val (.int (4 : Int32)), .val (.int (3 : Int32)), .val (.ref ca), .val (.int (0 : Int32)), .val (.int (0 : Int32)), .val (.int (0 : Int32)), .val (.int (2 : Int32)), .val (.double t2), .second, .val (.int (0 : Int32)), .val (.int (0 : Int32))]) rfl ?_
  refine g_iconst X0 hx (pc' := 48) (z := (0 : Int32)) rfl (hb hby d5_47) rfl ?_
  refine g_istore X0 hx (pc' := 50) rfl (hb hby d5_48) (l' := #[.val (.ref ta), .val (.int (4 : Int32)), .val (.int (3 : Int32)), .val (.ref ca), .val (.int (0 : Int32)), .val (.int (0 : Int32)), .val (.int (0 : Int32)), .val (.int (2 : Int32)), .val (.double t2), .second, .val (.int (0 : Int32)), .val (.int (0 : Int32))]) rfl ?_
  refine g_iload X0 hx (pc' := 52) rfl (hb hby d5_50) rfl ?_
  refine g_iload X0 hx (pc' := 54) rfl (hb hby d5_52) rfl ?_
  refine g_icmpY X0 hx (pcY := 83) (hb hby d5_54) (by decide) (by decide) (show ¬ (0 : Int32) < (0 : Int32) from by decide) ?_
  refine g_iincC X0 hx (pc' := 86) (x := (2 : Int32)) (z := (3 : Int32)) rfl (hb hby d5_83) rfl (by decide) (l' := #[.val (.ref ta), .val (.int (4 : Int32)), .val (.int (3 : Int32)), .val (.ref ca), .val (.int (0 : Int32)), .val (.int (0 : Int32)), .val (.int (0 : Int32)), .val (.int (3 : Int32)), .val (.double t2), .second, .val (.int (0 : Int32)), .val (.int (0 : Int32))]) rfl ?_
  refine g_goto X0 hx (pc' := 23) (hb hby d5_86) (by decide) (by decide) ?_
  refine g_iload X0 hx (pc' := 25) rfl (hb hby d5_23) rfl ?_
  refine g_iloadN X0 hx (pc' := 26) rfl (hb hby d5_25) rfl ?_
  refine g_icmpY X0 hx (pcY := 89) (hb hby d5_26) (by decide) (by decide) (show ¬ (3 : Int32) < (3 : Int32) from by decide) ?_
  refine g_aloadN X0 hx (pc' := 90) rfl (hb hby d5_89) rfl rfl ?_
  refine g_iload X0 hx (pc' := 92) rfl (hb hby d5_90) rfl ?_
  refine g_iloadN X0 hx (pc' := 93) rfl (hb hby d5_92) rfl ?_
  refine g_imul X0 hx (pc' := 94) rfl (hb hby d5_93) ?_
  refine g_normI (z := (0 : Int32)) (by decide) ?_
  refine g_iload X0 hx (pc' := 96) rfl (hb hby d5_94) rfl ?_
  refine g_iadd X0 hx (pc' := 97) rfl (hb hby d5_96) ?_
  refine g_normI (z := (0 : Int32)) (by decide) ?_
  refine g_daload X0 hx hZ At (i := 0) (by decide) (show (0 : Nat) < 16 by decide) (v := t0) rfl (pc' := 98) rfl (hb hby d5_97) ?_
  refine g_dstore X0 hx (pc' := 100) rfl (hb hby d5_98) (l' := #[.val (.ref ta), .val (.int (4 : Int32)), .val (.int (3 : Int32)), .val (.ref ca), .val (.int (0 : Int32)), .val (.int (0 : Int32)), .val (.int (0 : Int32)), .val (.double t0), .second, .unset, .val (.int (0 : Int32)), .val (.int (0 : Int32))]) rfl ?_
  refine g_iconst X0 hx (pc' := 101) (z := (0 : Int32)) rfl (hb hby d5_100) rfl ?_
  refine g_istore X0 hx (pc' := 103) rfl (hb hby d5_101) (l' := #[.val (.ref ta), .val (.int (4 : Int32)), .val (.int (3 : Int32)), .val (.ref ca), .val (.int (0 : Int32)), .val (.int (0 : Int32)), .val (.int (0 : Int32)), .val (.double t0), .second, .val (.int (0 : Int32)), .val (.int (0 : Int32)), .val (.int (0 : Int32))]) rfl ?_
  refine g_iload X0 hx (pc' := 105) rfl (hb hby d5_103) rfl ?_
  refine g_iload X0 hx (pc' := 107) rfl (hb hby d5_105) rfl ?_
  refine g_icmpY X0 hx (pcY := 128) (hb hby d5_107) (by decide) (by decide) (show ¬ (0 : Int32) < (0 : Int32) from by decide) ?_
  refine g_iincC X0 hx (pc' := 131) (x := (0 : Int32)) (z := (-1 : Int32)) rfl (hb hby d5_128) rfl (by decide) (l' := #[.val (.ref ta), .val (.int (4 : Int32)), .val (.int (3 : Int32)), .val (.ref ca), .val (.int (0 : Int32)), .val (.int (-1 : Int32)), .val (.int (0 : Int32)), .val (.double t0), .second, .val (.int (0 : Int32)), .val (.int (0 : Int32)), .val (.int (0 : Int32))]) rfl ?_
  refine g_goto X0 hx (pc' := 5) (hb hby d5_131) (by decide) (by decide) ?_
  refine g_iload X0 hx (pc' := 7) rfl (hb hby d5_5) rfl ?_
  refine g_ifY X0 hx (pcY := 134) (hb hby d5_7) (by decide) (by decide) (show (-1 : Int32) < 0 from by decide) ?_
  exact g_retV X0 hx hlk hret (hb hby d5_134) (by decide) (by decide) (⟨rfl, (Keep.refl h0 [ca]), _, Ac, rfl, fun q => absurd q (by decide), fun q => absurd q (by decide), fun q => absurd q (by decide), fun q => absurd q (by decide), fun q => absurd q (by decide), fun q => absurd q (by decide), fun q => absurd q (by decide), fun q => absurd q (by decide), fun q => absurd q (by decide), fun q => absurd q (by decide), fun q => absurd q (by decide), fun q => absurd q (by decide)⟩)
set_option maxRecDepth 65536 in
set_option maxHeartbeats 40000000 in
theorem rm5_3_1 (l : Launch) (Z : State) (a0 : Array Value) (hw : ∀ d ∈ tables_1, d.before a0 Z = true) (ws : List Jvm.Cond) (n0 : Nat) (ta ca : Addr) (t0 : UInt64) (t1 : UInt64) (t2 : UInt64) (t3 : UInt64) (t4 : UInt64) (t5 : UInt64) (t6 : UInt64) (t7 : UInt64) (t8 : UInt64) (t9 : UInt64) (t10 : UInt64) (t11 : UInt64) (t12 : UInt64) (t13 : UInt64) (t14 : UInt64) (t15 : UInt64) (mt0 : Int) (mt1 : Int) (mt2 : Int) (mt5 : Int) (mt6 : Int) (mt10 : Int) (c00 : UInt64) (mc00 : Int) (c10 : UInt64) (mc10 : Int) (c20 : UInt64) (mc20 : Int) (c30 : UInt64) (mc30 : Int) (x00 : Int64) (mx00 : Int) (x01 : Int64) (mx01 : Int) (x02 : Int64) (mx02 : Int) (x10 : Int64) (mx10 : Int) (x11 : Int64) (mx11 : Int) (x12 : Int64) (mx12 : Int) (x20 : Int64) (mx20 : Int) (x21 : Int64) (mx21 : Int) (x22 : Int64) (mx22 : Int) (x30 : Int64) (mx30 : Int) (x31 : Int64) (mx31 : Int) (x32 : Int64) (mx32 : Int) (h0 : Heap) (hn0 : n0 ≤ h0.size) (At : AD Z h0 ta [t0, t1, t2, t3, t4, t5, t6, t7, t8, t9, t10, t11, t12, t13, t14, t15]) (Ac : AD Z h0 ca [c00, c10, c20, c30]) (hne : ta ≠ ca) (hg : n0 ≤ ca) (yt0 : Dy mt0 1074 t0) (bt0 : mt0.natAbs ≤ 128) (yt1 : Dy mt1 1074 t1) (bt1 : mt1.natAbs ≤ 128) (yt2 : Dy mt2 1074 t2) (bt2 : mt2.natAbs ≤ 128) (yt5 : Dy mt5 1074 t5) (bt5 : mt5.natAbs ≤ 128) (yt6 : Dy mt6 1074 t6) (bt6 : mt6.natAbs ≤ 128) (yt10 : Dy mt10 1074 t10) (bt10 : mt10.natAbs ≤ 128) (hz0 : mt0 ≠ 0) (hz5 : mt5 ≠ 0) (hz10 : mt10 ≠ 0) (yc00 : Dy mc00 1074 c00) (bc00 : mc00.natAbs ≤ 49152) (ec00 : mc00 = mt0 * mx00 + mt1 * mx10 + mt2 * mx20) (yc10 : Dy mc10 1074 c10) (bc10 : mc10.natAbs ≤ 49152) (ec10 : mc10 = mt5 * mx10 + mt6 * mx20) (yc20 : Dy mc20 1074 c20) (bc20 : mc20.natAbs ≤ 49152) (ec20 : mc20 = mt10 * mx20) (yc30 : Dy mc30 1074 c30) (bc30 : mc30.natAbs ≤ 49152) (ec30 : mc30 = mx30) (yx00 : Dy mx00 1074 (FP.l2d x00)) (bx00 : mx00.natAbs ≤ 128) (yx01 : Dy mx01 1074 (FP.l2d x01)) (bx01 : mx01.natAbs ≤ 128) (yx02 : Dy mx02 1074 (FP.l2d x02)) (bx02 : mx02.natAbs ≤ 128) (yx10 : Dy mx10 1074 (FP.l2d x10)) (bx10 : mx10.natAbs ≤ 128) (yx11 : Dy mx11 1074 (FP.l2d x11)) (bx11 : mx11.natAbs ≤ 128) (yx12 : Dy mx12 1074 (FP.l2d x12)) (bx12 : mx12.natAbs ≤ 128) (yx20 : Dy mx20 1074 (FP.l2d x20)) (bx20 : mx20.natAbs ≤ 128) (yx21 : Dy mx21 1074 (FP.l2d x21)) (bx21 : mx21.natAbs ≤ 128) (yx22 : Dy mx22 1074 (FP.l2d x22)) (bx22 : mx22.natAbs ≤ 128) (yx30 : Dy mx30 1074 (FP.l2d x30)) (bx30 : mx30.natAbs ≤ 128) (yx31 : Dy mx31 1074 (FP.l2d x31)) (bx31 : mx31.natAbs ≤ 128) (yx32 : Dy mx32 1074 (FP.l2d x32)) (bx32 : mx32.natAbs ≤ 128) :
    Con l Z n0 (⟨"com/example/orthogon/orthogon/Triangular", "solveUpper", "([DII[DI)V"⟩ : MethodName) prog_16_method_3_code 12 none ws ({ frames := 0, cells := 0, slots := 0, locals := 0 } : Room) #[(.ref ta), (.int (4 : Int32)), (.int (3 : Int32)), (.ref ca), (.int (1 : Int32))] h0 (fun v h => v = none ∧ Keep h0 h [ca] ∧ ∃ xs, AD Z h ca xs ∧ xs.length = 4 * 1 ∧ (0 < 1 → cmpValue (FP.dcmp (xs.getD (0 * 1 + 0) 0) (FP.l2d x00)) .l = 0) ∧ (1 < 1 → cmpValue (FP.dcmp (xs.getD (0 * 1 + 1) 0) (FP.l2d x01)) .l = 0) ∧ (2 < 1 → cmpValue (FP.dcmp (xs.getD (0 * 1 + 2) 0) (FP.l2d x02)) .l = 0) ∧ (0 < 1 → cmpValue (FP.dcmp (xs.getD (1 * 1 + 0) 0) (FP.l2d x10)) .l = 0) ∧ (1 < 1 → cmpValue (FP.dcmp (xs.getD (1 * 1 + 1) 0) (FP.l2d x11)) .l = 0) ∧ (2 < 1 → cmpValue (FP.dcmp (xs.getD (1 * 1 + 2) 0) (FP.l2d x12)) .l = 0) ∧ (0 < 1 → cmpValue (FP.dcmp (xs.getD (2 * 1 + 0) 0) (FP.l2d x20)) .l = 0) ∧ (1 < 1 → cmpValue (FP.dcmp (xs.getD (2 * 1 + 1) 0) (FP.l2d x21)) .l = 0) ∧ (2 < 1 → cmpValue (FP.dcmp (xs.getD (2 * 1 + 2) 0) (FP.l2d x22)) .l = 0) ∧ (0 < 1 → cmpValue (FP.dcmp (xs.getD (3 * 1 + 0) 0) (FP.l2d x30)) .l = 0) ∧ (1 < 1 → cmpValue (FP.dcmp (xs.getD (3 * 1 + 1) 0) (FP.l2d x31)) .l = 0) ∧ (2 < 1 → cmpValue (FP.dcmp (xs.getD (3 * 1 + 2) 0) (FP.l2d x32)) .l = 0)) := by
  refine con_start (plainFor_of_name (by first | (simp [plainName, overriddenIn]; done) | decide +kernel)) (fr0 := fun m => mkF m 0 #[.val (.ref ta), .val (.int (4 : Int32)), .val (.int (3 : Int32)), .val (.ref ca), .val (.int (1 : Int32)), .unset, .unset, .unset, .unset, .unset, .unset, .unset] []) (fun m => by first | (simp [entryFrame, mkF, argsToLocals, Value.category]; done) | rfl) ?_
  intro p e s m below meth c T0 hx hZ hby hml hown hnm hret hlk X0
  replace hown : s.vm.findClass "com/example/orthogon/orthogon/Triangular" = some m.cls := hown
  replace hml : c.maxLocals = 12 := hml
  refine g_iloadN X0 hx (pc' := 1) rfl (hb hby d5_0) rfl ?_
  refine g_iconst X0 hx (pc' := 2) (z := (1 : Int32)) rfl (hb hby d5_1) rfl ?_
  refine g_isub X0 hx (pc' := 3) rfl (hb hby d5_2) ?_
  refine g_normI (z := (2 : Int32)) (by decide) ?_
  refine g_istore X0 hx (pc' := 5) rfl (hb hby d5_3) (l' := #[.val (.ref ta), .val (.int (4 : Int32)), .val (.int (3 : Int32)), .val (.ref ca), .val (.int (1 : Int32)), .val (.int (2 : Int32)), .unset, .unset, .unset, .unset, .unset, .unset]) rfl ?_
  refine g_iload X0 hx (pc' := 7) rfl (hb hby d5_5) rfl ?_
  refine g_ifN X0 hx (pcN := 10) (hb hby d5_7) rfl (show ¬ ((2 : Int32) < 0) from by decide) ?_
  refine g_iload X0 hx (pc' := 12) rfl (hb hby d5_10) rfl ?_
  refine g_iload X0 hx (pc' := 14) rfl (hb hby d5_12) rfl ?_
  refine g_imul X0 hx (pc' := 15) rfl (hb hby d5_14) ?_
  refine g_normI (z := (2 : Int32)) (by decide) ?_
  refine g_istore X0 hx (pc' := 17) rfl (hb hby d5_15) (l' := #[.val (.ref ta), .val (.int (4 : Int32)), .val (.int (3 : Int32)), .val (.ref ca), .val (.int (1 : Int32)), .val (.int (2 : Int32)), .val (.int (2 : Int32)), .unset, .unset, .unset, .unset, .unset]) rfl ?_
  refine g_iload X0 hx (pc' := 19) rfl (hb hby d5_17) rfl ?_
  refine g_iconst X0 hx (pc' := 20) (z := (1 : Int32)) rfl (hb hby d5_19) rfl ?_
  refine g_iadd X0 hx (pc' := 21) rfl (hb hby d5_20) ?_
  refine g_normI (z := (3 : Int32)) (by decide) ?_
  refine g_istore X0 hx (pc' := 23) rfl (hb hby d5_21) (l' := #[.val (.ref ta), .val (.int (4 : Int32)), .val (.int (3 : Int32)), .val (.ref ca), .val (.int (1 : Int32)), .val (.int (2 : Int32)), .val (.int (2 : Int32)), .val (.int (3 : Int32)), .unset, .unset, .unset, .unset]) rfl ?_
  refine g_iload X0 hx (pc' := 25) rfl (hb hby d5_23) rfl ?_
  refine g_iloadN X0 hx (pc' := 26) rfl (hb hby d5_25) rfl ?_
  refine g_icmpY X0 hx (pcY := 89) (hb hby d5_26) (by decide) (by decide) (show ¬ (3 : Int32) < (3 : Int32) from by decide) ?_
  refine g_aloadN X0 hx (pc' := 90) rfl (hb hby d5_89) rfl rfl ?_
  refine g_iload X0 hx (pc' := 92) rfl (hb hby d5_90) rfl ?_
  refine g_iloadN X0 hx (pc' := 93) rfl (hb hby d5_92) rfl ?_
  refine g_imul X0 hx (pc' := 94) rfl (hb hby d5_93) ?_
  refine g_normI (z := (8 : Int32)) (by decide) ?_
  refine g_iload X0 hx (pc' := 96) rfl (hb hby d5_94) rfl ?_
  refine g_iadd X0 hx (pc' := 97) rfl (hb hby d5_96) ?_
  refine g_normI (z := (10 : Int32)) (by decide) ?_
  refine g_daload X0 hx hZ At (i := 10) (by decide) (show (10 : Nat) < 16 by decide) (v := t10) rfl (pc' := 98) rfl (hb hby d5_97) ?_
  refine g_dstore X0 hx (pc' := 100) rfl (hb hby d5_98) (l' := #[.val (.ref ta), .val (.int (4 : Int32)), .val (.int (3 : Int32)), .val (.ref ca), .val (.int (1 : Int32)), .val (.int (2 : Int32)), .val (.int (2 : Int32)), .val (.double t10), .second, .unset, .unset, .unset]) rfl ?_
  refine g_iconst X0 hx (pc' := 101) (z := (0 : Int32)) rfl (hb hby d5_100) rfl ?_
  refine g_istore X0 hx (pc' := 103) rfl (hb hby d5_101) (l' := #[.val (.ref ta), .val (.int (4 : Int32)), .val (.int (3 : Int32)), .val (.ref ca), .val (.int (1 : Int32)), .val (.int (2 : Int32)), .val (.int (2 : Int32)), .val (.double t10), .second, .val (.int (0 : Int32)), .unset, .unset]) rfl ?_
  refine g_iload X0 hx (pc' := 105) rfl (hb hby d5_103) rfl ?_
  refine g_iload X0 hx (pc' := 107) rfl (hb hby d5_105) rfl ?_
  refine g_icmpN X0 hx (pcN := 110) (hb hby d5_107) rfl (show ¬ (¬ (0 : Int32) < (1 : Int32)) from by decide) ?_
  refine g_aloadN X0 hx (pc' := 111) rfl (hb hby d5_110) rfl rfl ?_
  refine g_iload X0 hx (pc' := 113) rfl (hb hby d5_111) rfl ?_
  refine g_iload X0 hx (pc' := 115) rfl (hb hby d5_113) rfl ?_
  refine g_iadd X0 hx (pc' := 116) rfl (hb hby d5_115) ?_
  refine g_normI (z := (2 : Int32)) (by decide) ?_
  refine g_dup2 X0 hx (pc' := 117) rfl (hb hby d5_116) rfl rfl ?_
  refine g_daload X0 hx hZ Ac (i := 2) (by decide) (show (2 : Nat) < 4 by decide) (v := c20) rfl (pc' := 118) rfl (hb hby d5_117) ?_
  refine g_dload X0 hx (pc' := 120) rfl (hb hby d5_118) rfl ?_
  have q128 : Dy mx20 1074 (FP.ddiv c20 t10) := dy_div yc20 yt10 hz10 (by exact own_g0 ec20) rfl (Nat.lt_of_le_of_lt bx20 (by decide)) (by decide)
  refine g_ddiv X0 hx (pc' := 121) (z := (FP.ddiv c20 t10)) rfl (hb hby d5_120) (dy_noNaN q128) rfl ?_
  refine g_absD (fun d128 hd128 => ?_)
  rw [← hd128] at q128
  refine g_dastore X0 hx hZ Ac (i := 2) (by decide) (show (2 : Nat) < 4 by decide) hg (pc' := 122) rfl (hb hby d5_121) (fun T129 h129 X129 W129 N129 => ?_)
  have f130 := At.other W129 hne
  have f131 := (by have q := (Keep.of_wr W129).1; exact Nat.le_trans hn0 q : n0 ≤ h129.size)
  have f132 := (Keep.refl h0 [ca]).wr W129 (Or.inl (List.mem_of_getElem? (i := 0) rfl))
  have V129 : AD Z h129 ca [c00, c10, d128, c30] := N129
  refine g_iincC X129 hx (pc' := 125) (x := (0 : Int32)) (z := (1 : Int32)) rfl (hb hby d5_122) rfl (by decide) (l' := #[.val (.ref ta), .val (.int (4 : Int32)), .val (.int (3 : Int32)), .val (.ref ca), .val (.int (1 : Int32)), .val (.int (2 : Int32)), .val (.int (2 : Int32)), .val (.double t10), .second, .val (.int (1 : Int32)), .unset, .unset]) rfl ?_
  refine g_goto X129 hx (pc' := 103) (hb hby d5_125) (by decide) (by decide) ?_
  refine g_iload X129 hx (pc' := 105) rfl (hb hby d5_103) rfl ?_
  refine g_iload X129 hx (pc' := 107) rfl (hb hby d5_105) rfl ?_
  refine g_icmpY X129 hx (pcY := 128) (hb hby d5_107) (by decide) (by decide) (show ¬ (1 : Int32) < (1 : Int32) from by decide) ?_
  refine g_iincC X129 hx (pc' := 131) (x := (2 : Int32)) (z := (1 : Int32)) rfl (hb hby d5_128) rfl (by decide) (l' := #[.val (.ref ta), .val (.int (4 : Int32)), .val (.int (3 : Int32)), .val (.ref ca), .val (.int (1 : Int32)), .val (.int (1 : Int32)), .val (.int (2 : Int32)), .val (.double t10), .second, .val (.int (1 : Int32)), .unset, .unset]) rfl ?_
  refine g_goto X129 hx (pc' := 5) (hb hby d5_131) (by decide) (by decide) ?_
  refine g_iload X129 hx (pc' := 7) rfl (hb hby d5_5) rfl ?_
  refine g_ifN X129 hx (pcN := 10) (hb hby d5_7) rfl (show ¬ ((1 : Int32) < 0) from by decide) ?_
  refine g_iload X129 hx (pc' := 12) rfl (hb hby d5_10) rfl ?_
  refine g_iload X129 hx (pc' := 14) rfl (hb hby d5_12) rfl ?_
  refine g_imul X129 hx (pc' := 15) rfl (hb hby d5_14) ?_
  refine g_normI (z := (1 : Int32)) (by decide) ?_
  refine g_istore X129 hx (pc' := 17) rfl (hb hby d5_15) (l' := #[.val (.ref ta), .val (.int (4 : Int32)), .val (.int (3 : Int32)), .val (.ref ca), .val (.int (1 : Int32)), .val (.int (1 : Int32)), .val (.int (1 : Int32)), .val (.double t10), .second, .val (.int (1 : Int32)), .unset, .unset]) rfl ?_
  refine g_iload X129 hx (pc' := 19) rfl (hb hby d5_17) rfl ?_
  refine g_iconst X129 hx (pc' := 20) (z := (1 : Int32)) rfl (hb hby d5_19) rfl ?_
  refine g_iadd X129 hx (pc' := 21) rfl (hb hby d5_20) ?_
  refine g_normI (z := (2 : Int32)) (by decide) ?_
  refine g_istore X129 hx (pc' := 23) rfl (hb hby d5_21) (l' := #[.val (.ref ta), .val (.int (4 : Int32)), .val (.int (3 : Int32)), .val (.ref ca), .val (.int (1 : Int32)), .val (.int (1 : Int32)), .val (.int (1 : Int32)), .val (.int (2 : Int32)), .unset, .val (.int (1 : Int32)), .unset, .unset]) rfl ?_
  refine g_iload X129 hx (pc' := 25) rfl (hb hby d5_23) rfl ?_
  refine g_iloadN X129 hx (pc' := 26) rfl (hb hby d5_25) rfl ?_
  refine g_icmpN X129 hx (pcN := 29) (hb hby d5_26) rfl (show ¬ (¬ (2 : Int32) < (3 : Int32)) from by decide) ?_
  refine g_aloadN X129 hx (pc' := 30) rfl (hb hby d5_29) rfl rfl ?_
  refine g_iload X129 hx (pc' := 32) rfl (hb hby d5_30) rfl ?_
  refine g_iloadN X129 hx (pc' := 33) rfl (hb hby d5_32) rfl ?_
  refine g_imul X129 hx (pc' := 34) rfl (hb hby d5_33) ?_
  refine g_normI (z := (4 : Int32)) (by decide) ?_
  refine g_iload X129 hx (pc' := 36) rfl (hb hby d5_34) rfl ?_
  refine g_iadd X129 hx (pc' := 37) rfl (hb hby d5_36) ?_
  refine g_normI (z := (6 : Int32)) (by decide) ?_
  refine g_daload X129 hx hZ f130 (i := 6) (by decide) (show (6 : Nat) < 16 by decide) (v := t6) rfl (pc' := 38) rfl (hb hby d5_37) ?_
  refine g_dstore X129 hx (pc' := 40) rfl (hb hby d5_38) (l' := #[.val (.ref ta), .val (.int (4 : Int32)), .val (.int (3 : Int32)), .val (.ref ca), .val (.int (1 : Int32)), .val (.int (1 : Int32)), .val (.int (1 : Int32)), .val (.int (2 : Int32)), .val (.double t6), .second, .unset, .unset]) rfl ?_
  refine g_iload X129 hx (pc' := 42) rfl (hb hby d5_40) rfl ?_
  refine g_iload X129 hx (pc' := 44) rfl (hb hby d5_42) rfl ?_
  refine g_imul X129 hx (pc' := 45) rfl (hb hby d5_44) ?_
  refine g_normI (z := (2 : Int32)) (by decide) ?_
  refine g_istore X129 hx (pc' := 47) rfl (hb hby d5_45) (l' := #[.val (.ref ta), .val (.int (4 : Int32)), .val (.int (3 : Int32)), .val (.ref ca), .val (.int (1 : Int32)), .val (.int (1 : Int32)), .val (.int (1 : Int32)), .val (.int (2 : Int32)), .val (.double t6), .second, .val (.int (2 : Int32)), .unset]) rfl ?_
  refine g_iconst X129 hx (pc' := 48) (z := (0 : Int32)) rfl (hb hby d5_47) rfl ?_
  refine g_istore X129 hx (pc' := 50) rfl (hb hby d5_48) (l' := #[.val (.ref ta), .val (.int (4 : Int32)), .val (.int (3 : Int32)), .val (.ref ca), .val (.int (1 : Int32)), .val (.int (1 : Int32)), .val (.int (1 : Int32)), .val (.int (2 : Int32)), .val (.double t6), .second, .val (.int (2 : Int32)), .val (.int (0 : Int32))]) rfl ?_
  refine g_iload X129 hx (pc' := 52) rfl (hb hby d5_50) rfl ?_
  refine g_iload X129 hx (pc' := 54) rfl (hb hby d5_52) rfl ?_
  refine g_icmpN X129 hx (pcN := 57) (hb hby d5_54) rfl (show ¬ (¬ (0 : Int32) < (1 : Int32)) from by decide) ?_
  refine g_aloadN X129 hx (pc' := 58) rfl (hb hby d5_57) rfl rfl ?_
  refine g_iload X129 hx (pc' := 60) rfl (hb hby d5_58) rfl ?_
  refine g_iload X129 hx (pc' := 62) rfl (hb hby d5_60) rfl ?_
  refine g_iadd X129 hx (pc' := 63) rfl (hb hby d5_62) ?_
  refine g_normI (z := (1 : Int32)) (by decide) ?_
  refine g_dup2 X129 hx (pc' := 64) rfl (hb hby d5_63) rfl rfl ?_
  refine g_daload X129 hx hZ V129 (i := 1) (by decide) (show (1 : Nat) < 4 by decide) (v := c10) rfl (pc' := 65) rfl (hb hby d5_64) ?_
  refine g_dload X129 hx (pc' := 67) rfl (hb hby d5_65) rfl ?_
  refine g_aloadN X129 hx (pc' := 68) rfl (hb hby d5_67) rfl rfl ?_
  refine g_iload X129 hx (pc' := 70) rfl (hb hby d5_68) rfl ?_
  refine g_iload X129 hx (pc' := 72) rfl (hb hby d5_70) rfl ?_
  refine g_iadd X129 hx (pc' := 73) rfl (hb hby d5_72) ?_
  refine g_normI (z := (2 : Int32)) (by decide) ?_
  refine g_daload X129 hx hZ V129 (i := 2) (by decide) (show (2 : Nat) < 4 by decide) (v := d128) rfl (pc' := 74) rfl (hb hby d5_73) ?_
  have q133 : Dy (mt6 * mx20) 1074 (FP.dmul t6 d128) := dy_mul yt6 q128 (by decide) (own_mb bt6 bx20 (by decide)) (by decide)
  refine g_dmul X129 hx (pc' := 75) (z := (FP.dmul t6 d128)) rfl (hb hby d5_74) (dy_noNaN q133) rfl ?_
  refine g_absD (fun d133 hd133 => ?_)
  rw [← hd133] at q133
  obtain ⟨n133, en133⟩ : ∃ z : Int, z = mt6 * mx20 := ⟨_, rfl⟩
  rw [← en133] at q133
  have b133 : n133.natAbs ≤ 16384 := by rw [en133, Int.natAbs_mul]; exact Nat.le_trans (Nat.mul_le_mul bt6 bx20) (by decide)
  have q134 : Dy (mc10 - n133) 1074 (FP.dsub c10 d133) := dy_sub yc10 q133 (own_subb bc10 b133 (by decide)) (by decide)
  refine g_dsub X129 hx (pc' := 76) (z := (FP.dsub c10 d133)) rfl (hb hby d5_75) (dy_noNaN q134) rfl ?_
  refine g_absD (fun d134 hd134 => ?_)
  rw [← hd134] at q134
  obtain ⟨n134, en134⟩ : ∃ z : Int, z = mc10 - n133 := ⟨_, rfl⟩
  rw [← en134] at q134
  have b134 : n134.natAbs ≤ 65536 := by rw [en134]; exact Nat.le_trans (own_subl bc10 b133) (by decide)
  refine g_dastore X129 hx hZ V129 (i := 1) (by decide) (show (1 : Nat) < 4 by decide) hg (pc' := 77) rfl (hb hby d5_76) (fun T135 h135 X135 W135 N135 => ?_)
  have f136 := f130.other W135 hne
  have f137 := (by have q := (Keep.of_wr W135).1; exact Nat.le_trans f131 q : n0 ≤ h135.size)
  have f138 := f132.wr W135 (Or.inl (List.mem_of_getElem? (i := 0) rfl))
  have V135 : AD Z h135 ca [c00, d134, d128, c30] := N135
  refine g_iincC X135 hx (pc' := 80) (x := (0 : Int32)) (z := (1 : Int32)) rfl (hb hby d5_77) rfl (by decide) (l' := #[.val (.ref ta), .val (.int (4 : Int32)), .val (.int (3 : Int32)), .val (.ref ca), .val (.int (1 : Int32)), .val (.int (1 : Int32)), .val (.int (1 : Int32)), .val (.int (2 : Int32)), .val (.double t6), .second, .val (.int (2 : Int32)), .val (.int (1 : Int32))]) rfl ?_
  refine g_goto X135 hx (pc' := 50) (hb hby d5_80) (by decide) (by decide) ?_
  refine g_iload X135 hx (pc' := 52) rfl (hb hby d5_50) rfl ?_
  refine g_iload X135 hx (pc' := 54) rfl (hb hby d5_52) rfl ?_
  refine g_icmpY X135 hx (pcY := 83) (hb hby d5_54) (by decide) (by decide) (show ¬ (1 : Int32) < (1 : Int32) from by decide) ?_
  refine g_iincC X135 hx (pc' := 86) (x := (2 : Int32)) (z := (3 : Int32)) rfl (hb hby d5_83) rfl (by decide) (l' := #[.val (.ref ta), .val (.int (4 : Int32)), .val (.int (3 : Int32)), .val (.ref ca), .val (.int (1 : Int32)), .val (.int (1 : Int32)), .val (.int (1 : Int32)), .val (.int (3 : Int32)), .val (.double t6), .second, .val (.int (2 : Int32)), .val (.int (1 : Int32))]) rfl ?_
  refine g_goto X135 hx (pc' := 23) (hb hby d5_86) (by decide) (by decide) ?_
  refine g_iload X135 hx (pc' := 25) rfl (hb hby d5_23) rfl ?_
  refine g_iloadN X135 hx (pc' := 26) rfl (hb hby d5_25) rfl ?_
  refine g_icmpY X135 hx (pcY := 89) (hb hby d5_26) (by decide) (by decide) (show ¬ (3 : Int32) < (3 : Int32) from by decide) ?_
  refine g_aloadN X135 hx (pc' := 90) rfl (hb hby d5_89) rfl rfl ?_
  refine g_iload X135 hx (pc' := 92) rfl (hb hby d5_90) rfl ?_
  refine g_iloadN X135 hx (pc' := 93) rfl (hb hby d5_92) rfl ?_
  refine g_imul X135 hx (pc' := 94) rfl (hb hby d5_93) ?_
  refine g_normI (z := (4 : Int32)) (by decide) ?_
  refine g_iload X135 hx (pc' := 96) rfl (hb hby d5_94) rfl ?_
  refine g_iadd X135 hx (pc' := 97) rfl (hb hby d5_96) ?_
  refine g_normI (z := (5 : Int32)) (by decide) ?_
  refine g_daload X135 hx hZ f136 (i := 5) (by decide) (show (5 : Nat) < 16 by decide) (v := t5) rfl (pc' := 98) rfl (hb hby d5_97) ?_
  refine g_dstore X135 hx (pc' := 100) rfl (hb hby d5_98) (l' := #[.val (.ref ta), .val (.int (4 : Int32)), .val (.int (3 : Int32)), .val (.ref ca), .val (.int (1 : Int32)), .val (.int (1 : Int32)), .val (.int (1 : Int32)), .val (.double t5), .second, .unset, .val (.int (2 : Int32)), .val (.int (1 : Int32))]) rfl ?_
  refine g_iconst X135 hx (pc' := 101) (z := (0 : Int32)) rfl (hb hby d5_100) rfl ?_
  refine g_istore X135 hx (pc' := 103) rfl (hb hby d5_101) (l' := #[.val (.ref ta), .val (.int (4 : Int32)), .val (.int (3 : Int32)), .val (.ref ca), .val (.int (1 : Int32)), .val (.int (1 : Int32)), .val (.int (1 : Int32)), .val (.double t5), .second, .val (.int (0 : Int32)), .val (.int (2 : Int32)), .val (.int (1 : Int32))]) rfl ?_
  refine g_iload X135 hx (pc' := 105) rfl (hb hby d5_103) rfl ?_
  refine g_iload X135 hx (pc' := 107) rfl (hb hby d5_105) rfl ?_
  refine g_icmpN X135 hx (pcN := 110) (hb hby d5_107) rfl (show ¬ (¬ (0 : Int32) < (1 : Int32)) from by decide) ?_
  refine g_aloadN X135 hx (pc' := 111) rfl (hb hby d5_110) rfl rfl ?_
  refine g_iload X135 hx (pc' := 113) rfl (hb hby d5_111) rfl ?_
  refine g_iload X135 hx (pc' := 115) rfl (hb hby d5_113) rfl ?_
  refine g_iadd X135 hx (pc' := 116) rfl (hb hby d5_115) ?_
  refine g_normI (z := (1 : Int32)) (by decide) ?_
  refine g_dup2 X135 hx (pc' := 117) rfl (hb hby d5_116) rfl rfl ?_
  refine g_daload X135 hx hZ V135 (i := 1) (by decide) (show (1 : Nat) < 4 by decide) (v := d134) rfl (pc' := 118) rfl (hb hby d5_117) ?_
  refine g_dload X135 hx (pc' := 120) rfl (hb hby d5_118) rfl ?_
  have q139 : Dy mx10 1074 (FP.ddiv d134 t5) := dy_div q134 yt5 hz5 (by rw [en134, en133]; exact own_g1 ec10) rfl (Nat.lt_of_le_of_lt bx10 (by decide)) (by decide)
  refine g_ddiv X135 hx (pc' := 121) (z := (FP.ddiv d134 t5)) rfl (hb hby d5_120) (dy_noNaN q139) rfl ?_
  refine g_absD (fun d139 hd139 => ?_)
  rw [← hd139] at q139
  refine g_dastore X135 hx hZ V135 (i := 1) (by decide) (show (1 : Nat) < 4 by decide) hg (pc' := 122) rfl (hb hby d5_121) (fun T140 h140 X140 W140 N140 => ?_)
  have f141 := f136.other W140 hne
  have f142 := (by have q := (Keep.of_wr W140).1; exact Nat.le_trans f137 q : n0 ≤ h140.size)
  have f143 := f138.wr W140 (Or.inl (List.mem_of_getElem? (i := 0) rfl))
  have V140 : AD Z h140 ca [c00, d139, d128, c30] := N140
  refine g_iincC X140 hx (pc' := 125) (x := (0 : Int32)) (z := (1 : Int32)) rfl (hb hby d5_122) rfl (by decide) (l' := #[.val (.ref ta), .val (.int (4 : Int32)), .val (.int (3 : Int32)), .val (.ref ca), .val (.int (1 : Int32)), .val (.int (1 : Int32)), .val (.int (1 : Int32)), .val (.double t5), .second, .val (.int (1 : Int32)), .val (.int (2 : Int32)), .val (.int (1 : Int32))]) rfl ?_
  refine g_goto X140 hx (pc' := 103) (hb hby d5_125) (by decide) (by decide) ?_
  refine g_iload X140 hx (pc' := 105) rfl (hb hby d5_103) rfl ?_
  refine g_iload X140 hx (pc' := 107) rfl (hb hby d5_105) rfl ?_
  refine g_icmpY X140 hx (pcY := 128) (hb hby d5_107) (by decide) (by decide) (show ¬ (1 : Int32) < (1 : Int32) from by decide) ?_
  refine g_iincC X140 hx (pc' := 131) (x := (1 : Int32)) (z := (0 : Int32)) rfl (hb hby d5_128) rfl (by decide) (l' := #[.val (.ref ta), .val (.int (4 : Int32)), .val (.int (3 : Int32)), .val (.ref ca), .val (.int (1 : Int32)), .val (.int (0 : Int32)), .val (.int (1 : Int32)), .val (.double t5), .second, .val (.int (1 : Int32)), .val (.int (2 : Int32)), .val (.int (1 : Int32))]) rfl ?_
  refine g_goto X140 hx (pc' := 5) (hb hby d5_131) (by decide) (by decide) ?_
  refine g_iload X140 hx (pc' := 7) rfl (hb hby d5_5) rfl ?_
  refine g_ifN X140 hx (pcN := 10) (hb hby d5_7) rfl (show ¬ ((0 : Int32) < 0) from by decide) ?_
  refine g_iload X140 hx (pc' := 12) rfl (hb hby d5_10) rfl ?_
  refine g_iload X140 hx (pc' := 14) rfl (hb hby d5_12) rfl ?_
  refine g_imul X140 hx (pc' := 15) rfl (hb hby d5_14) ?_
  refine g_normI (z := (0 : Int32)) (by decide) ?_
  refine g_istore X140 hx (pc' := 17) rfl (hb hby d5_15) (l' := #[.val (.ref ta), .val (.int (4 : Int32)), .val (.int (3 : Int32)), .val (.ref ca), .val (.int (1 : Int32)), .val (.int (0 : Int32)), .val (.int (0 : Int32)), .val (.double t5), .second, .val (.int (1 : Int32)), .val (.int (2 : Int32)), .val (.int (1 : Int32))]) rfl ?_
  refine g_iload X140 hx (pc' := 19) rfl (hb hby d5_17) rfl ?_
  refine g_iconst X140 hx (pc' := 20) (z := (1 : Int32)) rfl (hb hby d5_19) rfl ?_
  refine g_iadd X140 hx (pc' := 21) rfl (hb hby d5_20) ?_
  refine g_normI (z := (1 : Int32)) (by decide) ?_
  refine g_istore X140 hx (pc' := 23) rfl (hb hby d5_21) (l' := #[.val (.ref ta), .val (.int (4 : Int32)), .val (.int (3 : Int32)), .val (.ref ca), .val (.int (1 : Int32)), .val (.int (0 : Int32)), .val (.int (0 : Int32)), .val (.int (1 : Int32)), .unset, .val (.int (1 : Int32)), .val (.int (2 : Int32)), .val (.int (1 : Int32))]) rfl ?_
  refine g_iload X140 hx (pc' := 25) rfl (hb hby d5_23) rfl ?_
  refine g_iloadN X140 hx (pc' := 26) rfl (hb hby d5_25) rfl ?_
  refine g_icmpN X140 hx (pcN := 29) (hb hby d5_26) rfl (show ¬ (¬ (1 : Int32) < (3 : Int32)) from by decide) ?_
  refine g_aloadN X140 hx (pc' := 30) rfl (hb hby d5_29) rfl rfl ?_
  refine g_iload X140 hx (pc' := 32) rfl (hb hby d5_30) rfl ?_
  refine g_iloadN X140 hx (pc' := 33) rfl (hb hby d5_32) rfl ?_
  refine g_imul X140 hx (pc' := 34) rfl (hb hby d5_33) ?_
  refine g_normI (z := (0 : Int32)) (by decide) ?_
  refine g_iload X140 hx (pc' := 36) rfl (hb hby d5_34) rfl ?_
  refine g_iadd X140 hx (pc' := 37) rfl (hb hby d5_36) ?_
  refine g_normI (z := (1 : Int32)) (by decide) ?_
  refine g_daload X140 hx hZ f141 (i := 1) (by decide) (show (1 : Nat) < 16 by decide) (v := t1) rfl (pc' := 38) rfl (hb hby d5_37) ?_
  refine g_dstore X140 hx (pc' := 40) rfl (hb hby d5_38) (l' := #[.val (.ref ta), .val (.int (4 : Int32)), .val (.int (3 : Int32)), .val (.ref ca), .val (.int (1 : Int32)), .val (.int (0 : Int32)), .val (.int (0 : Int32)), .val (.int (1 : Int32)), .val (.double t1), .second, .val (.int (2 : Int32)), .val (.int (1 : Int32))]) rfl ?_
  refine g_iload X140 hx (pc' := 42) rfl (hb hby d5_40) rfl ?_
  refine g_iload X140 hx (pc' := 44) rfl (hb hby d5_42) rfl ?_
  refine g_imul X140 hx (pc' := 45) rfl (hb hby d5_44) ?_
  refine g_normI (z := (1 : Int32)) (by decide) ?_
  refine g_istore X140 hx (pc' := 47) rfl (hb hby d5_45) (l' := #[.val (.ref ta), .val (.int (4 : Int32)), .val (.int (3 : Int32)), .val (.ref ca), .val (.int (1 : Int32)), .val (.int (0 : Int32)), .val (.int (0 : Int32)), .val (.int (1 : Int32)), .val (.double t1), .second, .val (.int (1 : Int32)), .val (.int (1 : Int32))]) rfl ?_
  refine g_iconst X140 hx (pc' := 48) (z := (0 : Int32)) rfl (hb hby d5_47) rfl ?_
  refine g_istore X140 hx (pc' := 50) rfl (hb hby d5_48) (l' := #[.val (.ref ta), .val (.int (4 : Int32)), .val (.int (3 : Int32)), .val (.ref ca), .val (.int (1 : Int32)), .val (.int (0 : Int32)), .val (.int (0 : Int32)), .val (.int (1 : Int32)), .val (.double t1), .second, .val (.int (1 : Int32)), .val (.int (0 : Int32))]) rfl ?_
  refine g_iload X140 hx (pc' := 52) rfl (hb hby d5_50) rfl ?_
  refine g_iload X140 hx (pc' := 54) rfl (hb hby d5_52) rfl ?_
  refine g_icmpN X140 hx (pcN := 57) (hb hby d5_54) rfl (show ¬ (¬ (0 : Int32) < (1 : Int32)) from by decide) ?_
  refine g_aloadN X140 hx (pc' := 58) rfl (hb hby d5_57) rfl rfl ?_
  refine g_iload X140 hx (pc' := 60) rfl (hb hby d5_58) rfl ?_
  refine g_iload X140 hx (pc' := 62) rfl (hb hby d5_60) rfl ?_
  refine g_iadd X140 hx (pc' := 63) rfl (hb hby d5_62) ?_
  refine g_normI (z := (0 : Int32)) (by decide) ?_
  refine g_dup2 X140 hx (pc' := 64) rfl (hb hby d5_63) rfl rfl ?_
  refine g_daload X140 hx hZ V140 (i := 0) (by decide) (show (0 : Nat) < 4 by decide) (v := c00) rfl (pc' := 65) rfl (hb hby d5_64) ?_
  refine g_dload X140 hx (pc' := 67) rfl (hb hby d5_65) rfl ?_
  refine g_aloadN X140 hx (pc' := 68) rfl (hb hby d5_67) rfl rfl ?_
  refine g_iload X140 hx (pc' := 70) rfl (hb hby d5_68) rfl ?_
  refine g_iload X140 hx (pc' := 72) rfl (hb hby d5_70) rfl ?_
  refine g_iadd X140 hx (pc' := 73) rfl (hb hby d5_72) ?_
  refine g_normI (z := (1 : Int32)) (by decide) ?_
  refine g_daload X140 hx hZ V140 (i := 1) (by decide) (show (1 : Nat) < 4 by decide) (v := d139) rfl (pc' := 74) rfl (hb hby d5_73) ?_
  have q144 : Dy (mt1 * mx10) 1074 (FP.dmul t1 d139) := dy_mul yt1 q139 (by decide) (own_mb bt1 bx10 (by decide)) (by decide)
  refine g_dmul X140 hx (pc' := 75) (z := (FP.dmul t1 d139)) rfl (hb hby d5_74) (dy_noNaN q144) rfl ?_
  refine g_absD (fun d144 hd144 => ?_)
  rw [← hd144] at q144
  obtain ⟨n144, en144⟩ : ∃ z : Int, z = mt1 * mx10 := ⟨_, rfl⟩
  rw [← en144] at q144
  have b144 : n144.natAbs ≤ 16384 := by rw [en144, Int.natAbs_mul]; exact Nat.le_trans (Nat.mul_le_mul bt1 bx10) (by decide)
  have q145 : Dy (mc00 - n144) 1074 (FP.dsub c00 d144) := dy_sub yc00 q144 (own_subb bc00 b144 (by decide)) (by decide)
  refine g_dsub X140 hx (pc' := 76) (z := (FP.dsub c00 d144)) rfl (hb hby d5_75) (dy_noNaN q145) rfl ?_
  refine g_absD (fun d145 hd145 => ?_)
  rw [← hd145] at q145
  obtain ⟨n145, en145⟩ : ∃ z : Int, z = mc00 - n144 := ⟨_, rfl⟩
  rw [← en145] at q145
  have b145 : n145.natAbs ≤ 65536 := by rw [en145]; exact Nat.le_trans (own_subl bc00 b144) (by decide)
  refine g_dastore X140 hx hZ V140 (i := 0) (by decide) (show (0 : Nat) < 4 by decide) hg (pc' := 77) rfl (hb hby d5_76) (fun T146 h146 X146 W146 N146 => ?_)
  have f147 := f141.other W146 hne
  have f148 := (by have q := (Keep.of_wr W146).1; exact Nat.le_trans f142 q : n0 ≤ h146.size)
  have f149 := f143.wr W146 (Or.inl (List.mem_of_getElem? (i := 0) rfl))
  have V146 : AD Z h146 ca [d145, d139, d128, c30] := N146
  refine g_iincC X146 hx (pc' := 80) (x := (0 : Int32)) (z := (1 : Int32)) rfl (hb hby d5_77) rfl (by decide) (l' := #[.val (.ref ta), .val (.int (4 : Int32)), .val (.int (3 : Int32)), .val (.ref ca), .val (.int (1 : Int32)), .val (.int (0 : Int32)), .val (.int (0 : Int32)), .val (.int (1 : Int32)), .val (.double t1), .second, .val (.int (1 : Int32)), .val (.int (1 : Int32))]) rfl ?_
  refine g_goto X146 hx (pc' := 50) (hb hby d5_80) (by decide) (by decide) ?_
  refine g_iload X146 hx (pc' := 52) rfl (hb hby d5_50) rfl ?_
  refine g_iload X146 hx (pc' := 54) rfl (hb hby d5_52) rfl ?_
  refine g_icmpY X146 hx (pcY := 83) (hb hby d5_54) (by decide) (by decide) (show ¬ (1 : Int32) < (1 : Int32) from by decide) ?_
  refine g_iincC X146 hx (pc' := 86) (x := (1 : Int32)) (z := (2 : Int32)) rfl (hb hby d5_83) rfl (by decide) (l' := #[.val (.ref ta), .val (.int (4 : Int32)), .val (.int (3 : Int32)), .val (.ref ca), .val (.int (1 : Int32)), .val (.int (0 : Int32)), .val (.int (0 : Int32)), .val (.int (2 : Int32)), .val (.double t1), .second, .val (.int (1 : Int32)), .val (.int (1 : Int32))]) rfl ?_
  refine g_goto X146 hx (pc' := 23) (hb hby d5_86) (by decide) (by decide) ?_
  refine g_iload X146 hx (pc' := 25) rfl (hb hby d5_23) rfl ?_
  refine g_iloadN X146 hx (pc' := 26) rfl (hb hby d5_25) rfl ?_
  refine g_icmpN X146 hx (pcN := 29) (hb hby d5_26) rfl (show ¬ (¬ (2 : Int32) < (3 : Int32)) from by decide) ?_
  refine g_aloadN X146 hx (pc' := 30) rfl (hb hby d5_29) rfl rfl ?_
  refine g_iload X146 hx (pc' := 32) rfl (hb hby d5_30) rfl ?_
  refine g_iloadN X146 hx (pc' := 33) rfl (hb hby d5_32) rfl ?_
  refine g_imul X146 hx (pc' := 34) rfl (hb hby d5_33) ?_
  refine g_normI (z := (0 : Int32)) (by decide) ?_
  refine g_iload X146 hx (pc' := 36) rfl (hb hby d5_34) rfl ?_
  refine g_iadd X146 hx (pc' := 37) rfl (hb hby d5_36) ?_
  refine g_normI (z := (2 : Int32)) (by decide) ?_
  refine g_daload X146 hx hZ f147 (i := 2) (by decide) (show (2 : Nat) < 16 by decide) (v := t2) rfl (pc' := 38) rfl (hb hby d5_37) ?_
  refine g_dstore X146 hx (pc' := 40) rfl (hb hby d5_38) (l' := #[.val (.ref ta), .val (.int (4 : Int32)), .val (.int (3 : Int32)), .val (.ref ca), .val (.int (1 : Int32)), .val (.int (0 : Int32)), .val (.int (0 : Int32)), .val (.int (2 : Int32)), .val (.double t2), .second, .val (.int (1 : Int32)), .val (.int (1 : Int32))]) rfl ?_
  refine g_iload X146 hx (pc' := 42) rfl (hb hby d5_40) rfl ?_
  refine g_iload X146 hx (pc' := 44) rfl (hb hby d5_42) rfl ?_
  refine g_imul X146 hx (pc' := 45) rfl (hb hby d5_44) ?_
  refine g_normI (z := (2 : Int32)) (by decide) ?_
  refine g_istore X146 hx (pc' := 47) rfl (hb hby d5_45) (l' := #[.val (.ref ta), .val (.int (4 : Int32)), .val (.int (3 : Int32)), .val (.ref ca), .val (.int (1 : Int32)), .val (.int (0 : Int32)), .val (.int (0 : Int32)), .val (.int (2 : Int32)), .val (.double t2), .second, .val (.int (2 : Int32)), .val (.int (1 : Int32))]) rfl ?_
  refine g_iconst X146 hx (pc' := 48) (z := (0 : Int32)) rfl (hb hby d5_47) rfl ?_
  refine g_istore X146 hx (pc' := 50) rfl (hb hby d5_48) (l' := #[.val (.ref ta), .val (.int (4 : Int32)), .val (.int (3 : Int32)), .val (.ref ca), .val (.int (1 : Int32)), .val (.int (0 : Int32)), .val (.int (0 : Int32)), .val (.int (2 : Int32)), .val (.double t2), .second, .val (.int (2 : Int32)), .val (.int (0 : Int32))]) rfl ?_
  refine g_iload X146 hx (pc' := 52) rfl (hb hby d5_50) rfl ?_
  refine g_iload X146 hx (pc' := 54) rfl (hb hby d5_52) rfl ?_
  refine g_icmpN X146 hx (pcN := 57) (hb hby d5_54) rfl (show ¬ (¬ (0 : Int32) < (1 : Int32)) from by decide) ?_
  refine g_aloadN X146 hx (pc' := 58) rfl (hb hby d5_57) rfl rfl ?_
  refine g_iload X146 hx (pc' := 60) rfl (hb hby d5_58) rfl ?_
  refine g_iload X146 hx (pc' := 62) rfl (hb hby d5_60) rfl ?_
  refine g_iadd X146 hx (pc' := 63) rfl (hb hby d5_62) ?_
  refine g_normI (z := (0 : Int32)) (by decide) ?_
  refine g_dup2 X146 hx (pc' := 64) rfl (hb hby d5_63) rfl rfl ?_
  refine g_daload X146 hx hZ V146 (i := 0) (by decide) (show (0 : Nat) < 4 by decide) (v := d145) rfl (pc' := 65) rfl (hb hby d5_64) ?_
  refine g_dload X146 hx (pc' := 67) rfl (hb hby d5_65) rfl ?_
  refine g_aloadN X146 hx (pc' := 68) rfl (hb hby d5_67) rfl rfl ?_
  refine g_iload X146 hx (pc' := 70) rfl (hb hby d5_68) rfl ?_
  refine g_iload X146 hx (pc' := 72) rfl (hb hby d5_70) rfl ?_
  refine g_iadd X146 hx (pc' := 73) rfl (hb hby d5_72) ?_
  refine g_normI (z := (2 : Int32)) (by decide) ?_
  refine g_daload X146 hx hZ V146 (i := 2) (by decide) (show (2 : Nat) < 4 by decide) (v := d128) rfl (pc' := 74) rfl (hb hby d5_73) ?_
  have q150 : Dy (mt2 * mx20) 1074 (FP.dmul t2 d128) := dy_mul yt2 q128 (by decide) (own_mb bt2 bx20 (by decide)) (by decide)
  refine g_dmul X146 hx (pc' := 75) (z := (FP.dmul t2 d128)) rfl (hb hby d5_74) (dy_noNaN q150) rfl ?_
  refine g_absD (fun d150 hd150 => ?_)
  rw [← hd150] at q150
  obtain ⟨n150, en150⟩ : ∃ z : Int, z = mt2 * mx20 := ⟨_, rfl⟩
  rw [← en150] at q150
  have b150 : n150.natAbs ≤ 16384 := by rw [en150, Int.natAbs_mul]; exact Nat.le_trans (Nat.mul_le_mul bt2 bx20) (by decide)
  have q151 : Dy (n145 - n150) 1074 (FP.dsub d145 d150) := dy_sub q145 q150 (own_subb b145 b150 (by decide)) (by decide)
  refine g_dsub X146 hx (pc' := 76) (z := (FP.dsub d145 d150)) rfl (hb hby d5_75) (dy_noNaN q151) rfl ?_
  refine g_absD (fun d151 hd151 => ?_)
  rw [← hd151] at q151
  obtain ⟨n151, en151⟩ : ∃ z : Int, z = n145 - n150 := ⟨_, rfl⟩
  rw [← en151] at q151
  have b151 : n151.natAbs ≤ 81920 := by rw [en151]; exact Nat.le_trans (own_subl b145 b150) (by decide)
  refine g_dastore X146 hx hZ V146 (i := 0) (by decide) (show (0 : Nat) < 4 by decide) hg (pc' := 77) rfl (hb hby d5_76) (fun T152 h152 X152 W152 N152 => ?_)
  have f153 := f147.other W152 hne
  have f154 := (by have q := (Keep.of_wr W152).1; exact Nat.le_trans f148 q : n0 ≤ h152.size)
  have f155 := f149.wr W152 (Or.inl (List.mem_of_getElem? (i := 0) rfl))
  have V152 : AD Z h152 ca [d151, d139, d128, c30] := N152
  refine g_iincC X152 hx (pc' := 80) (x := (0 : Int32)) (z := (1 : Int32)) rfl (hb hby d5_77) rfl (by decide) (l' := #[.val (.ref ta), .val (.int (4 : Int32)), .val (.int (3 : Int32)), .val (.ref ca), .val (.int (1 : Int32)), .val (.int (0 : Int32)), .val (.int (0 : Int32)), .val (.int (2 : Int32)), .val (.double t2), .second, .val (.int (2 : Int32)), .val (.int (1 : Int32))]) rfl ?_
  refine g_goto X152 hx (pc' := 50) (hb hby d5_80) (by decide) (by decide) ?_
  refine g_iload X152 hx (pc' := 52) rfl (hb hby d5_50) rfl ?_
  refine g_iload X152 hx (pc' := 54) rfl (hb hby d5_52) rfl ?_
  refine g_icmpY X152 hx (pcY := 83) (hb hby d5_54) (by decide) (by decide) (show ¬ (1 : Int32) < (1 : Int32) from by decide) ?_
  refine g_iincC X152 hx (pc' := 86) (x := (2 : Int32)) (z := (3 : Int32)) rfl (hb hby d5_83) rfl (by decide) (l' := #[.val (.ref ta), .val (.int (4 : Int32)), .val (.int (3 : Int32)), .val (.ref ca), .val (.int (1 : Int32)), .val (.int (0 : Int32)), .val (.int (0 : Int32)), .val (.int (3 : Int32)), .val (.double t2), .second, .val (.int (2 : Int32)), .val (.int (1 : Int32))]) rfl ?_
  refine g_goto X152 hx (pc' := 23) (hb hby d5_86) (by decide) (by decide) ?_
  refine g_iload X152 hx (pc' := 25) rfl (hb hby d5_23) rfl ?_
  refine g_iloadN X152 hx (pc' := 26) rfl (hb hby d5_25) rfl ?_
  refine g_icmpY X152 hx (pcY := 89) (hb hby d5_26) (by decide) (by decide) (show ¬ (3 : Int32) < (3 : Int32) from by decide) ?_
  refine g_aloadN X152 hx (pc' := 90) rfl (hb hby d5_89) rfl rfl ?_
  refine g_iload X152 hx (pc' := 92) rfl (hb hby d5_90) rfl ?_
  refine g_iloadN X152 hx (pc' := 93) rfl (hb hby d5_92) rfl ?_
  refine g_imul X152 hx (pc' := 94) rfl (hb hby d5_93) ?_
  refine g_normI (z := (0 : Int32)) (by decide) ?_
  refine g_iload X152 hx (pc' := 96) rfl (hb hby d5_94) rfl ?_
  refine g_iadd X152 hx (pc' := 97) rfl (hb hby d5_96) ?_
  refine g_normI (z := (0 : Int32)) (by decide) ?_
  refine g_daload X152 hx hZ f153 (i := 0) (by decide) (show (0 : Nat) < 16 by decide) (v := t0) rfl (pc' := 98) rfl (hb hby d5_97) ?_
  refine g_dstore X152 hx (pc' := 100) rfl (hb hby d5_98) (l' := #[.val (.ref ta), .val (.int (4 : Int32)), .val (.int (3 : Int32)), .val (.ref ca), .val (.int (1 : Int32)), .val (.int (0 : Int32)), .val (.int (0 : Int32)), .val (.double t0), .second, .unset, .val (.int (2 : Int32)), .val (.int (1 : Int32))]) rfl ?_
  refine g_iconst X152 hx (pc' := 101) (z := (0 : Int32)) rfl (hb hby d5_100) rfl ?_
  refine g_istore X152 hx (pc' := 103) rfl (hb hby d5_101) (l' := #[.val (.ref ta), .val (.int (4 : Int32)), .val (.int (3 : Int32)), .val (.ref ca), .val (.int (1 : Int32)), .val (.int (0 : Int32)), .val (.int (0 : Int32)), .val (.double t0), .second, .val (.int (0 : Int32)), .val (.int (2 : Int32)), .val (.int (1 : Int32))]) rfl ?_
  refine g_iload X152 hx (pc' := 105) rfl (hb hby d5_103) rfl ?_
  refine g_iload X152 hx (pc' := 107) rfl (hb hby d5_105) rfl ?_
  refine g_icmpN X152 hx (pcN := 110) (hb hby d5_107) rfl (show ¬ (¬ (0 : Int32) < (1 : Int32)) from by decide) ?_
  refine g_aloadN X152 hx (pc' := 111) rfl (hb hby d5_110) rfl rfl ?_
  refine g_iload X152 hx (pc' := 113) rfl (hb hby d5_111) rfl ?_
  refine g_iload X152 hx (pc' := 115) rfl (hb hby d5_113) rfl ?_
  refine g_iadd X152 hx (pc' := 116) rfl (hb hby d5_115) ?_
  refine g_normI (z := (0 : Int32)) (by decide) ?_
  refine g_dup2 X152 hx (pc' := 117) rfl (hb hby d5_116) rfl rfl ?_
  refine g_daload X152 hx hZ V152 (i := 0) (by decide) (show (0 : Nat) < 4 by decide) (v := d151) rfl (pc' := 118) rfl (hb hby d5_117) ?_
  refine g_dload X152 hx (pc' := 120) rfl (hb hby d5_118) rfl ?_
  have q156 : Dy mx00 1074 (FP.ddiv d151 t0) := dy_div q151 yt0 hz0 (by rw [en151, en145, en144, en150]; exact own_g2 ec00) rfl (Nat.lt_of_le_of_lt bx00 (by decide)) (by decide)
  refine g_ddiv X152 hx (pc' := 121) (z := (FP.ddiv d151 t0)) rfl (hb hby d5_120) (dy_noNaN q156) rfl ?_
  refine g_absD (fun d156 hd156 => ?_)
  rw [← hd156] at q156
  refine g_dastore X152 hx hZ V152 (i := 0) (by decide) (show (0 : Nat) < 4 by decide) hg (pc' := 122) rfl (hb hby d5_121) (fun T157 h157 X157 W157 N157 => ?_)
  have f158 := f153.other W157 hne
  have f159 := (by have q := (Keep.of_wr W157).1; exact Nat.le_trans f154 q : n0 ≤ h157.size)
  have f160 := f155.wr W157 (Or.inl (List.mem_of_getElem? (i := 0) rfl))
  have V157 : AD Z h157 ca [d156, d139, d128, c30] := N157
  refine g_iincC X157 hx (pc' := 125) (x := (0 : Int32)) (z := (1 : Int32)) rfl (hb hby d5_122) rfl (by decide) (l' := #[.val (.ref ta), .val (.int (4 : Int32)), .val (.int (3 : Int32)), .val (.ref ca), .val (.int (1 : Int32)), .val (.int (0 : Int32)), .val (.int (0 : Int32)), .val (.double t0), .second, .val (.int (1 : Int32)), .val (.int (2 : Int32)), .val (.int (1 : Int32))]) rfl ?_
  refine g_goto X157 hx (pc' := 103) (hb hby d5_125) (by decide) (by decide) ?_
  refine g_iload X157 hx (pc' := 105) rfl (hb hby d5_103) rfl ?_
  refine g_iload X157 hx (pc' := 107) rfl (hb hby d5_105) rfl ?_
  refine g_icmpY X157 hx (pcY := 128) (hb hby d5_107) (by decide) (by decide) (show ¬ (1 : Int32) < (1 : Int32) from by decide) ?_
  refine g_iincC X157 hx (pc' := 131) (x := (0 : Int32)) (z := (-1 : Int32)) rfl (hb hby d5_128) rfl (by decide) (l' := #[.val (.ref ta), .val (.int (4 : Int32)), .val (.int (3 : Int32)), .val (.ref ca), .val (.int (1 : Int32)), .val (.int (-1 : Int32)), .val (.int (0 : Int32)), .val (.double t0), .second, .val (.int (1 : Int32)), .val (.int (2 : Int32)), .val (.int (1 : Int32))]) rfl ?_
  refine g_goto X157 hx (pc' := 5) (hb hby d5_131) (by decide) (by decide) ?_
  refine g_iload X157 hx (pc' := 7) rfl (hb hby d5_5) rfl ?_
  refine g_ifY X157 hx (pcY := 134) (hb hby d5_7) (by decide) (by decide) (show (-1 : Int32) < 0 from by decide) ?_
  exact g_retV X157 hx hlk hret (hb hby d5_134) (by decide) (by decide) (⟨rfl, f160, _, V157, rfl, fun _ => own_dyeq q156 yx00 rfl, fun q => absurd q (by decide), fun q => absurd q (by decide), fun _ => own_dyeq q139 yx10 rfl, fun q => absurd q (by decide), fun q => absurd q (by decide), fun _ => own_dyeq q128 yx20 rfl, fun q => absurd q (by decide), fun q => absurd q (by decide), fun _ => own_dyeq yc30 yx30 ec30, fun q => absurd q (by decide), fun q => absurd q (by decide)⟩)
set_option maxRecDepth 65536 in
set_option maxHeartbeats 40000000 in
theorem rm5_3_2 (l : Launch) (Z : State) (a0 : Array Value) (hw : ∀ d ∈ tables_1, d.before a0 Z = true) (ws : List Jvm.Cond) (n0 : Nat) (ta ca : Addr) (t0 : UInt64) (t1 : UInt64) (t2 : UInt64) (t3 : UInt64) (t4 : UInt64) (t5 : UInt64) (t6 : UInt64) (t7 : UInt64) (t8 : UInt64) (t9 : UInt64) (t10 : UInt64) (t11 : UInt64) (t12 : UInt64) (t13 : UInt64) (t14 : UInt64) (t15 : UInt64) (mt0 : Int) (mt1 : Int) (mt2 : Int) (mt5 : Int) (mt6 : Int) (mt10 : Int) (c00 : UInt64) (mc00 : Int) (c01 : UInt64) (mc01 : Int) (c10 : UInt64) (mc10 : Int) (c11 : UInt64) (mc11 : Int) (c20 : UInt64) (mc20 : Int) (c21 : UInt64) (mc21 : Int) (c30 : UInt64) (mc30 : Int) (c31 : UInt64) (mc31 : Int) (x00 : Int64) (mx00 : Int) (x01 : Int64) (mx01 : Int) (x02 : Int64) (mx02 : Int) (x10 : Int64) (mx10 : Int) (x11 : Int64) (mx11 : Int) (x12 : Int64) (mx12 : Int) (x20 : Int64) (mx20 : Int) (x21 : Int64) (mx21 : Int) (x22 : Int64) (mx22 : Int) (x30 : Int64) (mx30 : Int) (x31 : Int64) (mx31 : Int) (x32 : Int64) (mx32 : Int) (h0 : Heap) (hn0 : n0 ≤ h0.size) (At : AD Z h0 ta [t0, t1, t2, t3, t4, t5, t6, t7, t8, t9, t10, t11, t12, t13, t14, t15]) (Ac : AD Z h0 ca [c00, c01, c10, c11, c20, c21, c30, c31]) (hne : ta ≠ ca) (hg : n0 ≤ ca) (yt0 : Dy mt0 1074 t0) (bt0 : mt0.natAbs ≤ 128) (yt1 : Dy mt1 1074 t1) (bt1 : mt1.natAbs ≤ 128) (yt2 : Dy mt2 1074 t2) (bt2 : mt2.natAbs ≤ 128) (yt5 : Dy mt5 1074 t5) (bt5 : mt5.natAbs ≤ 128) (yt6 : Dy mt6 1074 t6) (bt6 : mt6.natAbs ≤ 128) (yt10 : Dy mt10 1074 t10) (bt10 : mt10.natAbs ≤ 128) (hz0 : mt0 ≠ 0) (hz5 : mt5 ≠ 0) (hz10 : mt10 ≠ 0) (yc00 : Dy mc00 1074 c00) (bc00 : mc00.natAbs ≤ 49152) (ec00 : mc00 = mt0 * mx00 + mt1 * mx10 + mt2 * mx20) (yc01 : Dy mc01 1074 c01) (bc01 : mc01.natAbs ≤ 49152) (ec01 : mc01 = mt0 * mx01 + mt1 * mx11 + mt2 * mx21) (yc10 : Dy mc10 1074 c10) (bc10 : mc10.natAbs ≤ 49152) (ec10 : mc10 = mt5 * mx10 + mt6 * mx20) (yc11 : Dy mc11 1074 c11) (bc11 : mc11.natAbs ≤ 49152) (ec11 : mc11 = mt5 * mx11 + mt6 * mx21) (yc20 : Dy mc20 1074 c20) (bc20 : mc20.natAbs ≤ 49152) (ec20 : mc20 = mt10 * mx20) (yc21 : Dy mc21 1074 c21) (bc21 : mc21.natAbs ≤ 49152) (ec21 : mc21 = mt10 * mx21) (yc30 : Dy mc30 1074 c30) (bc30 : mc30.natAbs ≤ 49152) (ec30 : mc30 = mx30) (yc31 : Dy mc31 1074 c31) (bc31 : mc31.natAbs ≤ 49152) (ec31 : mc31 = mx31) (yx00 : Dy mx00 1074 (FP.l2d x00)) (bx00 : mx00.natAbs ≤ 128) (yx01 : Dy mx01 1074 (FP.l2d x01)) (bx01 : mx01.natAbs ≤ 128) (yx02 : Dy mx02 1074 (FP.l2d x02)) (bx02 : mx02.natAbs ≤ 128) (yx10 : Dy mx10 1074 (FP.l2d x10)) (bx10 : mx10.natAbs ≤ 128) (yx11 : Dy mx11 1074 (FP.l2d x11)) (bx11 : mx11.natAbs ≤ 128) (yx12 : Dy mx12 1074 (FP.l2d x12)) (bx12 : mx12.natAbs ≤ 128) (yx20 : Dy mx20 1074 (FP.l2d x20)) (bx20 : mx20.natAbs ≤ 128) (yx21 : Dy mx21 1074 (FP.l2d x21)) (bx21 : mx21.natAbs ≤ 128) (yx22 : Dy mx22 1074 (FP.l2d x22)) (bx22 : mx22.natAbs ≤ 128) (yx30 : Dy mx30 1074 (FP.l2d x30)) (bx30 : mx30.natAbs ≤ 128) (yx31 : Dy mx31 1074 (FP.l2d x31)) (bx31 : mx31.natAbs ≤ 128) (yx32 : Dy mx32 1074 (FP.l2d x32)) (bx32 : mx32.natAbs ≤ 128) :
    Con l Z n0 (⟨"com/example/orthogon/orthogon/Triangular", "solveUpper", "([DII[DI)V"⟩ : MethodName) prog_16_method_3_code 12 none ws ({ frames := 0, cells := 0, slots := 0, locals := 0 } : Room) #[(.ref ta), (.int (4 : Int32)), (.int (3 : Int32)), (.ref ca), (.int (2 : Int32))] h0 (fun v h => v = none ∧ Keep h0 h [ca] ∧ ∃ xs, AD Z h ca xs ∧ xs.length = 4 * 2 ∧ (0 < 2 → cmpValue (FP.dcmp (xs.getD (0 * 2 + 0) 0) (FP.l2d x00)) .l = 0) ∧ (1 < 2 → cmpValue (FP.dcmp (xs.getD (0 * 2 + 1) 0) (FP.l2d x01)) .l = 0) ∧ (2 < 2 → cmpValue (FP.dcmp (xs.getD (0 * 2 + 2) 0) (FP.l2d x02)) .l = 0) ∧ (0 < 2 → cmpValue (FP.dcmp (xs.getD (1 * 2 + 0) 0) (FP.l2d x10)) .l = 0) ∧ (1 < 2 → cmpValue (FP.dcmp (xs.getD (1 * 2 + 1) 0) (FP.l2d x11)) .l = 0) ∧ (2 < 2 → cmpValue (FP.dcmp (xs.getD (1 * 2 + 2) 0) (FP.l2d x12)) .l = 0) ∧ (0 < 2 → cmpValue (FP.dcmp (xs.getD (2 * 2 + 0) 0) (FP.l2d x20)) .l = 0) ∧ (1 < 2 → cmpValue (FP.dcmp (xs.getD (2 * 2 + 1) 0) (FP.l2d x21)) .l = 0) ∧ (2 < 2 → cmpValue (FP.dcmp (xs.getD (2 * 2 + 2) 0) (FP.l2d x22)) .l = 0) ∧ (0 < 2 → cmpValue (FP.dcmp (xs.getD (3 * 2 + 0) 0) (FP.l2d x30)) .l = 0) ∧ (1 < 2 → cmpValue (FP.dcmp (xs.getD (3 * 2 + 1) 0) (FP.l2d x31)) .l = 0) ∧ (2 < 2 → cmpValue (FP.dcmp (xs.getD (3 * 2 + 2) 0) (FP.l2d x32)) .l = 0)) := by
  refine con_start (plainFor_of_name (by first | (simp [plainName, overriddenIn]; done) | decide +kernel)) (fr0 := fun m => mkF m 0 #[.val (.ref ta), .val (.int (4 : Int32)), .val (.int (3 : Int32)), .val (.ref ca), .val (.int (2 : Int32)), .unset, .unset, .unset, .unset, .unset, .unset, .unset] []) (fun m => by first | (simp [entryFrame, mkF, argsToLocals, Value.category]; done) | rfl) ?_
  intro p e s m below meth c T0 hx hZ hby hml hown hnm hret hlk X0
  replace hown : s.vm.findClass "com/example/orthogon/orthogon/Triangular" = some m.cls := hown
  replace hml : c.maxLocals = 12 := hml
  refine g_iloadN X0 hx (pc' := 1) rfl (hb hby d5_0) rfl ?_
  refine g_iconst X0 hx (pc' := 2) (z := (1 : Int32)) rfl (hb hby d5_1) rfl ?_
  refine g_isub X0 hx (pc' := 3) rfl (hb hby d5_2) ?_
  refine g_normI (z := (2 : Int32)) (by decide) ?_
  refine g_istore X0 hx (pc' := 5) rfl (hb hby d5_3) (l' := #[.val (.ref ta), .val (.int (4 : Int32)), .val (.int (3 : Int32)), .val (.ref ca), .val (.int (2 : Int32)), .val (.int (2 : Int32)), .unset, .unset, .unset, .unset, .unset, .unset]) rfl ?_
  refine g_iload X0 hx (pc' := 7) rfl (hb hby d5_5) rfl ?_
  refine g_ifN X0 hx (pcN := 10) (hb hby d5_7) rfl (show ¬ ((2 : Int32) < 0) from by decide) ?_
  refine g_iload X0 hx (pc' := 12) rfl (hb hby d5_10) rfl ?_
  refine g_iload X0 hx (pc' := 14) rfl (hb hby d5_12) rfl ?_
  refine g_imul X0 hx (pc' := 15) rfl (hb hby d5_14) ?_
  refine g_normI (z := (4 : Int32)) (by decide) ?_
  refine g_istore X0 hx (pc' := 17) rfl (hb hby d5_15) (l' := #[.val (.ref ta), .val (.int (4 : Int32)), .val (.int (3 : Int32)), .val (.ref ca), .val (.int (2 : Int32)), .val (.int (2 : Int32)), .val (.int (4 : Int32)), .unset, .unset, .unset, .unset, .unset]) rfl ?_
  refine g_iload X0 hx (pc' := 19) rfl (hb hby d5_17) rfl ?_
  refine g_iconst X0 hx (pc' := 20) (z := (1 : Int32)) rfl (hb hby d5_19) rfl ?_
  refine g_iadd X0 hx (pc' := 21) rfl (hb hby d5_20) ?_
  refine g_normI (z := (3 : Int32)) (by decide) ?_
  refine g_istore X0 hx (pc' := 23) rfl (hb hby d5_21) (l' := #[.val (.ref ta), .val (.int (4 : Int32)), .val (.int (3 : Int32)), .val (.ref ca), .val (.int (2 : Int32)), .val (.int (2 : Int32)), .val (.int (4 : Int32)), .val (.int (3 : Int32)), .unset, .unset, .unset, .unset]) rfl ?_
  refine g_iload X0 hx (pc' := 25) rfl (hb hby d5_23) rfl ?_
  refine g_iloadN X0 hx (pc' := 26) rfl (hb hby d5_25) rfl ?_
  refine g_icmpY X0 hx (pcY := 89) (hb hby d5_26) (by decide) (by decide) (show ¬ (3 : Int32) < (3 : Int32) from by decide) ?_
  refine g_aloadN X0 hx (pc' := 90) rfl (hb hby d5_89) rfl rfl ?_
  refine g_iload X0 hx (pc' := 92) rfl (hb hby d5_90) rfl ?_
  refine g_iloadN X0 hx (pc' := 93) rfl (hb hby d5_92) rfl ?_
  refine g_imul X0 hx (pc' := 94) rfl (hb hby d5_93) ?_
  refine g_normI (z := (8 : Int32)) (by decide) ?_
  refine g_iload X0 hx (pc' := 96) rfl (hb hby d5_94) rfl ?_
  refine g_iadd X0 hx (pc' := 97) rfl (hb hby d5_96) ?_
  refine g_normI (z := (10 : Int32)) (by decide) ?_
  refine g_daload X0 hx hZ At (i := 10) (by decide) (show (10 : Nat) < 16 by decide) (v := t10) rfl (pc' := 98) rfl (hb hby d5_97) ?_
  refine g_dstore X0 hx (pc' := 100) rfl (hb hby d5_98) (l' := #[.val (.ref ta), .val (.int (4 : Int32)), .val (.int (3 : Int32)), .val (.ref ca), .val (.int (2 : Int32)), .val (.int (2 : Int32)), .val (.int (4 : Int32)), .val (.double t10), .second, .unset, .unset, .unset]) rfl ?_
  refine g_iconst X0 hx (pc' := 101) (z := (0 : Int32)) rfl (hb hby d5_100) rfl ?_
  refine g_istore X0 hx (pc' := 103) rfl (hb hby d5_101) (l' := #[.val (.ref ta), .val (.int (4 : Int32)), .val (.int (3 : Int32)), .val (.ref ca), .val (.int (2 : Int32)), .val (.int (2 : Int32)), .val (.int (4 : Int32)), .val (.double t10), .second, .val (.int (0 : Int32)), .unset, .unset]) rfl ?_
  refine g_iload X0 hx (pc' := 105) rfl (hb hby d5_103) rfl ?_
  refine g_iload X0 hx (pc' := 107) rfl (hb hby d5_105) rfl ?_
  refine g_icmpN X0 hx (pcN := 110) (hb hby d5_107) rfl (show ¬ (¬ (0 : Int32) < (2 : Int32)) from by decide) ?_
  refine g_aloadN X0 hx (pc' := 111) rfl (hb hby d5_110) rfl rfl ?_
  refine g_iload X0 hx (pc' := 113) rfl (hb hby d5_111) rfl ?_
  refine g_iload X0 hx (pc' := 115) rfl (hb hby d5_113) rfl ?_
  refine g_iadd X0 hx (pc' := 116) rfl (hb hby d5_115) ?_
  refine g_normI (z := (4 : Int32)) (by decide) ?_
  refine g_dup2 X0 hx (pc' := 117) rfl (hb hby d5_116) rfl rfl ?_
  refine g_daload X0 hx hZ Ac (i := 4) (by decide) (show (4 : Nat) < 8 by decide) (v := c20) rfl (pc' := 118) rfl (hb hby d5_117) ?_
  refine g_dload X0 hx (pc' := 120) rfl (hb hby d5_118) rfl ?_
  have q161 : Dy mx20 1074 (FP.ddiv c20 t10) := dy_div yc20 yt10 hz10 (by exact own_g0 ec20) rfl (Nat.lt_of_le_of_lt bx20 (by decide)) (by decide)
  refine g_ddiv X0 hx (pc' := 121) (z := (FP.ddiv c20 t10)) rfl (hb hby d5_120) (dy_noNaN q161) rfl ?_
  refine g_absD (fun d161 hd161 => ?_)
  rw [← hd161] at q161
  refine g_dastore X0 hx hZ Ac (i := 4) (by decide) (show (4 : Nat) < 8 by decide) hg (pc' := 122) rfl (hb hby d5_121) (fun T162 h162 X162 W162 N162 => ?_)
  have f163 := At.other W162 hne
  have f164 := (by have q := (Keep.of_wr W162).1; exact Nat.le_trans hn0 q : n0 ≤ h162.size)
  have f165 := (Keep.refl h0 [ca]).wr W162 (Or.inl (List.mem_of_getElem? (i := 0) rfl))
  have V162 : AD Z h162 ca [c00, c01, c10, c11, d161, c21, c30, c31] := N162
  refine g_iincC X162 hx (pc' := 125) (x := (0 : Int32)) (z := (1 : Int32)) rfl (hb hby d5_122) rfl (by decide) (l' := #[.val (.ref ta), .val (.int (4 : Int32)), .val (.int (3 : Int32)), .val (.ref ca), .val (.int (2 : Int32)), .val (.int (2 : Int32)), .val (.int (4 : Int32)), .val (.double t10), .second, .val (.int (1 : Int32)), .unset, .unset]) rfl ?_
  refine g_goto X162 hx (pc' := 103) (hb hby d5_125) (by decide) (by decide) ?_
  refine g_iload X162 hx (pc' := 105) rfl (hb hby d5_103) rfl ?_
  refine g_iload X162 hx (pc' := 107) rfl (hb hby d5_105) rfl ?_
  refine g_icmpN X162 hx (pcN := 110) (hb hby d5_107) rfl (show ¬ (¬ (1 : Int32) < (2 : Int32)) from by decide) ?_
  refine g_aloadN X162 hx (pc' := 111) rfl (hb hby d5_110) rfl rfl ?_
  refine g_iload X162 hx (pc' := 113) rfl (hb hby d5_111) rfl ?_
  refine g_iload X162 hx (pc' := 115) rfl (hb hby d5_113) rfl ?_
  refine g_iadd X162 hx (pc' := 116) rfl (hb hby d5_115) ?_
  refine g_normI (z := (5 : Int32)) (by decide) ?_
  refine g_dup2 X162 hx (pc' := 117) rfl (hb hby d5_116) rfl rfl ?_
  refine g_daload X162 hx hZ V162 (i := 5) (by decide) (show (5 : Nat) < 8 by decide) (v := c21) rfl (pc' := 118) rfl (hb hby d5_117) ?_
  refine g_dload X162 hx (pc' := 120) rfl (hb hby d5_118) rfl ?_
  have q166 : Dy mx21 1074 (FP.ddiv c21 t10) := dy_div yc21 yt10 hz10 (by exact own_g0 ec21) rfl (Nat.lt_of_le_of_lt bx21 (by decide)) (by decide)
  refine g_ddiv X162 hx (pc' := 121) (z := (FP.ddiv c21 t10)) rfl (hb hby d5_120) (dy_noNaN q166) rfl ?_
  refine g_absD (fun d166 hd166 => ?_)
  rw [← hd166] at q166
  refine g_dastore X162 hx hZ V162 (i := 5) (by decide) (show (5 : Nat) < 8 by decide) hg (pc' := 122) rfl (hb hby d5_121) (fun T167 h167 X167 W167 N167 => ?_)
  have f168 := f163.other W167 hne
  have f169 := (by have q := (Keep.of_wr W167).1; exact Nat.le_trans f164 q : n0 ≤ h167.size)
  have f170 := f165.wr W167 (Or.inl (List.mem_of_getElem? (i := 0) rfl))
  have V167 : AD Z h167 ca [c00, c01, c10, c11, d161, d166, c30, c31] := N167
  refine g_iincC X167 hx (pc' := 125) (x := (1 : Int32)) (z := (2 : Int32)) rfl (hb hby d5_122) rfl (by decide) (l' := #[.val (.ref ta), .val (.int (4 : Int32)), .val (.int (3 : Int32)), .val (.ref ca), .val (.int (2 : Int32)), .val (.int (2 : Int32)), .val (.int (4 : Int32)), .val (.double t10), .second, .val (.int (2 : Int32)), .unset, .unset]) rfl ?_
  refine g_goto X167 hx (pc' := 103) (hb hby d5_125) (by decide) (by decide) ?_
  refine g_iload X167 hx (pc' := 105) rfl (hb hby d5_103) rfl ?_
  refine g_iload X167 hx (pc' := 107) rfl (hb hby d5_105) rfl ?_
  refine g_icmpY X167 hx (pcY := 128) (hb hby d5_107) (by decide) (by decide) (show ¬ (2 : Int32) < (2 : Int32) from by decide) ?_
  refine g_iincC X167 hx (pc' := 131) (x := (2 : Int32)) (z := (1 : Int32)) rfl (hb hby d5_128) rfl (by decide) (l' := #[.val (.ref ta), .val (.int (4 : Int32)), .val (.int (3 : Int32)), .val (.ref ca), .val (.int (2 : Int32)), .val (.int (1 : Int32)), .val (.int (4 : Int32)), .val (.double t10), .second, .val (.int (2 : Int32)), .unset, .unset]) rfl ?_
  refine g_goto X167 hx (pc' := 5) (hb hby d5_131) (by decide) (by decide) ?_
  refine g_iload X167 hx (pc' := 7) rfl (hb hby d5_5) rfl ?_
  refine g_ifN X167 hx (pcN := 10) (hb hby d5_7) rfl (show ¬ ((1 : Int32) < 0) from by decide) ?_
  refine g_iload X167 hx (pc' := 12) rfl (hb hby d5_10) rfl ?_
  refine g_iload X167 hx (pc' := 14) rfl (hb hby d5_12) rfl ?_
  refine g_imul X167 hx (pc' := 15) rfl (hb hby d5_14) ?_
  refine g_normI (z := (2 : Int32)) (by decide) ?_
  refine g_istore X167 hx (pc' := 17) rfl (hb hby d5_15) (l' := #[.val (.ref ta), .val (.int (4 : Int32)), .val (.int (3 : Int32)), .val (.ref ca), .val (.int (2 : Int32)), .val (.int (1 : Int32)), .val (.int (2 : Int32)), .val (.double t10), .second, .val (.int (2 : Int32)), .unset, .unset]) rfl ?_
  refine g_iload X167 hx (pc' := 19) rfl (hb hby d5_17) rfl ?_
  refine g_iconst X167 hx (pc' := 20) (z := (1 : Int32)) rfl (hb hby d5_19) rfl ?_
  refine g_iadd X167 hx (pc' := 21) rfl (hb hby d5_20) ?_
  refine g_normI (z := (2 : Int32)) (by decide) ?_
  refine g_istore X167 hx (pc' := 23) rfl (hb hby d5_21) (l' := #[.val (.ref ta), .val (.int (4 : Int32)), .val (.int (3 : Int32)), .val (.ref ca), .val (.int (2 : Int32)), .val (.int (1 : Int32)), .val (.int (2 : Int32)), .val (.int (2 : Int32)), .unset, .val (.int (2 : Int32)), .unset, .unset]) rfl ?_
  refine g_iload X167 hx (pc' := 25) rfl (hb hby d5_23) rfl ?_
  refine g_iloadN X167 hx (pc' := 26) rfl (hb hby d5_25) rfl ?_
  refine g_icmpN X167 hx (pcN := 29) (hb hby d5_26) rfl (show ¬ (¬ (2 : Int32) < (3 : Int32)) from by decide) ?_
  refine g_aloadN X167 hx (pc' := 30) rfl (hb hby d5_29) rfl rfl ?_
  refine g_iload X167 hx (pc' := 32) rfl (hb hby d5_30) rfl ?_
  refine g_iloadN X167 hx (pc' := 33) rfl (hb hby d5_32) rfl ?_
  refine g_imul X167 hx (pc' := 34) rfl (hb hby d5_33) ?_
  refine g_normI (z := (4 : Int32)) (by decide) ?_
  refine g_iload X167 hx (pc' := 36) rfl (hb hby d5_34) rfl ?_
  refine g_iadd X167 hx (pc' := 37) rfl (hb hby d5_36) ?_
  refine g_normI (z := (6 : Int32)) (by decide) ?_
  refine g_daload X167 hx hZ f168 (i := 6) (by decide) (show (6 : Nat) < 16 by decide) (v := t6) rfl (pc' := 38) rfl (hb hby d5_37) ?_
  refine g_dstore X167 hx (pc' := 40) rfl (hb hby d5_38) (l' := #[.val (.ref ta), .val (.int (4 : Int32)), .val (.int (3 : Int32)), .val (.ref ca), .val (.int (2 : Int32)), .val (.int (1 : Int32)), .val (.int (2 : Int32)), .val (.int (2 : Int32)), .val (.double t6), .second, .unset, .unset]) rfl ?_
  refine g_iload X167 hx (pc' := 42) rfl (hb hby d5_40) rfl ?_
  refine g_iload X167 hx (pc' := 44) rfl (hb hby d5_42) rfl ?_
  refine g_imul X167 hx (pc' := 45) rfl (hb hby d5_44) ?_
  refine g_normI (z := (4 : Int32)) (by decide) ?_
  refine g_istore X167 hx (pc' := 47) rfl (hb hby d5_45) (l' := #[.val (.ref ta), .val (.int (4 : Int32)), .val (.int (3 : Int32)), .val (.ref ca), .val (.int (2 : Int32)), .val (.int (1 : Int32)), .val (.int (2 : Int32)), .val (.int (2 : Int32)), .val (.double t6), .second, .val (.int (4 : Int32)), .unset]) rfl ?_
  refine g_iconst X167 hx (pc' := 48) (z := (0 : Int32)) rfl (hb hby d5_47) rfl ?_
  refine g_istore X167 hx (pc' := 50) rfl (hb hby d5_48) (l' := #[.val (.ref ta), .val (.int (4 : Int32)), .val (.int (3 : Int32)), .val (.ref ca), .val (.int (2 : Int32)), .val (.int (1 : Int32)), .val (.int (2 : Int32)), .val (.int (2 : Int32)), .val (.double t6), .second, .val (.int (4 : Int32)), .val (.int (0 : Int32))]) rfl ?_
  refine g_iload X167 hx (pc' := 52) rfl (hb hby d5_50) rfl ?_
  refine g_iload X167 hx (pc' := 54) rfl (hb hby d5_52) rfl ?_
  refine g_icmpN X167 hx (pcN := 57) (hb hby d5_54) rfl (show ¬ (¬ (0 : Int32) < (2 : Int32)) from by decide) ?_
  refine g_aloadN X167 hx (pc' := 58) rfl (hb hby d5_57) rfl rfl ?_
  refine g_iload X167 hx (pc' := 60) rfl (hb hby d5_58) rfl ?_
  refine g_iload X167 hx (pc' := 62) rfl (hb hby d5_60) rfl ?_
  refine g_iadd X167 hx (pc' := 63) rfl (hb hby d5_62) ?_
  refine g_normI (z := (2 : Int32)) (by decide) ?_
  refine g_dup2 X167 hx (pc' := 64) rfl (hb hby d5_63) rfl rfl ?_
  refine g_daload X167 hx hZ V167 (i := 2) (by decide) (show (2 : Nat) < 8 by decide) (v := c10) rfl (pc' := 65) rfl (hb hby d5_64) ?_
  refine g_dload X167 hx (pc' := 67) rfl (hb hby d5_65) rfl ?_
  refine g_aloadN X167 hx (pc' := 68) rfl (hb hby d5_67) rfl rfl ?_
  refine g_iload X167 hx (pc' := 70) rfl (hb hby d5_68) rfl ?_
  refine g_iload X167 hx (pc' := 72) rfl (hb hby d5_70) rfl ?_
  refine g_iadd X167 hx (pc' := 73) rfl (hb hby d5_72) ?_
  refine g_normI (z := (4 : Int32)) (by decide) ?_
  refine g_daload X167 hx hZ V167 (i := 4) (by decide) (show (4 : Nat) < 8 by decide) (v := d161) rfl (pc' := 74) rfl (hb hby d5_73) ?_
  have q171 : Dy (mt6 * mx20) 1074 (FP.dmul t6 d161) := dy_mul yt6 q161 (by decide) (own_mb bt6 bx20 (by decide)) (by decide)
  refine g_dmul X167 hx (pc' := 75) (z := (FP.dmul t6 d161)) rfl (hb hby d5_74) (dy_noNaN q171) rfl ?_
  refine g_absD (fun d171 hd171 => ?_)
  rw [← hd171] at q171
  obtain ⟨n171, en171⟩ : ∃ z : Int, z = mt6 * mx20 := ⟨_, rfl⟩
  rw [← en171] at q171
  have b171 : n171.natAbs ≤ 16384 := by rw [en171, Int.natAbs_mul]; exact Nat.le_trans (Nat.mul_le_mul bt6 bx20) (by decide)
  have q172 : Dy (mc10 - n171) 1074 (FP.dsub c10 d171) := dy_sub yc10 q171 (own_subb bc10 b171 (by decide)) (by decide)
  refine g_dsub X167 hx (pc' := 76) (z := (FP.dsub c10 d171)) rfl (hb hby d5_75) (dy_noNaN q172) rfl ?_
  refine g_absD (fun d172 hd172 => ?_)
  rw [← hd172] at q172
  obtain ⟨n172, en172⟩ : ∃ z : Int, z = mc10 - n171 := ⟨_, rfl⟩
  rw [← en172] at q172
  have b172 : n172.natAbs ≤ 65536 := by rw [en172]; exact Nat.le_trans (own_subl bc10 b171) (by decide)
  refine g_dastore X167 hx hZ V167 (i := 2) (by decide) (show (2 : Nat) < 8 by decide) hg (pc' := 77) rfl (hb hby d5_76) (fun T173 h173 X173 W173 N173 => ?_)
  have f174 := f168.other W173 hne
  have f175 := (by have q := (Keep.of_wr W173).1; exact Nat.le_trans f169 q : n0 ≤ h173.size)
  have f176 := f170.wr W173 (Or.inl (List.mem_of_getElem? (i := 0) rfl))
  have V173 : AD Z h173 ca [c00, c01, d172, c11, d161, d166, c30, c31] := N173
  refine g_iincC X173 hx (pc' := 80) (x := (0 : Int32)) (z := (1 : Int32)) rfl (hb hby d5_77) rfl (by decide) (l' := #[.val (.ref ta), .val (.int (4 : Int32)), .val (.int (3 : Int32)), .val (.ref ca), .val (.int (2 : Int32)), .val (.int (1 : Int32)), .val (.int (2 : Int32)), .val (.int (2 : Int32)), .val (.double t6), .second, .val (.int (4 : Int32)), .val (.int (1 : Int32))]) rfl ?_
  refine g_goto X173 hx (pc' := 50) (hb hby d5_80) (by decide) (by decide) ?_
  refine g_iload X173 hx (pc' := 52) rfl (hb hby d5_50) rfl ?_
  refine g_iload X173 hx (pc' := 54) rfl (hb hby d5_52) rfl ?_
  refine g_icmpN X173 hx (pcN := 57) (hb hby d5_54) rfl (show ¬ (¬ (1 : Int32) < (2 : Int32)) from by decide) ?_
  refine g_aloadN X173 hx (pc' := 58) rfl (hb hby d5_57) rfl rfl ?_
  refine g_iload X173 hx (pc' := 60) rfl (hb hby d5_58) rfl ?_
  refine g_iload X173 hx (pc' := 62) rfl (hb hby d5_60) rfl ?_
  refine g_iadd X173 hx (pc' := 63) rfl (hb hby d5_62) ?_
  refine g_normI (z := (3 : Int32)) (by decide) ?_
  refine g_dup2 X173 hx (pc' := 64) rfl (hb hby d5_63) rfl rfl ?_
  refine g_daload X173 hx hZ V173 (i := 3) (by decide) (show (3 : Nat) < 8 by decide) (v := c11) rfl (pc' := 65) rfl (hb hby d5_64) ?_
  refine g_dload X173 hx (pc' := 67) rfl (hb hby d5_65) rfl ?_
  refine g_aloadN X173 hx (pc' := 68) rfl (hb hby d5_67) rfl rfl ?_
  refine g_iload X173 hx (pc' := 70) rfl (hb hby d5_68) rfl ?_
  refine g_iload X173 hx (pc' := 72) rfl (hb hby d5_70) rfl ?_
  refine g_iadd X173 hx (pc' := 73) rfl (hb hby d5_72) ?_
  refine g_normI (z := (5 : Int32)) (by decide) ?_
  refine g_daload X173 hx hZ V173 (i := 5) (by decide) (show (5 : Nat) < 8 by decide) (v := d166) rfl (pc' := 74) rfl (hb hby d5_73) ?_
  have q177 : Dy (mt6 * mx21) 1074 (FP.dmul t6 d166) := dy_mul yt6 q166 (by decide) (own_mb bt6 bx21 (by decide)) (by decide)
  refine g_dmul X173 hx (pc' := 75) (z := (FP.dmul t6 d166)) rfl (hb hby d5_74) (dy_noNaN q177) rfl ?_
  refine g_absD (fun d177 hd177 => ?_)
  rw [← hd177] at q177
  obtain ⟨n177, en177⟩ : ∃ z : Int, z = mt6 * mx21 := ⟨_, rfl⟩
  rw [← en177] at q177
  have b177 : n177.natAbs ≤ 16384 := by rw [en177, Int.natAbs_mul]; exact Nat.le_trans (Nat.mul_le_mul bt6 bx21) (by decide)
  have q178 : Dy (mc11 - n177) 1074 (FP.dsub c11 d177) := dy_sub yc11 q177 (own_subb bc11 b177 (by decide)) (by decide)
  refine g_dsub X173 hx (pc' := 76) (z := (FP.dsub c11 d177)) rfl (hb hby d5_75) (dy_noNaN q178) rfl ?_
  refine g_absD (fun d178 hd178 => ?_)
  rw [← hd178] at q178
  obtain ⟨n178, en178⟩ : ∃ z : Int, z = mc11 - n177 := ⟨_, rfl⟩
  rw [← en178] at q178
  have b178 : n178.natAbs ≤ 65536 := by rw [en178]; exact Nat.le_trans (own_subl bc11 b177) (by decide)
  refine g_dastore X173 hx hZ V173 (i := 3) (by decide) (show (3 : Nat) < 8 by decide) hg (pc' := 77) rfl (hb hby d5_76) (fun T179 h179 X179 W179 N179 => ?_)
  have f180 := f174.other W179 hne
  have f181 := (by have q := (Keep.of_wr W179).1; exact Nat.le_trans f175 q : n0 ≤ h179.size)
  have f182 := f176.wr W179 (Or.inl (List.mem_of_getElem? (i := 0) rfl))
  have V179 : AD Z h179 ca [c00, c01, d172, d178, d161, d166, c30, c31] := N179
  refine g_iincC X179 hx (pc' := 80) (x := (1 : Int32)) (z := (2 : Int32)) rfl (hb hby d5_77) rfl (by decide) (l' := #[.val (.ref ta), .val (.int (4 : Int32)), .val (.int (3 : Int32)), .val (.ref ca), .val (.int (2 : Int32)), .val (.int (1 : Int32)), .val (.int (2 : Int32)), .val (.int (2 : Int32)), .val (.double t6), .second, .val (.int (4 : Int32)), .val (.int (2 : Int32))]) rfl ?_
  refine g_goto X179 hx (pc' := 50) (hb hby d5_80) (by decide) (by decide) ?_
  refine g_iload X179 hx (pc' := 52) rfl (hb hby d5_50) rfl ?_
  refine g_iload X179 hx (pc' := 54) rfl (hb hby d5_52) rfl ?_
  refine g_icmpY X179 hx (pcY := 83) (hb hby d5_54) (by decide) (by decide) (show ¬ (2 : Int32) < (2 : Int32) from by decide) ?_
  refine g_iincC X179 hx (pc' := 86) (x := (2 : Int32)) (z := (3 : Int32)) rfl (hb hby d5_83) rfl (by decide) (l' := #[.val (.ref ta), .val (.int (4 : Int32)), .val (.int (3 : Int32)), .val (.ref ca), .val (.int (2 : Int32)), .val (.int (1 : Int32)), .val (.int (2 : Int32)), .val (.int (3 : Int32)), .val (.double t6), .second, .val (.int (4 : Int32)), .val (.int (2 : Int32))]) rfl ?_
  refine g_goto X179 hx (pc' := 23) (hb hby d5_86) (by decide) (by decide) ?_
  refine g_iload X179 hx (pc' := 25) rfl (hb hby d5_23) rfl ?_
  refine g_iloadN X179 hx (pc' := 26) rfl (hb hby d5_25) rfl ?_
  refine g_icmpY X179 hx (pcY := 89) (hb hby d5_26) (by decide) (by decide) (show ¬ (3 : Int32) < (3 : Int32) from by decide) ?_
  refine g_aloadN X179 hx (pc' := 90) rfl (hb hby d5_89) rfl rfl ?_
  refine g_iload X179 hx (pc' := 92) rfl (hb hby d5_90) rfl ?_
  refine g_iloadN X179 hx (pc' := 93) rfl (hb hby d5_92) rfl ?_
  refine g_imul X179 hx (pc' := 94) rfl (hb hby d5_93) ?_
  refine g_normI (z := (4 : Int32)) (by decide) ?_
  refine g_iload X179 hx (pc' := 96) rfl (hb hby d5_94) rfl ?_
  refine g_iadd X179 hx (pc' := 97) rfl (hb hby d5_96) ?_
  refine g_normI (z := (5 : Int32)) (by decide) ?_
  refine g_daload X179 hx hZ f180 (i := 5) (by decide) (show (5 : Nat) < 16 by decide) (v := t5) rfl (pc' := 98) rfl (hb hby d5_97) ?_
  refine g_dstore X179 hx (pc' := 100) rfl (hb hby d5_98) (l' := #[.val (.ref ta), .val (.int (4 : Int32)), .val (.int (3 : Int32)), .val (.ref ca), .val (.int (2 : Int32)), .val (.int (1 : Int32)), .val (.int (2 : Int32)), .val (.double t5), .second, .unset, .val (.int (4 : Int32)), .val (.int (2 : Int32))]) rfl ?_
  refine g_iconst X179 hx (pc' := 101) (z := (0 : Int32)) rfl (hb hby d5_100) rfl ?_
  refine g_istore X179 hx (pc' := 103) rfl (hb hby d5_101) (l' := #[.val (.ref ta), .val (.int (4 : Int32)), .val (.int (3 : Int32)), .val (.ref ca), .val (.int (2 : Int32)), .val (.int (1 : Int32)), .val (.int (2 : Int32)), .val (.double t5), .second, .val (.int (0 : Int32)), .val (.int (4 : Int32)), .val (.int (2 : Int32))]) rfl ?_
  refine g_iload X179 hx (pc' := 105) rfl (hb hby d5_103) rfl ?_
  refine g_iload X179 hx (pc' := 107) rfl (hb hby d5_105) rfl ?_
  refine g_icmpN X179 hx (pcN := 110) (hb hby d5_107) rfl (show ¬ (¬ (0 : Int32) < (2 : Int32)) from by decide) ?_
  refine g_aloadN X179 hx (pc' := 111) rfl (hb hby d5_110) rfl rfl ?_
  refine g_iload X179 hx (pc' := 113) rfl (hb hby d5_111) rfl ?_
  refine g_iload X179 hx (pc' := 115) rfl (hb hby d5_113) rfl ?_
  refine g_iadd X179 hx (pc' := 116) rfl (hb hby d5_115) ?_
  refine g_normI (z := (2 : Int32)) (by decide) ?_
  refine g_dup2 X179 hx (pc' := 117) rfl (hb hby d5_116) rfl rfl ?_
  refine g_daload X179 hx hZ V179 (i := 2) (by decide) (show (2 : Nat) < 8 by decide) (v := d172) rfl (pc' := 118) rfl (hb hby d5_117) ?_
  refine g_dload X179 hx (pc' := 120) rfl (hb hby d5_118) rfl ?_
  have q183 : Dy mx10 1074 (FP.ddiv d172 t5) := dy_div q172 yt5 hz5 (by rw [en172, en171]; exact own_g1 ec10) rfl (Nat.lt_of_le_of_lt bx10 (by decide)) (by decide)
  refine g_ddiv X179 hx (pc' := 121) (z := (FP.ddiv d172 t5)) rfl (hb hby d5_120) (dy_noNaN q183) rfl ?_
  refine g_absD (fun d183 hd183 => ?_)
  rw [← hd183] at q183
  refine g_dastore X179 hx hZ V179 (i := 2) (by decide) (show (2 : Nat) < 8 by decide) hg (pc' := 122) rfl (hb hby d5_121) (fun T184 h184 X184 W184 N184 => ?_)
  have f185 := f180.other W184 hne
  have f186 := (by have q := (Keep.of_wr W184).1; exact Nat.le_trans f181 q : n0 ≤ h184.size)
  have f187 := f182.wr W184 (Or.inl (List.mem_of_getElem? (i := 0) rfl))
  have V184 : AD Z h184 ca [c00, c01, d183, d178, d161, d166, c30, c31] := N184
  refine g_iincC X184 hx (pc' := 125) (x := (0 : Int32)) (z := (1 : Int32)) rfl (hb hby d5_122) rfl (by decide) (l' := #[.val (.ref ta), .val (.int (4 : Int32)), .val (.int (3 : Int32)), .val (.ref ca), .val (.int (2 : Int32)), .val (.int (1 : Int32)), .val (.int (2 : Int32)), .val (.double t5), .second, .val (.int (1 : Int32)), .val (.int (4 : Int32)), .val (.int (2 : Int32))]) rfl ?_
  refine g_goto X184 hx (pc' := 103) (hb hby d5_125) (by decide) (by decide) ?_
  refine g_iload X184 hx (pc' := 105) rfl (hb hby d5_103) rfl ?_
  refine g_iload X184 hx (pc' := 107) rfl (hb hby d5_105) rfl ?_
  refine g_icmpN X184 hx (pcN := 110) (hb hby d5_107) rfl (show ¬ (¬ (1 : Int32) < (2 : Int32)) from by decide) ?_
  refine g_aloadN X184 hx (pc' := 111) rfl (hb hby d5_110) rfl rfl ?_
  refine g_iload X184 hx (pc' := 113) rfl (hb hby d5_111) rfl ?_
  refine g_iload X184 hx (pc' := 115) rfl (hb hby d5_113) rfl ?_
  refine g_iadd X184 hx (pc' := 116) rfl (hb hby d5_115) ?_
  refine g_normI (z := (3 : Int32)) (by decide) ?_
  refine g_dup2 X184 hx (pc' := 117) rfl (hb hby d5_116) rfl rfl ?_
  refine g_daload X184 hx hZ V184 (i := 3) (by decide) (show (3 : Nat) < 8 by decide) (v := d178) rfl (pc' := 118) rfl (hb hby d5_117) ?_
  refine g_dload X184 hx (pc' := 120) rfl (hb hby d5_118) rfl ?_
  have q188 : Dy mx11 1074 (FP.ddiv d178 t5) := dy_div q178 yt5 hz5 (by rw [en178, en177]; exact own_g1 ec11) rfl (Nat.lt_of_le_of_lt bx11 (by decide)) (by decide)
  refine g_ddiv X184 hx (pc' := 121) (z := (FP.ddiv d178 t5)) rfl (hb hby d5_120) (dy_noNaN q188) rfl ?_
  refine g_absD (fun d188 hd188 => ?_)
  rw [← hd188] at q188
  refine g_dastore X184 hx hZ V184 (i := 3) (by decide) (show (3 : Nat) < 8 by decide) hg (pc' := 122) rfl (hb hby d5_121) (fun T189 h189 X189 W189 N189 => ?_)
  have f190 := f185.other W189 hne
  have f191 := (by have q := (Keep.of_wr W189).1; exact Nat.le_trans f186 q : n0 ≤ h189.size)
  have f192 := f187.wr W189 (Or.inl (List.mem_of_getElem? (i := 0) rfl))
  have V189 : AD Z h189 ca [c00, c01, d183, d188, d161, d166, c30, c31] := N189
  refine g_iincC X189 hx (pc' := 125) (x := (1 : Int32)) (z := (2 : Int32)) rfl (hb hby d5_122) rfl (by decide) (l' := #[.val (.ref ta), .val (.int (4 : Int32)), .val (.int (3 : Int32)), .val (.ref ca), .val (.int (2 : Int32)), .val (.int (1 : Int32)), .val (.int (2 : Int32)), .val (.double t5), .second, .val (.int (2 : Int32)), .val (.int (4 : Int32)), .val (.int (2 : Int32))]) rfl ?_
  refine g_goto X189 hx (pc' := 103) (hb hby d5_125) (by decide) (by decide) ?_
  refine g_iload X189 hx (pc' := 105) rfl (hb hby d5_103) rfl ?_
  refine g_iload X189 hx (pc' := 107) rfl (hb hby d5_105) rfl ?_
  refine g_icmpY X189 hx (pcY := 128) (hb hby d5_107) (by decide) (by decide) (show ¬ (2 : Int32) < (2 : Int32) from by decide) ?_
  refine g_iincC X189 hx (pc' := 131) (x := (1 : Int32)) (z := (0 : Int32)) rfl (hb hby d5_128) rfl (by decide) (l' := #[.val (.ref ta), .val (.int (4 : Int32)), .val (.int (3 : Int32)), .val (.ref ca), .val (.int (2 : Int32)), .val (.int (0 : Int32)), .val (.int (2 : Int32)), .val (.double t5), .second, .val (.int (2 : Int32)), .val (.int (4 : Int32)), .val (.int (2 : Int32))]) rfl ?_
  refine g_goto X189 hx (pc' := 5) (hb hby d5_131) (by decide) (by decide) ?_
  refine g_iload X189 hx (pc' := 7) rfl (hb hby d5_5) rfl ?_
  refine g_ifN X189 hx (pcN := 10) (hb hby d5_7) rfl (show ¬ ((0 : Int32) < 0) from by decide) ?_
  refine g_iload X189 hx (pc' := 12) rfl (hb hby d5_10) rfl ?_
  refine g_iload X189 hx (pc' := 14) rfl (hb hby d5_12) rfl ?_
  refine g_imul X189 hx (pc' := 15) rfl (hb hby d5_14) ?_
  refine g_normI (z := (0 : Int32)) (by decide) ?_
  refine g_istore X189 hx (pc' := 17) rfl (hb hby d5_15) (l' := #[.val (.ref ta), .val (.int (4 : Int32)), .val (.int (3 : Int32)), .val (.ref ca), .val (.int (2 : Int32)), .val (.int (0 : Int32)), .val (.int (0 : Int32)), .val (.double t5), .second, .val (.int (2 : Int32)), .val (.int (4 : Int32)), .val (.int (2 : Int32))]) rfl ?_
  refine g_iload X189 hx (pc' := 19) rfl (hb hby d5_17) rfl ?_
  refine g_iconst X189 hx (pc' := 20) (z := (1 : Int32)) rfl (hb hby d5_19) rfl ?_
  refine g_iadd X189 hx (pc' := 21) rfl (hb hby d5_20) ?_
  refine g_normI (z := (1 : Int32)) (by decide) ?_
  refine g_istore X189 hx (pc' := 23) rfl (hb hby d5_21) (l' := #[.val (.ref ta), .val (.int (4 : Int32)), .val (.int (3 : Int32)), .val (.ref ca), .val (.int (2 : Int32)), .val (.int (0 : Int32)), .val (.int (0 : Int32)), .val (.int (1 : Int32)), .unset, .val (.int (2 : Int32)), .val (.int (4 : Int32)), .val (.int (2 : Int32))]) rfl ?_
  refine g_iload X189 hx (pc' := 25) rfl (hb hby d5_23) rfl ?_
  refine g_iloadN X189 hx (pc' := 26) rfl (hb hby d5_25) rfl ?_
  refine g_icmpN X189 hx (pcN := 29) (hb hby d5_26) rfl (show ¬ (¬ (1 : Int32) < (3 : Int32)) from by decide) ?_
  refine g_aloadN X189 hx (pc' := 30) rfl (hb hby d5_29) rfl rfl ?_
  refine g_iload X189 hx (pc' := 32) rfl (hb hby d5_30) rfl ?_
  refine g_iloadN X189 hx (pc' := 33) rfl (hb hby d5_32) rfl ?_
  refine g_imul X189 hx (pc' := 34) rfl (hb hby d5_33) ?_
  refine g_normI (z := (0 : Int32)) (by decide) ?_
  refine g_iload X189 hx (pc' := 36) rfl (hb hby d5_34) rfl ?_
  refine g_iadd X189 hx (pc' := 37) rfl (hb hby d5_36) ?_
  refine g_normI (z := (1 : Int32)) (by decide) ?_
  refine g_daload X189 hx hZ f190 (i := 1) (by decide) (show (1 : Nat) < 16 by decide) (v := t1) rfl (pc' := 38) rfl (hb hby d5_37) ?_
  refine g_dstore X189 hx (pc' := 40) rfl (hb hby d5_38) (l' := #[.val (.ref ta), .val (.int (4 : Int32)), .val (.int (3 : Int32)), .val (.ref ca), .val (.int (2 : Int32)), .val (.int (0 : Int32)), .val (.int (0 : Int32)), .val (.int (1 : Int32)), .val (.double t1), .second, .val (.int (4 : Int32)), .val (.int (2 : Int32))]) rfl ?_
  refine g_iload X189 hx (pc' := 42) rfl (hb hby d5_40) rfl ?_
  refine g_iload X189 hx (pc' := 44) rfl (hb hby d5_42) rfl ?_
  refine g_imul X189 hx (pc' := 45) rfl (hb hby d5_44) ?_
  refine g_normI (z := (2 : Int32)) (by decide) ?_
  refine g_istore X189 hx (pc' := 47) rfl (hb hby d5_45) (l' := #[.val (.ref ta), .val (.int (4 : Int32)), .val (.int (3 : Int32)), .val (.ref ca), .val (.int (2 : Int32)), .val (.int (0 : Int32)), .val (.int (0 : Int32)), .val (.int (1 : Int32)), .val (.double t1), .second, .val (.int (2 : Int32)), .val (.int (2 : Int32))]) rfl ?_
  refine g_iconst X189 hx (pc' := 48) (z := (0 : Int32)) rfl (hb hby d5_47) rfl ?_
  refine g_istore X189 hx (pc' := 50) rfl (hb hby d5_48) (l' := #[.val (.ref ta), .val (.int (4 : Int32)), .val (.int (3 : Int32)), .val (.ref ca), .val (.int (2 : Int32)), .val (.int (0 : Int32)), .val (.int (0 : Int32)), .val (.int (1 : Int32)), .val (.double t1), .second, .val (.int (2 : Int32)), .val (.int (0 : Int32))]) rfl ?_
  refine g_iload X189 hx (pc' := 52) rfl (hb hby d5_50) rfl ?_
  refine g_iload X189 hx (pc' := 54) rfl (hb hby d5_52) rfl ?_
  refine g_icmpN X189 hx (pcN := 57) (hb hby d5_54) rfl (show ¬ (¬ (0 : Int32) < (2 : Int32)) from by decide) ?_
  refine g_aloadN X189 hx (pc' := 58) rfl (hb hby d5_57) rfl rfl ?_
  refine g_iload X189 hx (pc' := 60) rfl (hb hby d5_58) rfl ?_
  refine g_iload X189 hx (pc' := 62) rfl (hb hby d5_60) rfl ?_
  refine g_iadd X189 hx (pc' := 63) rfl (hb hby d5_62) ?_
  refine g_normI (z := (0 : Int32)) (by decide) ?_
  refine g_dup2 X189 hx (pc' := 64) rfl (hb hby d5_63) rfl rfl ?_
  refine g_daload X189 hx hZ V189 (i := 0) (by decide) (show (0 : Nat) < 8 by decide) (v := c00) rfl (pc' := 65) rfl (hb hby d5_64) ?_
  refine g_dload X189 hx (pc' := 67) rfl (hb hby d5_65) rfl ?_
  refine g_aloadN X189 hx (pc' := 68) rfl (hb hby d5_67) rfl rfl ?_
  refine g_iload X189 hx (pc' := 70) rfl (hb hby d5_68) rfl ?_
  refine g_iload X189 hx (pc' := 72) rfl (hb hby d5_70) rfl ?_
  refine g_iadd X189 hx (pc' := 73) rfl (hb hby d5_72) ?_
  refine g_normI (z := (2 : Int32)) (by decide) ?_
  refine g_daload X189 hx hZ V189 (i := 2) (by decide) (show (2 : Nat) < 8 by decide) (v := d183) rfl (pc' := 74) rfl (hb hby d5_73) ?_
  have q193 : Dy (mt1 * mx10) 1074 (FP.dmul t1 d183) := dy_mul yt1 q183 (by decide) (own_mb bt1 bx10 (by decide)) (by decide)
  refine g_dmul X189 hx (pc' := 75) (z := (FP.dmul t1 d183)) rfl (hb hby d5_74) (dy_noNaN q193) rfl ?_
  refine g_absD (fun d193 hd193 => ?_)
  rw [← hd193] at q193
  obtain ⟨n193, en193⟩ : ∃ z : Int, z = mt1 * mx10 := ⟨_, rfl⟩
  rw [← en193] at q193
  have b193 : n193.natAbs ≤ 16384 := by rw [en193, Int.natAbs_mul]; exact Nat.le_trans (Nat.mul_le_mul bt1 bx10) (by decide)
  have q194 : Dy (mc00 - n193) 1074 (FP.dsub c00 d193) := dy_sub yc00 q193 (own_subb bc00 b193 (by decide)) (by decide)
  refine g_dsub X189 hx (pc' := 76) (z := (FP.dsub c00 d193)) rfl (hb hby d5_75) (dy_noNaN q194) rfl ?_
  refine g_absD (fun d194 hd194 => ?_)
  rw [← hd194] at q194
  obtain ⟨n194, en194⟩ : ∃ z : Int, z = mc00 - n193 := ⟨_, rfl⟩
  rw [← en194] at q194
  have b194 : n194.natAbs ≤ 65536 := by rw [en194]; exact Nat.le_trans (own_subl bc00 b193) (by decide)
  refine g_dastore X189 hx hZ V189 (i := 0) (by decide) (show (0 : Nat) < 8 by decide) hg (pc' := 77) rfl (hb hby d5_76) (fun T195 h195 X195 W195 N195 => ?_)
  have f196 := f190.other W195 hne
  have f197 := (by have q := (Keep.of_wr W195).1; exact Nat.le_trans f191 q : n0 ≤ h195.size)
  have f198 := f192.wr W195 (Or.inl (List.mem_of_getElem? (i := 0) rfl))
  have V195 : AD Z h195 ca [d194, c01, d183, d188, d161, d166, c30, c31] := N195
  refine g_iincC X195 hx (pc' := 80) (x := (0 : Int32)) (z := (1 : Int32)) rfl (hb hby d5_77) rfl (by decide) (l' := #[.val (.ref ta), .val (.int (4 : Int32)), .val (.int (3 : Int32)), .val (.ref ca), .val (.int (2 : Int32)), .val (.int (0 : Int32)), .val (.int (0 : Int32)), .val (.int (1 : Int32)), .val (.double t1), .second, .val (.int (2 : Int32)), .val (.int (1 : Int32))]) rfl ?_
  refine g_goto X195 hx (pc' := 50) (hb hby d5_80) (by decide) (by decide) ?_
  refine g_iload X195 hx (pc' := 52) rfl (hb hby d5_50) rfl ?_
  refine g_iload X195 hx (pc' := 54) rfl (hb hby d5_52) rfl ?_
  refine g_icmpN X195 hx (pcN := 57) (hb hby d5_54) rfl (show ¬ (¬ (1 : Int32) < (2 : Int32)) from by decide) ?_
  refine g_aloadN X195 hx (pc' := 58) rfl (hb hby d5_57) rfl rfl ?_
  refine g_iload X195 hx (pc' := 60) rfl (hb hby d5_58) rfl ?_
  refine g_iload X195 hx (pc' := 62) rfl (hb hby d5_60) rfl ?_
  refine g_iadd X195 hx (pc' := 63) rfl (hb hby d5_62) ?_
  refine g_normI (z := (1 : Int32)) (by decide) ?_
  refine g_dup2 X195 hx (pc' := 64) rfl (hb hby d5_63) rfl rfl ?_
  refine g_daload X195 hx hZ V195 (i := 1) (by decide) (show (1 : Nat) < 8 by decide) (v := c01) rfl (pc' := 65) rfl (hb hby d5_64) ?_
  refine g_dload X195 hx (pc' := 67) rfl (hb hby d5_65) rfl ?_
  refine g_aloadN X195 hx (pc' := 68) rfl (hb hby d5_67) rfl rfl ?_
  refine g_iload X195 hx (pc' := 70) rfl (hb hby d5_68) rfl ?_
  refine g_iload X195 hx (pc' := 72) rfl (hb hby d5_70) rfl ?_
  refine g_iadd X195 hx (pc' := 73) rfl (hb hby d5_72) ?_
  refine g_normI (z := (3 : Int32)) (by decide) ?_
  refine g_daload X195 hx hZ V195 (i := 3) (by decide) (show (3 : Nat) < 8 by decide) (v := d188) rfl (pc' := 74) rfl (hb hby d5_73) ?_
  have q199 : Dy (mt1 * mx11) 1074 (FP.dmul t1 d188) := dy_mul yt1 q188 (by decide) (own_mb bt1 bx11 (by decide)) (by decide)
  refine g_dmul X195 hx (pc' := 75) (z := (FP.dmul t1 d188)) rfl (hb hby d5_74) (dy_noNaN q199) rfl ?_
  refine g_absD (fun d199 hd199 => ?_)
  rw [← hd199] at q199
  obtain ⟨n199, en199⟩ : ∃ z : Int, z = mt1 * mx11 := ⟨_, rfl⟩
  rw [← en199] at q199
  have b199 : n199.natAbs ≤ 16384 := by rw [en199, Int.natAbs_mul]; exact Nat.le_trans (Nat.mul_le_mul bt1 bx11) (by decide)
  have q200 : Dy (mc01 - n199) 1074 (FP.dsub c01 d199) := dy_sub yc01 q199 (own_subb bc01 b199 (by decide)) (by decide)
  refine g_dsub X195 hx (pc' := 76) (z := (FP.dsub c01 d199)) rfl (hb hby d5_75) (dy_noNaN q200) rfl ?_
  refine g_absD (fun d200 hd200 => ?_)
  rw [← hd200] at q200
  obtain ⟨n200, en200⟩ : ∃ z : Int, z = mc01 - n199 := ⟨_, rfl⟩
  rw [← en200] at q200
  have b200 : n200.natAbs ≤ 65536 := by rw [en200]; exact Nat.le_trans (own_subl bc01 b199) (by decide)
  refine g_dastore X195 hx hZ V195 (i := 1) (by decide) (show (1 : Nat) < 8 by decide) hg (pc' := 77) rfl (hb hby d5_76) (fun T201 h201 X201 W201 N201 => ?_)
  have f202 := f196.other W201 hne
  have f203 := (by have q := (Keep.of_wr W201).1; exact Nat.le_trans f197 q : n0 ≤ h201.size)
  have f204 := f198.wr W201 (Or.inl (List.mem_of_getElem? (i := 0) rfl))
  have V201 : AD Z h201 ca [d194, d200, d183, d188, d161, d166, c30, c31] := N201
  refine g_iincC X201 hx (pc' := 80) (x := (1 : Int32)) (z := (2 : Int32)) rfl (hb hby d5_77) rfl (by decide) (l' := #[.val (.ref ta), .val (.int (4 : Int32)), .val (.int (3 : Int32)), .val (.ref ca), .val (.int (2 : Int32)), .val (.int (0 : Int32)), .val (.int (0 : Int32)), .val (.int (1 : Int32)), .val (.double t1), .second, .val (.int (2 : Int32)), .val (.int (2 : Int32))]) rfl ?_
  refine g_goto X201 hx (pc' := 50) (hb hby d5_80) (by decide) (by decide) ?_
  refine g_iload X201 hx (pc' := 52) rfl (hb hby d5_50) rfl ?_
  refine g_iload X201 hx (pc' := 54) rfl (hb hby d5_52) rfl ?_
  refine g_icmpY X201 hx (pcY := 83) (hb hby d5_54) (by decide) (by decide) (show ¬ (2 : Int32) < (2 : Int32) from by decide) ?_
  refine g_iincC X201 hx (pc' := 86) (x := (1 : Int32)) (z := (2 : Int32)) rfl (hb hby d5_83) rfl (by decide) (l' := #[.val (.ref ta), .val (.int (4 : Int32)), .val (.int (3 : Int32)), .val (.ref ca), .val (.int (2 : Int32)), .val (.int (0 : Int32)), .val (.int (0 : Int32)), .val (.int (2 : Int32)), .val (.double t1), .second, .val (.int (2 : Int32)), .val (.int (2 : Int32))]) rfl ?_
  refine g_goto X201 hx (pc' := 23) (hb hby d5_86) (by decide) (by decide) ?_
  refine g_iload X201 hx (pc' := 25) rfl (hb hby d5_23) rfl ?_
  refine g_iloadN X201 hx (pc' := 26) rfl (hb hby d5_25) rfl ?_
  refine g_icmpN X201 hx (pcN := 29) (hb hby d5_26) rfl (show ¬ (¬ (2 : Int32) < (3 : Int32)) from by decide) ?_
  refine g_aloadN X201 hx (pc' := 30) rfl (hb hby d5_29) rfl rfl ?_
  refine g_iload X201 hx (pc' := 32) rfl (hb hby d5_30) rfl ?_
  refine g_iloadN X201 hx (pc' := 33) rfl (hb hby d5_32) rfl ?_
  refine g_imul X201 hx (pc' := 34) rfl (hb hby d5_33) ?_
  refine g_normI (z := (0 : Int32)) (by decide) ?_
  refine g_iload X201 hx (pc' := 36) rfl (hb hby d5_34) rfl ?_
  refine g_iadd X201 hx (pc' := 37) rfl (hb hby d5_36) ?_
  refine g_normI (z := (2 : Int32)) (by decide) ?_
  refine g_daload X201 hx hZ f202 (i := 2) (by decide) (show (2 : Nat) < 16 by decide) (v := t2) rfl (pc' := 38) rfl (hb hby d5_37) ?_
  refine g_dstore X201 hx (pc' := 40) rfl (hb hby d5_38) (l' := #[.val (.ref ta), .val (.int (4 : Int32)), .val (.int (3 : Int32)), .val (.ref ca), .val (.int (2 : Int32)), .val (.int (0 : Int32)), .val (.int (0 : Int32)), .val (.int (2 : Int32)), .val (.double t2), .second, .val (.int (2 : Int32)), .val (.int (2 : Int32))]) rfl ?_
  refine g_iload X201 hx (pc' := 42) rfl (hb hby d5_40) rfl ?_
  refine g_iload X201 hx (pc' := 44) rfl (hb hby d5_42) rfl ?_
  refine g_imul X201 hx (pc' := 45) rfl (hb hby d5_44) ?_
  refine g_normI (z := (4 : Int32)) (by decide) ?_
  refine g_istore X201 hx (pc' := 47) rfl (hb hby d5_45) (l' := #[.val (.ref ta), .val (.int (4 : Int32)), .val (.int (3 : Int32)), .val (.ref ca), .val (.int (2 : Int32)), .val (.int (0 : Int32)), .val (.int (0 : Int32)), .val (.int (2 : Int32)), .val (.double t2), .second, .val (.int (4 : Int32)), .val (.int (2 : Int32))]) rfl ?_
  refine g_iconst X201 hx (pc' := 48) (z := (0 : Int32)) rfl (hb hby d5_47) rfl ?_
  refine g_istore X201 hx (pc' := 50) rfl (hb hby d5_48) (l' := #[.val (.ref ta), .val (.int (4 : Int32)), .val (.int (3 : Int32)), .val (.ref ca), .val (.int (2 : Int32)), .val (.int (0 : Int32)), .val (.int (0 : Int32)), .val (.int (2 : Int32)), .val (.double t2), .second, .val (.int (4 : Int32)), .val (.int (0 : Int32))]) rfl ?_
  refine g_iload X201 hx (pc' := 52) rfl (hb hby d5_50) rfl ?_
  refine g_iload X201 hx (pc' := 54) rfl (hb hby d5_52) rfl ?_
  refine g_icmpN X201 hx (pcN := 57) (hb hby d5_54) rfl (show ¬ (¬ (0 : Int32) < (2 : Int32)) from by decide) ?_
  refine g_aloadN X201 hx (pc' := 58) rfl (hb hby d5_57) rfl rfl ?_
  refine g_iload X201 hx (pc' := 60) rfl (hb hby d5_58) rfl ?_
  refine g_iload X201 hx (pc' := 62) rfl (hb hby d5_60) rfl ?_
  refine g_iadd X201 hx (pc' := 63) rfl (hb hby d5_62) ?_
  refine g_normI (z := (0 : Int32)) (by decide) ?_
  refine g_dup2 X201 hx (pc' := 64) rfl (hb hby d5_63) rfl rfl ?_
  refine g_daload X201 hx hZ V201 (i := 0) (by decide) (show (0 : Nat) < 8 by decide) (v := d194) rfl (pc' := 65) rfl (hb hby d5_64) ?_
  refine g_dload X201 hx (pc' := 67) rfl (hb hby d5_65) rfl ?_
  refine g_aloadN X201 hx (pc' := 68) rfl (hb hby d5_67) rfl rfl ?_
  refine g_iload X201 hx (pc' := 70) rfl (hb hby d5_68) rfl ?_
  refine g_iload X201 hx (pc' := 72) rfl (hb hby d5_70) rfl ?_
  refine g_iadd X201 hx (pc' := 73) rfl (hb hby d5_72) ?_
  refine g_normI (z := (4 : Int32)) (by decide) ?_
  refine g_daload X201 hx hZ V201 (i := 4) (by decide) (show (4 : Nat) < 8 by decide) (v := d161) rfl (pc' := 74) rfl (hb hby d5_73) ?_
  have q205 : Dy (mt2 * mx20) 1074 (FP.dmul t2 d161) := dy_mul yt2 q161 (by decide) (own_mb bt2 bx20 (by decide)) (by decide)
  refine g_dmul X201 hx (pc' := 75) (z := (FP.dmul t2 d161)) rfl (hb hby d5_74) (dy_noNaN q205) rfl ?_
  refine g_absD (fun d205 hd205 => ?_)
  rw [← hd205] at q205
  obtain ⟨n205, en205⟩ : ∃ z : Int, z = mt2 * mx20 := ⟨_, rfl⟩
  rw [← en205] at q205
  have b205 : n205.natAbs ≤ 16384 := by rw [en205, Int.natAbs_mul]; exact Nat.le_trans (Nat.mul_le_mul bt2 bx20) (by decide)
  have q206 : Dy (n194 - n205) 1074 (FP.dsub d194 d205) := dy_sub q194 q205 (own_subb b194 b205 (by decide)) (by decide)
  refine g_dsub X201 hx (pc' := 76) (z := (FP.dsub d194 d205)) rfl (hb hby d5_75) (dy_noNaN q206) rfl ?_
  refine g_absD (fun d206 hd206 => ?_)
  rw [← hd206] at q206
  obtain ⟨n206, en206⟩ : ∃ z : Int, z = n194 - n205 := ⟨_, rfl⟩
  rw [← en206] at q206
  have b206 : n206.natAbs ≤ 81920 := by rw [en206]; exact Nat.le_trans (own_subl b194 b205) (by decide)
  refine g_dastore X201 hx hZ V201 (i := 0) (by decide) (show (0 : Nat) < 8 by decide) hg (pc' := 77) rfl (hb hby d5_76) (fun T207 h207 X207 W207 N207 => ?_)
  have f208 := f202.other W207 hne
  have f209 := (by have q := (Keep.of_wr W207).1; exact Nat.le_trans f203 q : n0 ≤ h207.size)
  have f210 := f204.wr W207 (Or.inl (List.mem_of_getElem? (i := 0) rfl))
  have V207 : AD Z h207 ca [d206, d200, d183, d188, d161, d166, c30, c31] := N207
  refine g_iincC X207 hx (pc' := 80) (x := (0 : Int32)) (z := (1 : Int32)) rfl (hb hby d5_77) rfl (by decide) (l' := #[.val (.ref ta), .val (.int (4 : Int32)), .val (.int (3 : Int32)), .val (.ref ca), .val (.int (2 : Int32)), .val (.int (0 : Int32)), .val (.int (0 : Int32)), .val (.int (2 : Int32)), .val (.double t2), .second, .val (.int (4 : Int32)), .val (.int (1 : Int32))]) rfl ?_
  refine g_goto X207 hx (pc' := 50) (hb hby d5_80) (by decide) (by decide) ?_
  refine g_iload X207 hx (pc' := 52) rfl (hb hby d5_50) rfl ?_
  refine g_iload X207 hx (pc' := 54) rfl (hb hby d5_52) rfl ?_
  refine g_icmpN X207 hx (pcN := 57) (hb hby d5_54) rfl (show ¬ (¬ (1 : Int32) < (2 : Int32)) from by decide) ?_
  refine g_aloadN X207 hx (pc' := 58) rfl (hb hby d5_57) rfl rfl ?_
  refine g_iload X207 hx (pc' := 60) rfl (hb hby d5_58) rfl ?_
  refine g_iload X207 hx (pc' := 62) rfl (hb hby d5_60) rfl ?_
  refine g_iadd X207 hx (pc' := 63) rfl (hb hby d5_62) ?_
  refine g_normI (z := (1 : Int32)) (by decide) ?_
  refine g_dup2 X207 hx (pc' := 64) rfl (hb hby d5_63) rfl rfl ?_
  refine g_daload X207 hx hZ V207 (i := 1) (by decide) (show (1 : Nat) < 8 by decide) (v := d200) rfl (pc' := 65) rfl (hb hby d5_64) ?_
  refine g_dload X207 hx (pc' := 67) rfl (hb hby d5_65) rfl ?_
  refine g_aloadN X207 hx (pc' := 68) rfl (hb hby d5_67) rfl rfl ?_
  refine g_iload X207 hx (pc' := 70) rfl (hb hby d5_68) rfl ?_
  refine g_iload X207 hx (pc' := 72) rfl (hb hby d5_70) rfl ?_
  refine g_iadd X207 hx (pc' := 73) rfl (hb hby d5_72) ?_
  refine g_normI (z := (5 : Int32)) (by decide) ?_
  refine g_daload X207 hx hZ V207 (i := 5) (by decide) (show (5 : Nat) < 8 by decide) (v := d166) rfl (pc' := 74) rfl (hb hby d5_73) ?_
  have q211 : Dy (mt2 * mx21) 1074 (FP.dmul t2 d166) := dy_mul yt2 q166 (by decide) (own_mb bt2 bx21 (by decide)) (by decide)
  refine g_dmul X207 hx (pc' := 75) (z := (FP.dmul t2 d166)) rfl (hb hby d5_74) (dy_noNaN q211) rfl ?_
  refine g_absD (fun d211 hd211 => ?_)
  rw [← hd211] at q211
  obtain ⟨n211, en211⟩ : ∃ z : Int, z = mt2 * mx21 := ⟨_, rfl⟩
  rw [← en211] at q211
  have b211 : n211.natAbs ≤ 16384 := by rw [en211, Int.natAbs_mul]; exact Nat.le_trans (Nat.mul_le_mul bt2 bx21) (by decide)
  have q212 : Dy (n200 - n211) 1074 (FP.dsub d200 d211) := dy_sub q200 q211 (own_subb b200 b211 (by decide)) (by decide)
  refine g_dsub X207 hx (pc' := 76) (z := (FP.dsub d200 d211)) rfl (hb hby d5_75) (dy_noNaN q212) rfl ?_
  refine g_absD (fun d212 hd212 => ?_)
  rw [← hd212] at q212
  obtain ⟨n212, en212⟩ : ∃ z : Int, z = n200 - n211 := ⟨_, rfl⟩
  rw [← en212] at q212
  have b212 : n212.natAbs ≤ 81920 := by rw [en212]; exact Nat.le_trans (own_subl b200 b211) (by decide)
  refine g_dastore X207 hx hZ V207 (i := 1) (by decide) (show (1 : Nat) < 8 by decide) hg (pc' := 77) rfl (hb hby d5_76) (fun T213 h213 X213 W213 N213 => ?_)
  have f214 := f208.other W213 hne
  have f215 := (by have q := (Keep.of_wr W213).1; exact Nat.le_trans f209 q : n0 ≤ h213.size)
  have f216 := f210.wr W213 (Or.inl (List.mem_of_getElem? (i := 0) rfl))
  have V213 : AD Z h213 ca [d206, d212, d183, d188, d161, d166, c30, c31] := N213
  refine g_iincC X213 hx (pc' := 80) (x := (1 : Int32)) (z := (2 : Int32)) rfl (hb hby d5_77) rfl (by decide) (l' := #[.val (.ref ta), .val (.int (4 : Int32)), .val (.int (3 : Int32)), .val (.ref ca), .val (.int (2 : Int32)), .val (.int (0 : Int32)), .val (.int (0 : Int32)), .val (.int (2 : Int32)), .val (.double t2), .second, .val (.int (4 : Int32)), .val (.int (2 : Int32))]) rfl ?_
  refine g_goto X213 hx (pc' := 50) (hb hby d5_80) (by decide) (by decide) ?_
  refine g_iload X213 hx (pc' := 52) rfl (hb hby d5_50) rfl ?_
  refine g_iload X213 hx (pc' := 54) rfl (hb hby d5_52) rfl ?_
  refine g_icmpY X213 hx (pcY := 83) (hb hby d5_54) (by decide) (by decide) (show ¬ (2 : Int32) < (2 : Int32) from by decide) ?_
  refine g_iincC X213 hx (pc' := 86) (x := (2 : Int32)) (z := (3 : Int32)) rfl (hb hby d5_83) rfl (by decide) (l' := #[.val (.ref ta), .val (.int (4 : Int32)), .val (.int (3 : Int32)), .val (.ref ca), .val (.int (2 : Int32)), .val (.int (0 : Int32)), .val (.int (0 : Int32)), .val (.int (3 : Int32)), .val (.double t2), .second, .val (.int (4 : Int32)), .val (.int (2 : Int32))]) rfl ?_
  refine g_goto X213 hx (pc' := 23) (hb hby d5_86) (by decide) (by decide) ?_
  refine g_iload X213 hx (pc' := 25) rfl (hb hby d5_23) rfl ?_
  refine g_iloadN X213 hx (pc' := 26) rfl (hb hby d5_25) rfl ?_
  refine g_icmpY X213 hx (pcY := 89) (hb hby d5_26) (by decide) (by decide) (show ¬ (3 : Int32) < (3 : Int32) from by decide) ?_
  refine g_aloadN X213 hx (pc' := 90) rfl (hb hby d5_89) rfl rfl ?_
  refine g_iload X213 hx (pc' := 92) rfl (hb hby d5_90) rfl ?_
  refine g_iloadN X213 hx (pc' := 93) rfl (hb hby d5_92) rfl ?_
  refine g_imul X213 hx (pc' := 94) rfl (hb hby d5_93) ?_
  refine g_normI (z := (0 : Int32)) (by decide) ?_
  refine g_iload X213 hx (pc' := 96) rfl (hb hby d5_94) rfl ?_
  refine g_iadd X213 hx (pc' := 97) rfl (hb hby d5_96) ?_
  refine g_normI (z := (0 : Int32)) (by decide) ?_
  refine g_daload X213 hx hZ f214 (i := 0) (by decide) (show (0 : Nat) < 16 by decide) (v := t0) rfl (pc' := 98) rfl (hb hby d5_97) ?_
  refine g_dstore X213 hx (pc' := 100) rfl (hb hby d5_98) (l' := #[.val (.ref ta), .val (.int (4 : Int32)), .val (.int (3 : Int32)), .val (.ref ca), .val (.int (2 : Int32)), .val (.int (0 : Int32)), .val (.int (0 : Int32)), .val (.double t0), .second, .unset, .val (.int (4 : Int32)), .val (.int (2 : Int32))]) rfl ?_
  refine g_iconst X213 hx (pc' := 101) (z := (0 : Int32)) rfl (hb hby d5_100) rfl ?_
  refine g_istore X213 hx (pc' := 103) rfl (hb hby d5_101) (l' := #[.val (.ref ta), .val (.int (4 : Int32)), .val (.int (3 : Int32)), .val (.ref ca), .val (.int (2 : Int32)), .val (.int (0 : Int32)), .val (.int (0 : Int32)), .val (.double t0), .second, .val (.int (0 : Int32)), .val (.int (4 : Int32)), .val (.int (2 : Int32))]) rfl ?_
  refine g_iload X213 hx (pc' := 105) rfl (hb hby d5_103) rfl ?_
  refine g_iload X213 hx (pc' := 107) rfl (hb hby d5_105) rfl ?_
  refine g_icmpN X213 hx (pcN := 110) (hb hby d5_107) rfl (show ¬ (¬ (0 : Int32) < (2 : Int32)) from by decide) ?_
  refine g_aloadN X213 hx (pc' := 111) rfl (hb hby d5_110) rfl rfl ?_
  refine g_iload X213 hx (pc' := 113) rfl (hb hby d5_111) rfl ?_
  refine g_iload X213 hx (pc' := 115) rfl (hb hby d5_113) rfl ?_
  refine g_iadd X213 hx (pc' := 116) rfl (hb hby d5_115) ?_
  refine g_normI (z := (0 : Int32)) (by decide) ?_
  refine g_dup2 X213 hx (pc' := 117) rfl (hb hby d5_116) rfl rfl ?_
  refine g_daload X213 hx hZ V213 (i := 0) (by decide) (show (0 : Nat) < 8 by decide) (v := d206) rfl (pc' := 118) rfl (hb hby d5_117) ?_
  refine g_dload X213 hx (pc' := 120) rfl (hb hby d5_118) rfl ?_
  have q217 : Dy mx00 1074 (FP.ddiv d206 t0) := dy_div q206 yt0 hz0 (by rw [en206, en194, en193, en205]; exact own_g2 ec00) rfl (Nat.lt_of_le_of_lt bx00 (by decide)) (by decide)
  refine g_ddiv X213 hx (pc' := 121) (z := (FP.ddiv d206 t0)) rfl (hb hby d5_120) (dy_noNaN q217) rfl ?_
  refine g_absD (fun d217 hd217 => ?_)
  rw [← hd217] at q217
  refine g_dastore X213 hx hZ V213 (i := 0) (by decide) (show (0 : Nat) < 8 by decide) hg (pc' := 122) rfl (hb hby d5_121) (fun T218 h218 X218 W218 N218 => ?_)
  have f219 := f214.other W218 hne
  have f220 := (by have q := (Keep.of_wr W218).1; exact Nat.le_trans f215 q : n0 ≤ h218.size)
  have f221 := f216.wr W218 (Or.inl (List.mem_of_getElem? (i := 0) rfl))
  have V218 : AD Z h218 ca [d217, d212, d183, d188, d161, d166, c30, c31] := N218
  refine g_iincC X218 hx (pc' := 125) (x := (0 : Int32)) (z := (1 : Int32)) rfl (hb hby d5_122) rfl (by decide) (l' := #[.val (.ref ta), .val (.int (4 : Int32)), .val (.int (3 : Int32)), .val (.ref ca), .val (.int (2 : Int32)), .val (.int (0 : Int32)), .val (.int (0 : Int32)), .val (.double t0), .second, .val (.int (1 : Int32)), .val (.int (4 : Int32)), .val (.int (2 : Int32))]) rfl ?_
  refine g_goto X218 hx (pc' := 103) (hb hby d5_125) (by decide) (by decide) ?_
  refine g_iload X218 hx (pc' := 105) rfl (hb hby d5_103) rfl ?_
  refine g_iload X218 hx (pc' := 107) rfl (hb hby d5_105) rfl ?_
  refine g_icmpN X218 hx (pcN := 110) (hb hby d5_107) rfl (show ¬ (¬ (1 : Int32) < (2 : Int32)) from by decide) ?_
  refine g_aloadN X218 hx (pc' := 111) rfl (hb hby d5_110) rfl rfl ?_
  refine g_iload X218 hx (pc' := 113) rfl (hb hby d5_111) rfl ?_
  refine g_iload X218 hx (pc' := 115) rfl (hb hby d5_113) rfl ?_
  refine g_iadd X218 hx (pc' := 116) rfl (hb hby d5_115) ?_
  refine g_normI (z := (1 : Int32)) (by decide) ?_
  refine g_dup2 X218 hx (pc' := 117) rfl (hb hby d5_116) rfl rfl ?_
  refine g_daload X218 hx hZ V218 (i := 1) (by decide) (show (1 : Nat) < 8 by decide) (v := d212) rfl (pc' := 118) rfl (hb hby d5_117) ?_
  refine g_dload X218 hx (pc' := 120) rfl (hb hby d5_118) rfl ?_
  have q222 : Dy mx01 1074 (FP.ddiv d212 t0) := dy_div q212 yt0 hz0 (by rw [en212, en200, en199, en211]; exact own_g2 ec01) rfl (Nat.lt_of_le_of_lt bx01 (by decide)) (by decide)
  refine g_ddiv X218 hx (pc' := 121) (z := (FP.ddiv d212 t0)) rfl (hb hby d5_120) (dy_noNaN q222) rfl ?_
  refine g_absD (fun d222 hd222 => ?_)
  rw [← hd222] at q222
  refine g_dastore X218 hx hZ V218 (i := 1) (by decide) (show (1 : Nat) < 8 by decide) hg (pc' := 122) rfl (hb hby d5_121) (fun T223 h223 X223 W223 N223 => ?_)
  have f224 := f219.other W223 hne
  have f225 := (by have q := (Keep.of_wr W223).1; exact Nat.le_trans f220 q : n0 ≤ h223.size)
  have f226 := f221.wr W223 (Or.inl (List.mem_of_getElem? (i := 0) rfl))
  have V223 : AD Z h223 ca [d217, d222, d183, d188, d161, d166, c30, c31] := N223
  refine g_iincC X223 hx (pc' := 125) (x := (1 : Int32)) (z := (2 : Int32)) rfl (hb hby d5_122) rfl (by decide) (l' := #[.val (.ref ta), .val (.int (4 : Int32)), .val (.int (3 : Int32)), .val (.ref ca), .val (.int (2 : Int32)), .val (.int (0 : Int32)), .val (.int (0 : Int32)), .val (.double t0), .second, .val (.int (2 : Int32)), .val (.int (4 : Int32)), .val (.int (2 : Int32))]) rfl ?_
  refine g_goto X223 hx (pc' := 103) (hb hby d5_125) (by decide) (by decide) ?_
  refine g_iload X223 hx (pc' := 105) rfl (hb hby d5_103) rfl ?_
  refine g_iload X223 hx (pc' := 107) rfl (hb hby d5_105) rfl ?_
  refine g_icmpY X223 hx (pcY := 128) (hb hby d5_107) (by decide) (by decide) (show ¬ (2 : Int32) < (2 : Int32) from by decide) ?_
  refine g_iincC X223 hx (pc' := 131) (x := (0 : Int32)) (z := (-1 : Int32)) rfl (hb hby d5_128) rfl (by decide) (l' := #[.val (.ref ta), .val (.int (4 : Int32)), .val (.int (3 : Int32)), .val (.ref ca), .val (.int (2 : Int32)), .val (.int (-1 : Int32)), .val (.int (0 : Int32)), .val (.double t0), .second, .val (.int (2 : Int32)), .val (.int (4 : Int32)), .val (.int (2 : Int32))]) rfl ?_
  refine g_goto X223 hx (pc' := 5) (hb hby d5_131) (by decide) (by decide) ?_
  refine g_iload X223 hx (pc' := 7) rfl (hb hby d5_5) rfl ?_
  refine g_ifY X223 hx (pcY := 134) (hb hby d5_7) (by decide) (by decide) (show (-1 : Int32) < 0 from by decide) ?_
  exact g_retV X223 hx hlk hret (hb hby d5_134) (by decide) (by decide) (⟨rfl, f226, _, V223, rfl, fun _ => own_dyeq q217 yx00 rfl, fun _ => own_dyeq q222 yx01 rfl, fun q => absurd q (by decide), fun _ => own_dyeq q183 yx10 rfl, fun _ => own_dyeq q188 yx11 rfl, fun q => absurd q (by decide), fun _ => own_dyeq q161 yx20 rfl, fun _ => own_dyeq q166 yx21 rfl, fun q => absurd q (by decide), fun _ => own_dyeq yc30 yx30 ec30, fun _ => own_dyeq yc31 yx31 ec31, fun q => absurd q (by decide)⟩)
set_option maxRecDepth 65536 in
set_option maxHeartbeats 40000000 in
theorem rm5_3_3 (l : Launch) (Z : State) (a0 : Array Value) (hw : ∀ d ∈ tables_1, d.before a0 Z = true) (ws : List Jvm.Cond) (n0 : Nat) (ta ca : Addr) (t0 : UInt64) (t1 : UInt64) (t2 : UInt64) (t3 : UInt64) (t4 : UInt64) (t5 : UInt64) (t6 : UInt64) (t7 : UInt64) (t8 : UInt64) (t9 : UInt64) (t10 : UInt64) (t11 : UInt64) (t12 : UInt64) (t13 : UInt64) (t14 : UInt64) (t15 : UInt64) (mt0 : Int) (mt1 : Int) (mt2 : Int) (mt5 : Int) (mt6 : Int) (mt10 : Int) (c00 : UInt64) (mc00 : Int) (c01 : UInt64) (mc01 : Int) (c02 : UInt64) (mc02 : Int) (c10 : UInt64) (mc10 : Int) (c11 : UInt64) (mc11 : Int) (c12 : UInt64) (mc12 : Int) (c20 : UInt64) (mc20 : Int) (c21 : UInt64) (mc21 : Int) (c22 : UInt64) (mc22 : Int) (c30 : UInt64) (mc30 : Int) (c31 : UInt64) (mc31 : Int) (c32 : UInt64) (mc32 : Int) (x00 : Int64) (mx00 : Int) (x01 : Int64) (mx01 : Int) (x02 : Int64) (mx02 : Int) (x10 : Int64) (mx10 : Int) (x11 : Int64) (mx11 : Int) (x12 : Int64) (mx12 : Int) (x20 : Int64) (mx20 : Int) (x21 : Int64) (mx21 : Int) (x22 : Int64) (mx22 : Int) (x30 : Int64) (mx30 : Int) (x31 : Int64) (mx31 : Int) (x32 : Int64) (mx32 : Int) (h0 : Heap) (hn0 : n0 ≤ h0.size) (At : AD Z h0 ta [t0, t1, t2, t3, t4, t5, t6, t7, t8, t9, t10, t11, t12, t13, t14, t15]) (Ac : AD Z h0 ca [c00, c01, c02, c10, c11, c12, c20, c21, c22, c30, c31, c32]) (hne : ta ≠ ca) (hg : n0 ≤ ca) (yt0 : Dy mt0 1074 t0) (bt0 : mt0.natAbs ≤ 128) (yt1 : Dy mt1 1074 t1) (bt1 : mt1.natAbs ≤ 128) (yt2 : Dy mt2 1074 t2) (bt2 : mt2.natAbs ≤ 128) (yt5 : Dy mt5 1074 t5) (bt5 : mt5.natAbs ≤ 128) (yt6 : Dy mt6 1074 t6) (bt6 : mt6.natAbs ≤ 128) (yt10 : Dy mt10 1074 t10) (bt10 : mt10.natAbs ≤ 128) (hz0 : mt0 ≠ 0) (hz5 : mt5 ≠ 0) (hz10 : mt10 ≠ 0) (yc00 : Dy mc00 1074 c00) (bc00 : mc00.natAbs ≤ 49152) (ec00 : mc00 = mt0 * mx00 + mt1 * mx10 + mt2 * mx20) (yc01 : Dy mc01 1074 c01) (bc01 : mc01.natAbs ≤ 49152) (ec01 : mc01 = mt0 * mx01 + mt1 * mx11 + mt2 * mx21) (yc02 : Dy mc02 1074 c02) (bc02 : mc02.natAbs ≤ 49152) (ec02 : mc02 = mt0 * mx02 + mt1 * mx12 + mt2 * mx22) (yc10 : Dy mc10 1074 c10) (bc10 : mc10.natAbs ≤ 49152) (ec10 : mc10 = mt5 * mx10 + mt6 * mx20) (yc11 : Dy mc11 1074 c11) (bc11 : mc11.natAbs ≤ 49152) (ec11 : mc11 = mt5 * mx11 + mt6 * mx21) (yc12 : Dy mc12 1074 c12) (bc12 : mc12.natAbs ≤ 49152) (ec12 : mc12 = mt5 * mx12 + mt6 * mx22) (yc20 : Dy mc20 1074 c20) (bc20 : mc20.natAbs ≤ 49152) (ec20 : mc20 = mt10 * mx20) (yc21 : Dy mc21 1074 c21) (bc21 : mc21.natAbs ≤ 49152) (ec21 : mc21 = mt10 * mx21) (yc22 : Dy mc22 1074 c22) (bc22 : mc22.natAbs ≤ 49152) (ec22 : mc22 = mt10 * mx22) (yc30 : Dy mc30 1074 c30) (bc30 : mc30.natAbs ≤ 49152) (ec30 : mc30 = mx30) (yc31 : Dy mc31 1074 c31) (bc31 : mc31.natAbs ≤ 49152) (ec31 : mc31 = mx31) (yc32 : Dy mc32 1074 c32) (bc32 : mc32.natAbs ≤ 49152) (ec32 : mc32 = mx32) (yx00 : Dy mx00 1074 (FP.l2d x00)) (bx00 : mx00.natAbs ≤ 128) (yx01 : Dy mx01 1074 (FP.l2d x01)) (bx01 : mx01.natAbs ≤ 128) (yx02 : Dy mx02 1074 (FP.l2d x02)) (bx02 : mx02.natAbs ≤ 128) (yx10 : Dy mx10 1074 (FP.l2d x10)) (bx10 : mx10.natAbs ≤ 128) (yx11 : Dy mx11 1074 (FP.l2d x11)) (bx11 : mx11.natAbs ≤ 128) (yx12 : Dy mx12 1074 (FP.l2d x12)) (bx12 : mx12.natAbs ≤ 128) (yx20 : Dy mx20 1074 (FP.l2d x20)) (bx20 : mx20.natAbs ≤ 128) (yx21 : Dy mx21 1074 (FP.l2d x21)) (bx21 : mx21.natAbs ≤ 128) (yx22 : Dy mx22 1074 (FP.l2d x22)) (bx22 : mx22.natAbs ≤ 128) (yx30 : Dy mx30 1074 (FP.l2d x30)) (bx30 : mx30.natAbs ≤ 128) (yx31 : Dy mx31 1074 (FP.l2d x31)) (bx31 : mx31.natAbs ≤ 128) (yx32 : Dy mx32 1074 (FP.l2d x32)) (bx32 : mx32.natAbs ≤ 128) :
    Con l Z n0 (⟨"com/example/orthogon/orthogon/Triangular", "solveUpper", "([DII[DI)V"⟩ : MethodName) prog_16_method_3_code 12 none ws ({ frames := 0, cells := 0, slots := 0, locals := 0 } : Room) #[(.ref ta), (.int (4 : Int32)), (.int (3 : Int32)), (.ref ca), (.int (3 : Int32))] h0 (fun v h => v = none ∧ Keep h0 h [ca] ∧ ∃ xs, AD Z h ca xs ∧ xs.length = 4 * 3 ∧ (0 < 3 → cmpValue (FP.dcmp (xs.getD (0 * 3 + 0) 0) (FP.l2d x00)) .l = 0) ∧ (1 < 3 → cmpValue (FP.dcmp (xs.getD (0 * 3 + 1) 0) (FP.l2d x01)) .l = 0) ∧ (2 < 3 → cmpValue (FP.dcmp (xs.getD (0 * 3 + 2) 0) (FP.l2d x02)) .l = 0) ∧ (0 < 3 → cmpValue (FP.dcmp (xs.getD (1 * 3 + 0) 0) (FP.l2d x10)) .l = 0) ∧ (1 < 3 → cmpValue (FP.dcmp (xs.getD (1 * 3 + 1) 0) (FP.l2d x11)) .l = 0) ∧ (2 < 3 → cmpValue (FP.dcmp (xs.getD (1 * 3 + 2) 0) (FP.l2d x12)) .l = 0) ∧ (0 < 3 → cmpValue (FP.dcmp (xs.getD (2 * 3 + 0) 0) (FP.l2d x20)) .l = 0) ∧ (1 < 3 → cmpValue (FP.dcmp (xs.getD (2 * 3 + 1) 0) (FP.l2d x21)) .l = 0) ∧ (2 < 3 → cmpValue (FP.dcmp (xs.getD (2 * 3 + 2) 0) (FP.l2d x22)) .l = 0) ∧ (0 < 3 → cmpValue (FP.dcmp (xs.getD (3 * 3 + 0) 0) (FP.l2d x30)) .l = 0) ∧ (1 < 3 → cmpValue (FP.dcmp (xs.getD (3 * 3 + 1) 0) (FP.l2d x31)) .l = 0) ∧ (2 < 3 → cmpValue (FP.dcmp (xs.getD (3 * 3 + 2) 0) (FP.l2d x32)) .l = 0)) := by
  refine con_start (plainFor_of_name (by first | (simp [plainName, overriddenIn]; done) | decide +kernel)) (fr0 := fun m => mkF m 0 #[.val (.ref ta), .val (.int (4 : Int32)), .val (.int (3 : Int32)), .val (.ref ca), .val (.int (3 : Int32)), .unset, .unset, .unset, .unset, .unset, .unset, .unset] []) (fun m => by first | (simp [entryFrame, mkF, argsToLocals, Value.category]; done) | rfl) ?_
  intro p e s m below meth c T0 hx hZ hby hml hown hnm hret hlk X0
  replace hown : s.vm.findClass "com/example/orthogon/orthogon/Triangular" = some m.cls := hown
  replace hml : c.maxLocals = 12 := hml
  refine g_iloadN X0 hx (pc' := 1) rfl (hb hby d5_0) rfl ?_
  refine g_iconst X0 hx (pc' := 2) (z := (1 : Int32)) rfl (hb hby d5_1) rfl ?_
  refine g_isub X0 hx (pc' := 3) rfl (hb hby d5_2) ?_
  refine g_normI (z := (2 : Int32)) (by decide) ?_
  refine g_istore X0 hx (pc' := 5) rfl (hb hby d5_3) (l' := #[.val (.ref ta), .val (.int (4 : Int32)), .val (.int (3 : Int32)), .val (.ref ca), .val (.int (3 : Int32)), .val (.int (2 : Int32)), .unset, .unset, .unset, .unset, .unset, .unset]) rfl ?_
  refine g_iload X0 hx (pc' := 7) rfl (hb hby d5_5) rfl ?_
  refine g_ifN X0 hx (pcN := 10) (hb hby d5_7) rfl (show ¬ ((2 : Int32) < 0) from by decide) ?_
  refine g_iload X0 hx (pc' := 12) rfl (hb hby d5_10) rfl ?_
  refine g_iload X0 hx (pc' := 14) rfl (hb hby d5_12) rfl ?_
  refine g_imul X0 hx (pc' := 15) rfl (hb hby d5_14) ?_
  refine g_normI (z := (6 : Int32)) (by decide) ?_
  refine g_istore X0 hx (pc' := 17) rfl (hb hby d5_15) (l' := #[.val (.ref ta), .val (.int (4 : Int32)), .val (.int (3 : Int32)), .val (.ref ca), .val (.int (3 : Int32)), .val (.int (2 : Int32)), .val (.int (6 : Int32)), .unset, .unset, .unset, .unset, .unset]) rfl ?_
  refine g_iload X0 hx (pc' := 19) rfl (hb hby d5_17) rfl ?_
  refine g_iconst X0 hx (pc' := 20) (z := (1 : Int32)) rfl (hb hby d5_19) rfl ?_
  refine g_iadd X0 hx (pc' := 21) rfl (hb hby d5_20) ?_
  refine g_normI (z := (3 : Int32)) (by decide) ?_
  refine g_istore X0 hx (pc' := 23) rfl (hb hby d5_21) (l' := #[.val (.ref ta), .val (.int (4 : Int32)), .val (.int (3 : Int32)), .val (.ref ca), .val (.int (3 : Int32)), .val (.int (2 : Int32)), .val (.int (6 : Int32)), .val (.int (3 : Int32)), .unset, .unset, .unset, .unset]) rfl ?_
  refine g_iload X0 hx (pc' := 25) rfl (hb hby d5_23) rfl ?_
  refine g_iloadN X0 hx (pc' := 26) rfl (hb hby d5_25) rfl ?_
  refine g_icmpY X0 hx (pcY := 89) (hb hby d5_26) (by decide) (by decide) (show ¬ (3 : Int32) < (3 : Int32) from by decide) ?_
  refine g_aloadN X0 hx (pc' := 90) rfl (hb hby d5_89) rfl rfl ?_
  refine g_iload X0 hx (pc' := 92) rfl (hb hby d5_90) rfl ?_
  refine g_iloadN X0 hx (pc' := 93) rfl (hb hby d5_92) rfl ?_
  refine g_imul X0 hx (pc' := 94) rfl (hb hby d5_93) ?_
  refine g_normI (z := (8 : Int32)) (by decide) ?_
  refine g_iload X0 hx (pc' := 96) rfl (hb hby d5_94) rfl ?_
  refine g_iadd X0 hx (pc' := 97) rfl (hb hby d5_96) ?_
  refine g_normI (z := (10 : Int32)) (by decide) ?_
  refine g_daload X0 hx hZ At (i := 10) (by decide) (show (10 : Nat) < 16 by decide) (v := t10) rfl (pc' := 98) rfl (hb hby d5_97) ?_
  refine g_dstore X0 hx (pc' := 100) rfl (hb hby d5_98) (l' := #[.val (.ref ta), .val (.int (4 : Int32)), .val (.int (3 : Int32)), .val (.ref ca), .val (.int (3 : Int32)), .val (.int (2 : Int32)), .val (.int (6 : Int32)), .val (.double t10), .second, .unset, .unset, .unset]) rfl ?_
  refine g_iconst X0 hx (pc' := 101) (z := (0 : Int32)) rfl (hb hby d5_100) rfl ?_
  refine g_istore X0 hx (pc' := 103) rfl (hb hby d5_101) (l' := #[.val (.ref ta), .val (.int (4 : Int32)), .val (.int (3 : Int32)), .val (.ref ca), .val (.int (3 : Int32)), .val (.int (2 : Int32)), .val (.int (6 : Int32)), .val (.double t10), .second, .val (.int (0 : Int32)), .unset, .unset]) rfl ?_
  refine g_iload X0 hx (pc' := 105) rfl (hb hby d5_103) rfl ?_
  refine g_iload X0 hx (pc' := 107) rfl (hb hby d5_105) rfl ?_
  refine g_icmpN X0 hx (pcN := 110) (hb hby d5_107) rfl (show ¬ (¬ (0 : Int32) < (3 : Int32)) from by decide) ?_
  refine g_aloadN X0 hx (pc' := 111) rfl (hb hby d5_110) rfl rfl ?_
  refine g_iload X0 hx (pc' := 113) rfl (hb hby d5_111) rfl ?_
  refine g_iload X0 hx (pc' := 115) rfl (hb hby d5_113) rfl ?_
  refine g_iadd X0 hx (pc' := 116) rfl (hb hby d5_115) ?_
  refine g_normI (z := (6 : Int32)) (by decide) ?_
  refine g_dup2 X0 hx (pc' := 117) rfl (hb hby d5_116) rfl rfl ?_
  refine g_daload X0 hx hZ Ac (i := 6) (by decide) (show (6 : Nat) < 12 by decide) (v := c20) rfl (pc' := 118) rfl (hb hby d5_117) ?_
  refine g_dload X0 hx (pc' := 120) rfl (hb hby d5_118) rfl ?_
  have q227 : Dy mx20 1074 (FP.ddiv c20 t10) := dy_div yc20 yt10 hz10 (by exact own_g0 ec20) rfl (Nat.lt_of_le_of_lt bx20 (by decide)) (by decide)
  refine g_ddiv X0 hx (pc' := 121) (z := (FP.ddiv c20 t10)) rfl (hb hby d5_120) (dy_noNaN q227) rfl ?_
  refine g_absD (fun d227 hd227 => ?_)
  rw [← hd227] at q227
  refine g_dastore X0 hx hZ Ac (i := 6) (by decide) (show (6 : Nat) < 12 by decide) hg (pc' := 122) rfl (hb hby d5_121) (fun T228 h228 X228 W228 N228 => ?_)
  have f229 := At.other W228 hne
  have f230 := (by have q := (Keep.of_wr W228).1; exact Nat.le_trans hn0 q : n0 ≤ h228.size)
  have f231 := (Keep.refl h0 [ca]).wr W228 (Or.inl (List.mem_of_getElem? (i := 0) rfl))
  have V228 : AD Z h228 ca [c00, c01, c02, c10, c11, c12, d227, c21, c22, c30, c31, c32] := N228
  refine g_iincC X228 hx (pc' := 125) (x := (0 : Int32)) (z := (1 : Int32)) rfl (hb hby d5_122) rfl (by decide) (l' := #[.val (.ref ta), .val (.int (4 : Int32)), .val (.int (3 : Int32)), .val (.ref ca), .val (.int (3 : Int32)), .val (.int (2 : Int32)), .val (.int (6 : Int32)), .val (.double t10), .second, .val (.int (1 : Int32)), .unset, .unset]) rfl ?_
  refine g_goto X228 hx (pc' := 103) (hb hby d5_125) (by decide) (by decide) ?_
  refine g_iload X228 hx (pc' := 105) rfl (hb hby d5_103) rfl ?_
  refine g_iload X228 hx (pc' := 107) rfl (hb hby d5_105) rfl ?_
  refine g_icmpN X228 hx (pcN := 110) (hb hby d5_107) rfl (show ¬ (¬ (1 : Int32) < (3 : Int32)) from by decide) ?_
  refine g_aloadN X228 hx (pc' := 111) rfl (hb hby d5_110) rfl rfl ?_
  refine g_iload X228 hx (pc' := 113) rfl (hb hby d5_111) rfl ?_
  refine g_iload X228 hx (pc' := 115) rfl (hb hby d5_113) rfl ?_
  refine g_iadd X228 hx (pc' := 116) rfl (hb hby d5_115) ?_
  refine g_normI (z := (7 : Int32)) (by decide) ?_
  refine g_dup2 X228 hx (pc' := 117) rfl (hb hby d5_116) rfl rfl ?_
  refine g_daload X228 hx hZ V228 (i := 7) (by decide) (show (7 : Nat) < 12 by decide) (v := c21) rfl (pc' := 118) rfl (hb hby d5_117) ?_
  refine g_dload X228 hx (pc' := 120) rfl (hb hby d5_118) rfl ?_
  have q232 : Dy mx21 1074 (FP.ddiv c21 t10) := dy_div yc21 yt10 hz10 (by exact own_g0 ec21) rfl (Nat.lt_of_le_of_lt bx21 (by decide)) (by decide)
  refine g_ddiv X228 hx (pc' := 121) (z := (FP.ddiv c21 t10)) rfl (hb hby d5_120) (dy_noNaN q232) rfl ?_
  refine g_absD (fun d232 hd232 => ?_)
  rw [← hd232] at q232
  refine g_dastore X228 hx hZ V228 (i := 7) (by decide) (show (7 : Nat) < 12 by decide) hg (pc' := 122) rfl (hb hby d5_121) (fun T233 h233 X233 W233 N233 => ?_)
  have f234 := f229.other W233 hne
  have f235 := (by have q := (Keep.of_wr W233).1; exact Nat.le_trans f230 q : n0 ≤ h233.size)
  have f236 := f231.wr W233 (Or.inl (List.mem_of_getElem? (i := 0) rfl))
  have V233 : AD Z h233 ca [c00, c01, c02, c10, c11, c12, d227, d232, c22, c30, c31, c32] := N233
  refine g_iincC X233 hx (pc' := 125) (x := (1 : Int32)) (z := (2 : Int32)) rfl (hb hby d5_122) rfl (by decide) (l' := #[.val (.ref ta), .val (.int (4 : Int32)), .val (.int (3 : Int32)), .val (.ref ca), .val (.int (3 : Int32)), .val (.int (2 : Int32)), .val (.int (6 : Int32)), .val (.double t10), .second, .val (.int (2 : Int32)), .unset, .unset]) rfl ?_
  refine g_goto X233 hx (pc' := 103) (hb hby d5_125) (by decide) (by decide) ?_
  refine g_iload X233 hx (pc' := 105) rfl (hb hby d5_103) rfl ?_
  refine g_iload X233 hx (pc' := 107) rfl (hb hby d5_105) rfl ?_
  refine g_icmpN X233 hx (pcN := 110) (hb hby d5_107) rfl (show ¬ (¬ (2 : Int32) < (3 : Int32)) from by decide) ?_
  refine g_aloadN X233 hx (pc' := 111) rfl (hb hby d5_110) rfl rfl ?_
  refine g_iload X233 hx (pc' := 113) rfl (hb hby d5_111) rfl ?_
  refine g_iload X233 hx (pc' := 115) rfl (hb hby d5_113) rfl ?_
  refine g_iadd X233 hx (pc' := 116) rfl (hb hby d5_115) ?_
  refine g_normI (z := (8 : Int32)) (by decide) ?_
  refine g_dup2 X233 hx (pc' := 117) rfl (hb hby d5_116) rfl rfl ?_
  refine g_daload X233 hx hZ V233 (i := 8) (by decide) (show (8 : Nat) < 12 by decide) (v := c22) rfl (pc' := 118) rfl (hb hby d5_117) ?_
  refine g_dload X233 hx (pc' := 120) rfl (hb hby d5_118) rfl ?_
  have q237 : Dy mx22 1074 (FP.ddiv c22 t10) := dy_div yc22 yt10 hz10 (by exact own_g0 ec22) rfl (Nat.lt_of_le_of_lt bx22 (by decide)) (by decide)
  refine g_ddiv X233 hx (pc' := 121) (z := (FP.ddiv c22 t10)) rfl (hb hby d5_120) (dy_noNaN q237) rfl ?_
  refine g_absD (fun d237 hd237 => ?_)
  rw [← hd237] at q237
  refine g_dastore X233 hx hZ V233 (i := 8) (by decide) (show (8 : Nat) < 12 by decide) hg (pc' := 122) rfl (hb hby d5_121) (fun T238 h238 X238 W238 N238 => ?_)
  have f239 := f234.other W238 hne
  have f240 := (by have q := (Keep.of_wr W238).1; exact Nat.le_trans f235 q : n0 ≤ h238.size)
  have f241 := f236.wr W238 (Or.inl (List.mem_of_getElem? (i := 0) rfl))
  have V238 : AD Z h238 ca [c00, c01, c02, c10, c11, c12, d227, d232, d237, c30, c31, c32] := N238
  refine g_iincC X238 hx (pc' := 125) (x := (2 : Int32)) (z := (3 : Int32)) rfl (hb hby d5_122) rfl (by decide) (l' := #[.val (.ref ta), .val (.int (4 : Int32)), .val (.int (3 : Int32)), .val (.ref ca), .val (.int (3 : Int32)), .val (.int (2 : Int32)), .val (.int (6 : Int32)), .val (.double t10), .second, .val (.int (3 : Int32)), .unset, .unset]) rfl ?_
  refine g_goto X238 hx (pc' := 103) (hb hby d5_125) (by decide) (by decide) ?_
  refine g_iload X238 hx (pc' := 105) rfl (hb hby d5_103) rfl ?_
  refine g_iload X238 hx (pc' := 107) rfl (hb hby d5_105) rfl ?_
  refine g_icmpY X238 hx (pcY := 128) (hb hby d5_107) (by decide) (by decide) (show ¬ (3 : Int32) < (3 : Int32) from by decide) ?_
  refine g_iincC X238 hx (pc' := 131) (x := (2 : Int32)) (z := (1 : Int32)) rfl (hb hby d5_128) rfl (by decide) (l' := #[.val (.ref ta), .val (.int (4 : Int32)), .val (.int (3 : Int32)), .val (.ref ca), .val (.int (3 : Int32)), .val (.int (1 : Int32)), .val (.int (6 : Int32)), .val (.double t10), .second, .val (.int (3 : Int32)), .unset, .unset]) rfl ?_
  refine g_goto X238 hx (pc' := 5) (hb hby d5_131) (by decide) (by decide) ?_
  refine g_iload X238 hx (pc' := 7) rfl (hb hby d5_5) rfl ?_
  refine g_ifN X238 hx (pcN := 10) (hb hby d5_7) rfl (show ¬ ((1 : Int32) < 0) from by decide) ?_
  refine g_iload X238 hx (pc' := 12) rfl (hb hby d5_10) rfl ?_
  refine g_iload X238 hx (pc' := 14) rfl (hb hby d5_12) rfl ?_
  refine g_imul X238 hx (pc' := 15) rfl (hb hby d5_14) ?_
  refine g_normI (z := (3 : Int32)) (by decide) ?_
  refine g_istore X238 hx (pc' := 17) rfl (hb hby d5_15) (l' := #[.val (.ref ta), .val (.int (4 : Int32)), .val (.int (3 : Int32)), .val (.ref ca), .val (.int (3 : Int32)), .val (.int (1 : Int32)), .val (.int (3 : Int32)), .val (.double t10), .second, .val (.int (3 : Int32)), .unset, .unset]) rfl ?_
  refine g_iload X238 hx (pc' := 19) rfl (hb hby d5_17) rfl ?_
  refine g_iconst X238 hx (pc' := 20) (z := (1 : Int32)) rfl (hb hby d5_19) rfl ?_
  refine g_iadd X238 hx (pc' := 21) rfl (hb hby d5_20) ?_
  refine g_normI (z := (2 : Int32)) (by decide) ?_
  refine g_istore X238 hx (pc' := 23) rfl (hb hby d5_21) (l' := #[.val (.ref ta), .val (.int (4 : Int32)), .val (.int (3 : Int32)), .val (.ref ca), .val (.int (3 : Int32)), .val (.int (1 : Int32)), .val (.int (3 : Int32)), .val (.int (2 : Int32)), .unset, .val (.int (3 : Int32)), .unset, .unset]) rfl ?_
  refine g_iload X238 hx (pc' := 25) rfl (hb hby d5_23) rfl ?_
  refine g_iloadN X238 hx (pc' := 26) rfl (hb hby d5_25) rfl ?_
  refine g_icmpN X238 hx (pcN := 29) (hb hby d5_26) rfl (show ¬ (¬ (2 : Int32) < (3 : Int32)) from by decide) ?_
  refine g_aloadN X238 hx (pc' := 30) rfl (hb hby d5_29) rfl rfl ?_
  refine g_iload X238 hx (pc' := 32) rfl (hb hby d5_30) rfl ?_
  refine g_iloadN X238 hx (pc' := 33) rfl (hb hby d5_32) rfl ?_
  refine g_imul X238 hx (pc' := 34) rfl (hb hby d5_33) ?_
  refine g_normI (z := (4 : Int32)) (by decide) ?_
  refine g_iload X238 hx (pc' := 36) rfl (hb hby d5_34) rfl ?_
  refine g_iadd X238 hx (pc' := 37) rfl (hb hby d5_36) ?_
  refine g_normI (z := (6 : Int32)) (by decide) ?_
  refine g_daload X238 hx hZ f239 (i := 6) (by decide) (show (6 : Nat) < 16 by decide) (v := t6) rfl (pc' := 38) rfl (hb hby d5_37) ?_
  refine g_dstore X238 hx (pc' := 40) rfl (hb hby d5_38) (l' := #[.val (.ref ta), .val (.int (4 : Int32)), .val (.int (3 : Int32)), .val (.ref ca), .val (.int (3 : Int32)), .val (.int (1 : Int32)), .val (.int (3 : Int32)), .val (.int (2 : Int32)), .val (.double t6), .second, .unset, .unset]) rfl ?_
  refine g_iload X238 hx (pc' := 42) rfl (hb hby d5_40) rfl ?_
  refine g_iload X238 hx (pc' := 44) rfl (hb hby d5_42) rfl ?_
  refine g_imul X238 hx (pc' := 45) rfl (hb hby d5_44) ?_
  refine g_normI (z := (6 : Int32)) (by decide) ?_
  refine g_istore X238 hx (pc' := 47) rfl (hb hby d5_45) (l' := #[.val (.ref ta), .val (.int (4 : Int32)), .val (.int (3 : Int32)), .val (.ref ca), .val (.int (3 : Int32)), .val (.int (1 : Int32)), .val (.int (3 : Int32)), .val (.int (2 : Int32)), .val (.double t6), .second, .val (.int (6 : Int32)), .unset]) rfl ?_
  refine g_iconst X238 hx (pc' := 48) (z := (0 : Int32)) rfl (hb hby d5_47) rfl ?_
  refine g_istore X238 hx (pc' := 50) rfl (hb hby d5_48) (l' := #[.val (.ref ta), .val (.int (4 : Int32)), .val (.int (3 : Int32)), .val (.ref ca), .val (.int (3 : Int32)), .val (.int (1 : Int32)), .val (.int (3 : Int32)), .val (.int (2 : Int32)), .val (.double t6), .second, .val (.int (6 : Int32)), .val (.int (0 : Int32))]) rfl ?_
  refine g_iload X238 hx (pc' := 52) rfl (hb hby d5_50) rfl ?_
  refine g_iload X238 hx (pc' := 54) rfl (hb hby d5_52) rfl ?_
  refine g_icmpN X238 hx (pcN := 57) (hb hby d5_54) rfl (show ¬ (¬ (0 : Int32) < (3 : Int32)) from by decide) ?_
  refine g_aloadN X238 hx (pc' := 58) rfl (hb hby d5_57) rfl rfl ?_
  refine g_iload X238 hx (pc' := 60) rfl (hb hby d5_58) rfl ?_
  refine g_iload X238 hx (pc' := 62) rfl (hb hby d5_60) rfl ?_
  refine g_iadd X238 hx (pc' := 63) rfl (hb hby d5_62) ?_
  refine g_normI (z := (3 : Int32)) (by decide) ?_
  refine g_dup2 X238 hx (pc' := 64) rfl (hb hby d5_63) rfl rfl ?_
  refine g_daload X238 hx hZ V238 (i := 3) (by decide) (show (3 : Nat) < 12 by decide) (v := c10) rfl (pc' := 65) rfl (hb hby d5_64) ?_
  refine g_dload X238 hx (pc' := 67) rfl (hb hby d5_65) rfl ?_
  refine g_aloadN X238 hx (pc' := 68) rfl (hb hby d5_67) rfl rfl ?_
  refine g_iload X238 hx (pc' := 70) rfl (hb hby d5_68) rfl ?_
  refine g_iload X238 hx (pc' := 72) rfl (hb hby d5_70) rfl ?_
  refine g_iadd X238 hx (pc' := 73) rfl (hb hby d5_72) ?_
  refine g_normI (z := (6 : Int32)) (by decide) ?_
  refine g_daload X238 hx hZ V238 (i := 6) (by decide) (show (6 : Nat) < 12 by decide) (v := d227) rfl (pc' := 74) rfl (hb hby d5_73) ?_
  have q242 : Dy (mt6 * mx20) 1074 (FP.dmul t6 d227) := dy_mul yt6 q227 (by decide) (own_mb bt6 bx20 (by decide)) (by decide)
  refine g_dmul X238 hx (pc' := 75) (z := (FP.dmul t6 d227)) rfl (hb hby d5_74) (dy_noNaN q242) rfl ?_
  refine g_absD (fun d242 hd242 => ?_)
  rw [← hd242] at q242
  obtain ⟨n242, en242⟩ : ∃ z : Int, z = mt6 * mx20 := ⟨_, rfl⟩
  rw [← en242] at q242
  have b242 : n242.natAbs ≤ 16384 := by rw [en242, Int.natAbs_mul]; exact Nat.le_trans (Nat.mul_le_mul bt6 bx20) (by decide)
  have q243 : Dy (mc10 - n242) 1074 (FP.dsub c10 d242) := dy_sub yc10 q242 (own_subb bc10 b242 (by decide)) (by decide)
  refine g_dsub X238 hx (pc' := 76) (z := (FP.dsub c10 d242)) rfl (hb hby d5_75) (dy_noNaN q243) rfl ?_
  refine g_absD (fun d243 hd243 => ?_)
  rw [← hd243] at q243
  obtain ⟨n243, en243⟩ : ∃ z : Int, z = mc10 - n242 := ⟨_, rfl⟩
  rw [← en243] at q243
  have b243 : n243.natAbs ≤ 65536 := by rw [en243]; exact Nat.le_trans (own_subl bc10 b242) (by decide)
  refine g_dastore X238 hx hZ V238 (i := 3) (by decide) (show (3 : Nat) < 12 by decide) hg (pc' := 77) rfl (hb hby d5_76) (fun T244 h244 X244 W244 N244 => ?_)
  have f245 := f239.other W244 hne
  have f246 := (by have q := (Keep.of_wr W244).1; exact Nat.le_trans f240 q : n0 ≤ h244.size)
  have f247 := f241.wr W244 (Or.inl (List.mem_of_getElem? (i := 0) rfl))
  have V244 : AD Z h244 ca [c00, c01, c02, d243, c11, c12, d227, d232, d237, c30, c31, c32] := N244
  refine g_iincC X244 hx (pc' := 80) (x := (0 : Int32)) (z := (1 : Int32)) rfl (hb hby d5_77) rfl (by decide) (l' := #[.val (.ref ta), .val (.int (4 : Int32)), .val (.int (3 : Int32)), .val (.ref ca), .val (.int (3 : Int32)), .val (.int (1 : Int32)), .val (.int (3 : Int32)), .val (.int (2 : Int32)), .val (.double t6), .second, .val (.int (6 : Int32)), .val (.int (1 : Int32))]) rfl ?_
  refine g_goto X244 hx (pc' := 50) (hb hby d5_80) (by decide) (by decide) ?_
  refine g_iload X244 hx (pc' := 52) rfl (hb hby d5_50) rfl ?_
  refine g_iload X244 hx (pc' := 54) rfl (hb hby d5_52) rfl ?_
  refine g_icmpN X244 hx (pcN := 57) (hb hby d5_54) rfl (show ¬ (¬ (1 : Int32) < (3 : Int32)) from by decide) ?_
  refine g_aloadN X244 hx (pc' := 58) rfl (hb hby d5_57) rfl rfl ?_
  refine g_iload X244 hx (pc' := 60) rfl (hb hby d5_58) rfl ?_
  refine g_iload X244 hx (pc' := 62) rfl (hb hby d5_60) rfl ?_
  refine g_iadd X244 hx (pc' := 63) rfl (hb hby d5_62) ?_
  refine g_normI (z := (4 : Int32)) (by decide) ?_
  refine g_dup2 X244 hx (pc' := 64) rfl (hb hby d5_63) rfl rfl ?_
  refine g_daload X244 hx hZ V244 (i := 4) (by decide) (show (4 : Nat) < 12 by decide) (v := c11) rfl (pc' := 65) rfl (hb hby d5_64) ?_
  refine g_dload X244 hx (pc' := 67) rfl (hb hby d5_65) rfl ?_
  refine g_aloadN X244 hx (pc' := 68) rfl (hb hby d5_67) rfl rfl ?_
  refine g_iload X244 hx (pc' := 70) rfl (hb hby d5_68) rfl ?_
  refine g_iload X244 hx (pc' := 72) rfl (hb hby d5_70) rfl ?_
  refine g_iadd X244 hx (pc' := 73) rfl (hb hby d5_72) ?_
  refine g_normI (z := (7 : Int32)) (by decide) ?_
  refine g_daload X244 hx hZ V244 (i := 7) (by decide) (show (7 : Nat) < 12 by decide) (v := d232) rfl (pc' := 74) rfl (hb hby d5_73) ?_
  have q248 : Dy (mt6 * mx21) 1074 (FP.dmul t6 d232) := dy_mul yt6 q232 (by decide) (own_mb bt6 bx21 (by decide)) (by decide)
  refine g_dmul X244 hx (pc' := 75) (z := (FP.dmul t6 d232)) rfl (hb hby d5_74) (dy_noNaN q248) rfl ?_
  refine g_absD (fun d248 hd248 => ?_)
  rw [← hd248] at q248
  obtain ⟨n248, en248⟩ : ∃ z : Int, z = mt6 * mx21 := ⟨_, rfl⟩
  rw [← en248] at q248
  have b248 : n248.natAbs ≤ 16384 := by rw [en248, Int.natAbs_mul]; exact Nat.le_trans (Nat.mul_le_mul bt6 bx21) (by decide)
  have q249 : Dy (mc11 - n248) 1074 (FP.dsub c11 d248) := dy_sub yc11 q248 (own_subb bc11 b248 (by decide)) (by decide)
  refine g_dsub X244 hx (pc' := 76) (z := (FP.dsub c11 d248)) rfl (hb hby d5_75) (dy_noNaN q249) rfl ?_
  refine g_absD (fun d249 hd249 => ?_)
  rw [← hd249] at q249
  obtain ⟨n249, en249⟩ : ∃ z : Int, z = mc11 - n248 := ⟨_, rfl⟩
  rw [← en249] at q249
  have b249 : n249.natAbs ≤ 65536 := by rw [en249]; exact Nat.le_trans (own_subl bc11 b248) (by decide)
  refine g_dastore X244 hx hZ V244 (i := 4) (by decide) (show (4 : Nat) < 12 by decide) hg (pc' := 77) rfl (hb hby d5_76) (fun T250 h250 X250 W250 N250 => ?_)
  have f251 := f245.other W250 hne
  have f252 := (by have q := (Keep.of_wr W250).1; exact Nat.le_trans f246 q : n0 ≤ h250.size)
  have f253 := f247.wr W250 (Or.inl (List.mem_of_getElem? (i := 0) rfl))
  have V250 : AD Z h250 ca [c00, c01, c02, d243, d249, c12, d227, d232, d237, c30, c31, c32] := N250
  refine g_iincC X250 hx (pc' := 80) (x := (1 : Int32)) (z := (2 : Int32)) rfl (hb hby d5_77) rfl (by decide) (l' := #[.val (.ref ta), .val (.int (4 : Int32)), .val (.int (3 : Int32)), .val (.ref ca), .val (.int (3 : Int32)), .val (.int (1 : Int32)), .val (.int (3 : Int32)), .val (.int (2 : Int32)), .val (.double t6), .second, .val (.int (6 : Int32)), .val (.int (2 : Int32))]) rfl ?_
  refine g_goto X250 hx (pc' := 50) (hb hby d5_80) (by decide) (by decide) ?_
  refine g_iload X250 hx (pc' := 52) rfl (hb hby d5_50) rfl ?_
  refine g_iload X250 hx (pc' := 54) rfl (hb hby d5_52) rfl ?_
  refine g_icmpN X250 hx (pcN := 57) (hb hby d5_54) rfl (show ¬ (¬ (2 : Int32) < (3 : Int32)) from by decide) ?_
  refine g_aloadN X250 hx (pc' := 58) rfl (hb hby d5_57) rfl rfl ?_
  refine g_iload X250 hx (pc' := 60) rfl (hb hby d5_58) rfl ?_
  refine g_iload X250 hx (pc' := 62) rfl (hb hby d5_60) rfl ?_
  refine g_iadd X250 hx (pc' := 63) rfl (hb hby d5_62) ?_
  refine g_normI (z := (5 : Int32)) (by decide) ?_
  refine g_dup2 X250 hx (pc' := 64) rfl (hb hby d5_63) rfl rfl ?_
  refine g_daload X250 hx hZ V250 (i := 5) (by decide) (show (5 : Nat) < 12 by decide) (v := c12) rfl (pc' := 65) rfl (hb hby d5_64) ?_
  refine g_dload X250 hx (pc' := 67) rfl (hb hby d5_65) rfl ?_
  refine g_aloadN X250 hx (pc' := 68) rfl (hb hby d5_67) rfl rfl ?_
  refine g_iload X250 hx (pc' := 70) rfl (hb hby d5_68) rfl ?_
  refine g_iload X250 hx (pc' := 72) rfl (hb hby d5_70) rfl ?_
  refine g_iadd X250 hx (pc' := 73) rfl (hb hby d5_72) ?_
  refine g_normI (z := (8 : Int32)) (by decide) ?_
  refine g_daload X250 hx hZ V250 (i := 8) (by decide) (show (8 : Nat) < 12 by decide) (v := d237) rfl (pc' := 74) rfl (hb hby d5_73) ?_
  have q254 : Dy (mt6 * mx22) 1074 (FP.dmul t6 d237) := dy_mul yt6 q237 (by decide) (own_mb bt6 bx22 (by decide)) (by decide)
  refine g_dmul X250 hx (pc' := 75) (z := (FP.dmul t6 d237)) rfl (hb hby d5_74) (dy_noNaN q254) rfl ?_
  refine g_absD (fun d254 hd254 => ?_)
  rw [← hd254] at q254
  obtain ⟨n254, en254⟩ : ∃ z : Int, z = mt6 * mx22 := ⟨_, rfl⟩
  rw [← en254] at q254
  have b254 : n254.natAbs ≤ 16384 := by rw [en254, Int.natAbs_mul]; exact Nat.le_trans (Nat.mul_le_mul bt6 bx22) (by decide)
  have q255 : Dy (mc12 - n254) 1074 (FP.dsub c12 d254) := dy_sub yc12 q254 (own_subb bc12 b254 (by decide)) (by decide)
  refine g_dsub X250 hx (pc' := 76) (z := (FP.dsub c12 d254)) rfl (hb hby d5_75) (dy_noNaN q255) rfl ?_
  refine g_absD (fun d255 hd255 => ?_)
  rw [← hd255] at q255
  obtain ⟨n255, en255⟩ : ∃ z : Int, z = mc12 - n254 := ⟨_, rfl⟩
  rw [← en255] at q255
  have b255 : n255.natAbs ≤ 65536 := by rw [en255]; exact Nat.le_trans (own_subl bc12 b254) (by decide)
  refine g_dastore X250 hx hZ V250 (i := 5) (by decide) (show (5 : Nat) < 12 by decide) hg (pc' := 77) rfl (hb hby d5_76) (fun T256 h256 X256 W256 N256 => ?_)
  have f257 := f251.other W256 hne
  have f258 := (by have q := (Keep.of_wr W256).1; exact Nat.le_trans f252 q : n0 ≤ h256.size)
  have f259 := f253.wr W256 (Or.inl (List.mem_of_getElem? (i := 0) rfl))
  have V256 : AD Z h256 ca [c00, c01, c02, d243, d249, d255, d227, d232, d237, c30, c31, c32] := N256
  refine g_iincC X256 hx (pc' := 80) (x := (2 : Int32)) (z := (3 : Int32)) rfl (hb hby d5_77) rfl (by decide) (l' := #[.val (.ref ta), .val (.int (4 : Int32)), .val (.int (3 : Int32)), .val (.ref ca), .val (.int (3 : Int32)), .val (.int (1 : Int32)), .val (.int (3 : Int32)), .val (.int (2 : Int32)), .val (.double t6), .second, .val (.int (6 : Int32)), .val (.int (3 : Int32))]) rfl ?_
  refine g_goto X256 hx (pc' := 50) (hb hby d5_80) (by decide) (by decide) ?_
  refine g_iload X256 hx (pc' := 52) rfl (hb hby d5_50) rfl ?_
  refine g_iload X256 hx (pc' := 54) rfl (hb hby d5_52) rfl ?_
  refine g_icmpY X256 hx (pcY := 83) (hb hby d5_54) (by decide) (by decide) (show ¬ (3 : Int32) < (3 : Int32) from by decide) ?_
  refine g_iincC X256 hx (pc' := 86) (x := (2 : Int32)) (z := (3 : Int32)) rfl (hb hby d5_83) rfl (by decide) (l' := #[.val (.ref ta), .val (.int (4 : Int32)), .val (.int (3 : Int32)), .val (.ref ca), .val (.int (3 : Int32)), .val (.int (1 : Int32)), .val (.int (3 : Int32)), .val (.int (3 : Int32)), .val (.double t6), .second, .val (.int (6 : Int32)), .val (.int (3 : Int32))]) rfl ?_
  refine g_goto X256 hx (pc' := 23) (hb hby d5_86) (by decide) (by decide) ?_
  refine g_iload X256 hx (pc' := 25) rfl (hb hby d5_23) rfl ?_
  refine g_iloadN X256 hx (pc' := 26) rfl (hb hby d5_25) rfl ?_
  refine g_icmpY X256 hx (pcY := 89) (hb hby d5_26) (by decide) (by decide) (show ¬ (3 : Int32) < (3 : Int32) from by decide) ?_
  refine g_aloadN X256 hx (pc' := 90) rfl (hb hby d5_89) rfl rfl ?_
  refine g_iload X256 hx (pc' := 92) rfl (hb hby d5_90) rfl ?_
  refine g_iloadN X256 hx (pc' := 93) rfl (hb hby d5_92) rfl ?_
  refine g_imul X256 hx (pc' := 94) rfl (hb hby d5_93) ?_
  refine g_normI (z := (4 : Int32)) (by decide) ?_
  refine g_iload X256 hx (pc' := 96) rfl (hb hby d5_94) rfl ?_
  refine g_iadd X256 hx (pc' := 97) rfl (hb hby d5_96) ?_
  refine g_normI (z := (5 : Int32)) (by decide) ?_
  refine g_daload X256 hx hZ f257 (i := 5) (by decide) (show (5 : Nat) < 16 by decide) (v := t5) rfl (pc' := 98) rfl (hb hby d5_97) ?_
  refine g_dstore X256 hx (pc' := 100) rfl (hb hby d5_98) (l' := #[.val (.ref ta), .val (.int (4 : Int32)), .val (.int (3 : Int32)), .val (.ref ca), .val (.int (3 : Int32)), .val (.int (1 : Int32)), .val (.int (3 : Int32)), .val (.double t5), .second, .unset, .val (.int (6 : Int32)), .val (.int (3 : Int32))]) rfl ?_
  refine g_iconst X256 hx (pc' := 101) (z := (0 : Int32)) rfl (hb hby d5_100) rfl ?_
  refine g_istore X256 hx (pc' := 103) rfl (hb hby d5_101) (l' := #[.val (.ref ta), .val (.int (4 : Int32)), .val (.int (3 : Int32)), .val (.ref ca), .val (.int (3 : Int32)), .val (.int (1 : Int32)), .val (.int (3 : Int32)), .val (.double t5), .second, .val (.int (0 : Int32)), .val (.int (6 : Int32)), .val (.int (3 : Int32))]) rfl ?_
  refine g_iload X256 hx (pc' := 105) rfl (hb hby d5_103) rfl ?_
  refine g_iload X256 hx (pc' := 107) rfl (hb hby d5_105) rfl ?_
  refine g_icmpN X256 hx (pcN := 110) (hb hby d5_107) rfl (show ¬ (¬ (0 : Int32) < (3 : Int32)) from by decide) ?_
  refine g_aloadN X256 hx (pc' := 111) rfl (hb hby d5_110) rfl rfl ?_
  refine g_iload X256 hx (pc' := 113) rfl (hb hby d5_111) rfl ?_
  refine g_iload X256 hx (pc' := 115) rfl (hb hby d5_113) rfl ?_
  refine g_iadd X256 hx (pc' := 116) rfl (hb hby d5_115) ?_
  refine g_normI (z := (3 : Int32)) (by decide) ?_
  refine g_dup2 X256 hx (pc' := 117) rfl (hb hby d5_116) rfl rfl ?_
  refine g_daload X256 hx hZ V256 (i := 3) (by decide) (show (3 : Nat) < 12 by decide) (v := d243) rfl (pc' := 118) rfl (hb hby d5_117) ?_
  refine g_dload X256 hx (pc' := 120) rfl (hb hby d5_118) rfl ?_
  have q260 : Dy mx10 1074 (FP.ddiv d243 t5) := dy_div q243 yt5 hz5 (by rw [en243, en242]; exact own_g1 ec10) rfl (Nat.lt_of_le_of_lt bx10 (by decide)) (by decide)
  refine g_ddiv X256 hx (pc' := 121) (z := (FP.ddiv d243 t5)) rfl (hb hby d5_120) (dy_noNaN q260) rfl ?_
  refine g_absD (fun d260 hd260 => ?_)
  rw [← hd260] at q260
  refine g_dastore X256 hx hZ V256 (i := 3) (by decide) (show (3 : Nat) < 12 by decide) hg (pc' := 122) rfl (hb hby d5_121) (fun T261 h261 X261 W261 N261 => ?_)
  have f262 := f257.other W261 hne
  have f263 := (by have q := (Keep.of_wr W261).1; exact Nat.le_trans f258 q : n0 ≤ h261.size)
  have f264 := f259.wr W261 (Or.inl (List.mem_of_getElem? (i := 0) rfl))
  have V261 : AD Z h261 ca [c00, c01, c02, d260, d249, d255, d227, d232, d237, c30, c31, c32] := N261
  refine g_iincC X261 hx (pc' := 125) (x := (0 : Int32)) (z := (1 : Int32)) rfl (hb hby d5_122) rfl (by decide) (l' := #[.val (.ref ta), .val (.int (4 : Int32)), .val (.int (3 : Int32)), .val (.ref ca), .val (.int (3 : Int32)), .val (.int (1 : Int32)), .val (.int (3 : Int32)), .val (.double t5), .second, .val (.int (1 : Int32)), .val (.int (6 : Int32)), .val (.int (3 : Int32))]) rfl ?_
  refine g_goto X261 hx (pc' := 103) (hb hby d5_125) (by decide) (by decide) ?_
  refine g_iload X261 hx (pc' := 105) rfl (hb hby d5_103) rfl ?_
  refine g_iload X261 hx (pc' := 107) rfl (hb hby d5_105) rfl ?_
  refine g_icmpN X261 hx (pcN := 110) (hb hby d5_107) rfl (show ¬ (¬ (1 : Int32) < (3 : Int32)) from by decide) ?_
  refine g_aloadN X261 hx (pc' := 111) rfl (hb hby d5_110) rfl rfl ?_
  refine g_iload X261 hx (pc' := 113) rfl (hb hby d5_111) rfl ?_
  refine g_iload X261 hx (pc' := 115) rfl (hb hby d5_113) rfl ?_
  refine g_iadd X261 hx (pc' := 116) rfl (hb hby d5_115) ?_
  refine g_normI (z := (4 : Int32)) (by decide) ?_
  refine g_dup2 X261 hx (pc' := 117) rfl (hb hby d5_116) rfl rfl ?_
  refine g_daload X261 hx hZ V261 (i := 4) (by decide) (show (4 : Nat) < 12 by decide) (v := d249) rfl (pc' := 118) rfl (hb hby d5_117) ?_
  refine g_dload X261 hx (pc' := 120) rfl (hb hby d5_118) rfl ?_
  have q265 : Dy mx11 1074 (FP.ddiv d249 t5) := dy_div q249 yt5 hz5 (by rw [en249, en248]; exact own_g1 ec11) rfl (Nat.lt_of_le_of_lt bx11 (by decide)) (by decide)
  refine g_ddiv X261 hx (pc' := 121) (z := (FP.ddiv d249 t5)) rfl (hb hby d5_120) (dy_noNaN q265) rfl ?_
  refine g_absD (fun d265 hd265 => ?_)
  rw [← hd265] at q265
  refine g_dastore X261 hx hZ V261 (i := 4) (by decide) (show (4 : Nat) < 12 by decide) hg (pc' := 122) rfl (hb hby d5_121) (fun T266 h266 X266 W266 N266 => ?_)
  have f267 := f262.other W266 hne
  have f268 := (by have q := (Keep.of_wr W266).1; exact Nat.le_trans f263 q : n0 ≤ h266.size)
  have f269 := f264.wr W266 (Or.inl (List.mem_of_getElem? (i := 0) rfl))
  have V266 : AD Z h266 ca [c00, c01, c02, d260, d265, d255, d227, d232, d237, c30, c31, c32] := N266
  refine g_iincC X266 hx (pc' := 125) (x := (1 : Int32)) (z := (2 : Int32)) rfl (hb hby d5_122) rfl (by decide) (l' := #[.val (.ref ta), .val (.int (4 : Int32)), .val (.int (3 : Int32)), .val (.ref ca), .val (.int (3 : Int32)), .val (.int (1 : Int32)), .val (.int (3 : Int32)), .val (.double t5), .second, .val (.int (2 : Int32)), .val (.int (6 : Int32)), .val (.int (3 : Int32))]) rfl ?_
  refine g_goto X266 hx (pc' := 103) (hb hby d5_125) (by decide) (by decide) ?_
  refine g_iload X266 hx (pc' := 105) rfl (hb hby d5_103) rfl ?_
  refine g_iload X266 hx (pc' := 107) rfl (hb hby d5_105) rfl ?_
  refine g_icmpN X266 hx (pcN := 110) (hb hby d5_107) rfl (show ¬ (¬ (2 : Int32) < (3 : Int32)) from by decide) ?_
  refine g_aloadN X266 hx (pc' := 111) rfl (hb hby d5_110) rfl rfl ?_
  refine g_iload X266 hx (pc' := 113) rfl (hb hby d5_111) rfl ?_
  refine g_iload X266 hx (pc' := 115) rfl (hb hby d5_113) rfl ?_
  refine g_iadd X266 hx (pc' := 116) rfl (hb hby d5_115) ?_
  refine g_normI (z := (5 : Int32)) (by decide) ?_
  refine g_dup2 X266 hx (pc' := 117) rfl (hb hby d5_116) rfl rfl ?_
  refine g_daload X266 hx hZ V266 (i := 5) (by decide) (show (5 : Nat) < 12 by decide) (v := d255) rfl (pc' := 118) rfl (hb hby d5_117) ?_
  refine g_dload X266 hx (pc' := 120) rfl (hb hby d5_118) rfl ?_
  have q270 : Dy mx12 1074 (FP.ddiv d255 t5) := dy_div q255 yt5 hz5 (by rw [en255, en254]; exact own_g1 ec12) rfl (Nat.lt_of_le_of_lt bx12 (by decide)) (by decide)
  refine g_ddiv X266 hx (pc' := 121) (z := (FP.ddiv d255 t5)) rfl (hb hby d5_120) (dy_noNaN q270) rfl ?_
  refine g_absD (fun d270 hd270 => ?_)
  rw [← hd270] at q270
  refine g_dastore X266 hx hZ V266 (i := 5) (by decide) (show (5 : Nat) < 12 by decide) hg (pc' := 122) rfl (hb hby d5_121) (fun T271 h271 X271 W271 N271 => ?_)
  have f272 := f267.other W271 hne
  have f273 := (by have q := (Keep.of_wr W271).1; exact Nat.le_trans f268 q : n0 ≤ h271.size)
  have f274 := f269.wr W271 (Or.inl (List.mem_of_getElem? (i := 0) rfl))
  have V271 : AD Z h271 ca [c00, c01, c02, d260, d265, d270, d227, d232, d237, c30, c31, c32] := N271
  refine g_iincC X271 hx (pc' := 125) (x := (2 : Int32)) (z := (3 : Int32)) rfl (hb hby d5_122) rfl (by decide) (l' := #[.val (.ref ta), .val (.int (4 : Int32)), .val (.int (3 : Int32)), .val (.ref ca), .val (.int (3 : Int32)), .val (.int (1 : Int32)), .val (.int (3 : Int32)), .val (.double t5), .second, .val (.int (3 : Int32)), .val (.int (6 : Int32)), .val (.int (3 : Int32))]) rfl ?_
  refine g_goto X271 hx (pc' := 103) (hb hby d5_125) (by decide) (by decide) ?_
  refine g_iload X271 hx (pc' := 105) rfl (hb hby d5_103) rfl ?_
  refine g_iload X271 hx (pc' := 107) rfl (hb hby d5_105) rfl ?_
  refine g_icmpY X271 hx (pcY := 128) (hb hby d5_107) (by decide) (by decide) (show ¬ (3 : Int32) < (3 : Int32) from by decide) ?_
  refine g_iincC X271 hx (pc' := 131) (x := (1 : Int32)) (z := (0 : Int32)) rfl (hb hby d5_128) rfl (by decide) (l' := #[.val (.ref ta), .val (.int (4 : Int32)), .val (.int (3 : Int32)), .val (.ref ca), .val (.int (3 : Int32)), .val (.int (0 : Int32)), .val (.int (3 : Int32)), .val (.double t5), .second, .val (.int (3 : Int32)), .val (.int (6 : Int32)), .val (.int (3 : Int32))]) rfl ?_
  refine g_goto X271 hx (pc' := 5) (hb hby d5_131) (by decide) (by decide) ?_
  refine g_iload X271 hx (pc' := 7) rfl (hb hby d5_5) rfl ?_
  refine g_ifN X271 hx (pcN := 10) (hb hby d5_7) rfl (show ¬ ((0 : Int32) < 0) from by decide) ?_
  refine g_iload X271 hx (pc' := 12) rfl (hb hby d5_10) rfl ?_
  refine g_iload X271 hx (pc' := 14) rfl (hb hby d5_12) rfl ?_
  refine g_imul X271 hx (pc' := 15) rfl (hb hby d5_14) ?_
  refine g_normI (z := (0 : Int32)) (by decide) ?_
  refine g_istore X271 hx (pc' := 17) rfl (hb hby d5_15) (l' := #[.val (.ref ta), .val (.int (4 : Int32)), .val (.int (3 : Int32)), .val (.ref ca), .val (.int (3 : Int32)), .val (.int (0 : Int32)), .val (.int (0 : Int32)), .val (.double t5), .second, .val (.int (3 : Int32)), .val (.int (6 : Int32)), .val (.int (3 : Int32))]) rfl ?_
  refine g_iload X271 hx (pc' := 19) rfl (hb hby d5_17) rfl ?_
  refine g_iconst X271 hx (pc' := 20) (z := (1 : Int32)) rfl (hb hby d5_19) rfl ?_
  refine g_iadd X271 hx (pc' := 21) rfl (hb hby d5_20) ?_
  refine g_normI (z := (1 : Int32)) (by decide) ?_
  refine g_istore X271 hx (pc' := 23) rfl (hb hby d5_21) (l' := #[.val (.ref ta), .val (.int (4 : Int32)), .val (.int (3 : Int32)), .val (.ref ca), .val (.int (3 : Int32)), .val (.int (0 : Int32)), .val (.int (0 : Int32)), .val (.int (1 : Int32)), .unset, .val (.int (3 : Int32)), .val (.int (6 : Int32)), .val (.int (3 : Int32))]) rfl ?_
  refine g_iload X271 hx (pc' := 25) rfl (hb hby d5_23) rfl ?_
  refine g_iloadN X271 hx (pc' := 26) rfl (hb hby d5_25) rfl ?_
  refine g_icmpN X271 hx (pcN := 29) (hb hby d5_26) rfl (show ¬ (¬ (1 : Int32) < (3 : Int32)) from by decide) ?_
  refine g_aloadN X271 hx (pc' := 30) rfl (hb hby d5_29) rfl rfl ?_
  refine g_iload X271 hx (pc' := 32) rfl (hb hby d5_30) rfl ?_
  refine g_iloadN X271 hx (pc' := 33) rfl (hb hby d5_32) rfl ?_
  refine g_imul X271 hx (pc' := 34) rfl (hb hby d5_33) ?_
  refine g_normI (z := (0 : Int32)) (by decide) ?_
  refine g_iload X271 hx (pc' := 36) rfl (hb hby d5_34) rfl ?_
  refine g_iadd X271 hx (pc' := 37) rfl (hb hby d5_36) ?_
  refine g_normI (z := (1 : Int32)) (by decide) ?_
  refine g_daload X271 hx hZ f272 (i := 1) (by decide) (show (1 : Nat) < 16 by decide) (v := t1) rfl (pc' := 38) rfl (hb hby d5_37) ?_
  refine g_dstore X271 hx (pc' := 40) rfl (hb hby d5_38) (l' := #[.val (.ref ta), .val (.int (4 : Int32)), .val (.int (3 : Int32)), .val (.ref ca), .val (.int (3 : Int32)), .val (.int (0 : Int32)), .val (.int (0 : Int32)), .val (.int (1 : Int32)), .val (.double t1), .second, .val (.int (6 : Int32)), .val (.int (3 : Int32))]) rfl ?_
  refine g_iload X271 hx (pc' := 42) rfl (hb hby d5_40) rfl ?_
  refine g_iload X271 hx (pc' := 44) rfl (hb hby d5_42) rfl ?_
  refine g_imul X271 hx (pc' := 45) rfl (hb hby d5_44) ?_
  refine g_normI (z := (3 : Int32)) (by decide) ?_
  refine g_istore X271 hx (pc' := 47) rfl (hb hby d5_45) (l' := #[.val (.ref ta), .val (.int (4 : Int32)), .val (.int (3 : Int32)), .val (.ref ca), .val (.int (3 : Int32)), .val (.int (0 : Int32)), .val (.int (0 : Int32)), .val (.int (1 : Int32)), .val (.double t1), .second, .val (.int (3 : Int32)), .val (.int (3 : Int32))]) rfl ?_
  refine g_iconst X271 hx (pc' := 48) (z := (0 : Int32)) rfl (hb hby d5_47) rfl ?_
  refine g_istore X271 hx (pc' := 50) rfl (hb hby d5_48) (l' := #[.val (.ref ta), .val (.int (4 : Int32)), .val (.int (3 : Int32)), .val (.ref ca), .val (.int (3 : Int32)), .val (.int (0 : Int32)), .val (.int (0 : Int32)), .val (.int (1 : Int32)), .val (.double t1), .second, .val (.int (3 : Int32)), .val (.int (0 : Int32))]) rfl ?_
  refine g_iload X271 hx (pc' := 52) rfl (hb hby d5_50) rfl ?_
  refine g_iload X271 hx (pc' := 54) rfl (hb hby d5_52) rfl ?_
  refine g_icmpN X271 hx (pcN := 57) (hb hby d5_54) rfl (show ¬ (¬ (0 : Int32) < (3 : Int32)) from by decide) ?_
  refine g_aloadN X271 hx (pc' := 58) rfl (hb hby d5_57) rfl rfl ?_
  refine g_iload X271 hx (pc' := 60) rfl (hb hby d5_58) rfl ?_
  refine g_iload X271 hx (pc' := 62) rfl (hb hby d5_60) rfl ?_
  refine g_iadd X271 hx (pc' := 63) rfl (hb hby d5_62) ?_
  refine g_normI (z := (0 : Int32)) (by decide) ?_
  refine g_dup2 X271 hx (pc' := 64) rfl (hb hby d5_63) rfl rfl ?_
  refine g_daload X271 hx hZ V271 (i := 0) (by decide) (show (0 : Nat) < 12 by decide) (v := c00) rfl (pc' := 65) rfl (hb hby d5_64) ?_
  refine g_dload X271 hx (pc' := 67) rfl (hb hby d5_65) rfl ?_
  refine g_aloadN X271 hx (pc' := 68) rfl (hb hby d5_67) rfl rfl ?_
  refine g_iload X271 hx (pc' := 70) rfl (hb hby d5_68) rfl ?_
  refine g_iload X271 hx (pc' := 72) rfl (hb hby d5_70) rfl ?_
  refine g_iadd X271 hx (pc' := 73) rfl (hb hby d5_72) ?_
  refine g_normI (z := (3 : Int32)) (by decide) ?_
  refine g_daload X271 hx hZ V271 (i := 3) (by decide) (show (3 : Nat) < 12 by decide) (v := d260) rfl (pc' := 74) rfl (hb hby d5_73) ?_
  have q275 : Dy (mt1 * mx10) 1074 (FP.dmul t1 d260) := dy_mul yt1 q260 (by decide) (own_mb bt1 bx10 (by decide)) (by decide)
  refine g_dmul X271 hx (pc' := 75) (z := (FP.dmul t1 d260)) rfl (hb hby d5_74) (dy_noNaN q275) rfl ?_
  refine g_absD (fun d275 hd275 => ?_)
  rw [← hd275] at q275
  obtain ⟨n275, en275⟩ : ∃ z : Int, z = mt1 * mx10 := ⟨_, rfl⟩
  rw [← en275] at q275
  have b275 : n275.natAbs ≤ 16384 := by rw [en275, Int.natAbs_mul]; exact Nat.le_trans (Nat.mul_le_mul bt1 bx10) (by decide)
  have q276 : Dy (mc00 - n275) 1074 (FP.dsub c00 d275) := dy_sub yc00 q275 (own_subb bc00 b275 (by decide)) (by decide)
  refine g_dsub X271 hx (pc' := 76) (z := (FP.dsub c00 d275)) rfl (hb hby d5_75) (dy_noNaN q276) rfl ?_
  refine g_absD (fun d276 hd276 => ?_)
  rw [← hd276] at q276
  obtain ⟨n276, en276⟩ : ∃ z : Int, z = mc00 - n275 := ⟨_, rfl⟩
  rw [← en276] at q276
  have b276 : n276.natAbs ≤ 65536 := by rw [en276]; exact Nat.le_trans (own_subl bc00 b275) (by decide)
  refine g_dastore X271 hx hZ V271 (i := 0) (by decide) (show (0 : Nat) < 12 by decide) hg (pc' := 77) rfl (hb hby d5_76) (fun T277 h277 X277 W277 N277 => ?_)
  have f278 := f272.other W277 hne
  have f279 := (by have q := (Keep.of_wr W277).1; exact Nat.le_trans f273 q : n0 ≤ h277.size)
  have f280 := f274.wr W277 (Or.inl (List.mem_of_getElem? (i := 0) rfl))
  have V277 : AD Z h277 ca [d276, c01, c02, d260, d265, d270, d227, d232, d237, c30, c31, c32] := N277
  refine g_iincC X277 hx (pc' := 80) (x := (0 : Int32)) (z := (1 : Int32)) rfl (hb hby d5_77) rfl (by decide) (l' := #[.val (.ref ta), .val (.int (4 : Int32)), .val (.int (3 : Int32)), .val (.ref ca), .val (.int (3 : Int32)), .val (.int (0 : Int32)), .val (.int (0 : Int32)), .val (.int (1 : Int32)), .val (.double t1), .second, .val (.int (3 : Int32)), .val (.int (1 : Int32))]) rfl ?_
  refine g_goto X277 hx (pc' := 50) (hb hby d5_80) (by decide) (by decide) ?_
  refine g_iload X277 hx (pc' := 52) rfl (hb hby d5_50) rfl ?_
  refine g_iload X277 hx (pc' := 54) rfl (hb hby d5_52) rfl ?_
  refine g_icmpN X277 hx (pcN := 57) (hb hby d5_54) rfl (show ¬ (¬ (1 : Int32) < (3 : Int32)) from by decide) ?_
  refine g_aloadN X277 hx (pc' := 58) rfl (hb hby d5_57) rfl rfl ?_
  refine g_iload X277 hx (pc' := 60) rfl (hb hby d5_58) rfl ?_
  refine g_iload X277 hx (pc' := 62) rfl (hb hby d5_60) rfl ?_
  refine g_iadd X277 hx (pc' := 63) rfl (hb hby d5_62) ?_
  refine g_normI (z := (1 : Int32)) (by decide) ?_
  refine g_dup2 X277 hx (pc' := 64) rfl (hb hby d5_63) rfl rfl ?_
  refine g_daload X277 hx hZ V277 (i := 1) (by decide) (show (1 : Nat) < 12 by decide) (v := c01) rfl (pc' := 65) rfl (hb hby d5_64) ?_
  refine g_dload X277 hx (pc' := 67) rfl (hb hby d5_65) rfl ?_
  refine g_aloadN X277 hx (pc' := 68) rfl (hb hby d5_67) rfl rfl ?_
  refine g_iload X277 hx (pc' := 70) rfl (hb hby d5_68) rfl ?_
  refine g_iload X277 hx (pc' := 72) rfl (hb hby d5_70) rfl ?_
  refine g_iadd X277 hx (pc' := 73) rfl (hb hby d5_72) ?_
  refine g_normI (z := (4 : Int32)) (by decide) ?_
  refine g_daload X277 hx hZ V277 (i := 4) (by decide) (show (4 : Nat) < 12 by decide) (v := d265) rfl (pc' := 74) rfl (hb hby d5_73) ?_
  have q281 : Dy (mt1 * mx11) 1074 (FP.dmul t1 d265) := dy_mul yt1 q265 (by decide) (own_mb bt1 bx11 (by decide)) (by decide)
  refine g_dmul X277 hx (pc' := 75) (z := (FP.dmul t1 d265)) rfl (hb hby d5_74) (dy_noNaN q281) rfl ?_
  refine g_absD (fun d281 hd281 => ?_)
  rw [← hd281] at q281
  obtain ⟨n281, en281⟩ : ∃ z : Int, z = mt1 * mx11 := ⟨_, rfl⟩
  rw [← en281] at q281
  have b281 : n281.natAbs ≤ 16384 := by rw [en281, Int.natAbs_mul]; exact Nat.le_trans (Nat.mul_le_mul bt1 bx11) (by decide)
  have q282 : Dy (mc01 - n281) 1074 (FP.dsub c01 d281) := dy_sub yc01 q281 (own_subb bc01 b281 (by decide)) (by decide)
  refine g_dsub X277 hx (pc' := 76) (z := (FP.dsub c01 d281)) rfl (hb hby d5_75) (dy_noNaN q282) rfl ?_
  refine g_absD (fun d282 hd282 => ?_)
  rw [← hd282] at q282
  obtain ⟨n282, en282⟩ : ∃ z : Int, z = mc01 - n281 := ⟨_, rfl⟩
  rw [← en282] at q282
  have b282 : n282.natAbs ≤ 65536 := by rw [en282]; exact Nat.le_trans (own_subl bc01 b281) (by decide)
  refine g_dastore X277 hx hZ V277 (i := 1) (by decide) (show (1 : Nat) < 12 by decide) hg (pc' := 77) rfl (hb hby d5_76) (fun T283 h283 X283 W283 N283 => ?_)
  have f284 := f278.other W283 hne
  have f285 := (by have q := (Keep.of_wr W283).1; exact Nat.le_trans f279 q : n0 ≤ h283.size)
  have f286 := f280.wr W283 (Or.inl (List.mem_of_getElem? (i := 0) rfl))
  have V283 : AD Z h283 ca [d276, d282, c02, d260, d265, d270, d227, d232, d237, c30, c31, c32] := N283
  refine g_iincC X283 hx (pc' := 80) (x := (1 : Int32)) (z := (2 : Int32)) rfl (hb hby d5_77) rfl (by decide) (l' := #[.val (.ref ta), .val (.int (4 : Int32)), .val (.int (3 : Int32)), .val (.ref ca), .val (.int (3 : Int32)), .val (.int (0 : Int32)), .val (.int (0 : Int32)), .val (.int (1 : Int32)), .val (.double t1), .second, .val (.int (3 : Int32)), .val (.int (2 : Int32))]) rfl ?_
  refine g_goto X283 hx (pc' := 50) (hb hby d5_80) (by decide) (by decide) ?_
  refine g_iload X283 hx (pc' := 52) rfl (hb hby d5_50) rfl ?_
  refine g_iload X283 hx (pc' := 54) rfl (hb hby d5_52) rfl ?_
  refine g_icmpN X283 hx (pcN := 57) (hb hby d5_54) rfl (show ¬ (¬ (2 : Int32) < (3 : Int32)) from by decide) ?_
  refine g_aloadN X283 hx (pc' := 58) rfl (hb hby d5_57) rfl rfl ?_
  refine g_iload X283 hx (pc' := 60) rfl (hb hby d5_58) rfl ?_
  refine g_iload X283 hx (pc' := 62) rfl (hb hby d5_60) rfl ?_
  refine g_iadd X283 hx (pc' := 63) rfl (hb hby d5_62) ?_
  refine g_normI (z := (2 : Int32)) (by decide) ?_
  refine g_dup2 X283 hx (pc' := 64) rfl (hb hby d5_63) rfl rfl ?_
  refine g_daload X283 hx hZ V283 (i := 2) (by decide) (show (2 : Nat) < 12 by decide) (v := c02) rfl (pc' := 65) rfl (hb hby d5_64) ?_
  refine g_dload X283 hx (pc' := 67) rfl (hb hby d5_65) rfl ?_
  refine g_aloadN X283 hx (pc' := 68) rfl (hb hby d5_67) rfl rfl ?_
  refine g_iload X283 hx (pc' := 70) rfl (hb hby d5_68) rfl ?_
  refine g_iload X283 hx (pc' := 72) rfl (hb hby d5_70) rfl ?_
  refine g_iadd X283 hx (pc' := 73) rfl (hb hby d5_72) ?_
  refine g_normI (z := (5 : Int32)) (by decide) ?_
  refine g_daload X283 hx hZ V283 (i := 5) (by decide) (show (5 : Nat) < 12 by decide) (v := d270) rfl (pc' := 74) rfl (hb hby d5_73) ?_
  have q287 : Dy (mt1 * mx12) 1074 (FP.dmul t1 d270) := dy_mul yt1 q270 (by decide) (own_mb bt1 bx12 (by decide)) (by decide)
  refine g_dmul X283 hx (pc' := 75) (z := (FP.dmul t1 d270)) rfl (hb hby d5_74) (dy_noNaN q287) rfl ?_
  refine g_absD (fun d287 hd287 => ?_)
  rw [← hd287] at q287
  obtain ⟨n287, en287⟩ : ∃ z : Int, z = mt1 * mx12 := ⟨_, rfl⟩
  rw [← en287] at q287
  have b287 : n287.natAbs ≤ 16384 := by rw [en287, Int.natAbs_mul]; exact Nat.le_trans (Nat.mul_le_mul bt1 bx12) (by decide)
  have q288 : Dy (mc02 - n287) 1074 (FP.dsub c02 d287) := dy_sub yc02 q287 (own_subb bc02 b287 (by decide)) (by decide)
  refine g_dsub X283 hx (pc' := 76) (z := (FP.dsub c02 d287)) rfl (hb hby d5_75) (dy_noNaN q288) rfl ?_
  refine g_absD (fun d288 hd288 => ?_)
  rw [← hd288] at q288
  obtain ⟨n288, en288⟩ : ∃ z : Int, z = mc02 - n287 := ⟨_, rfl⟩
  rw [← en288] at q288
  have b288 : n288.natAbs ≤ 65536 := by rw [en288]; exact Nat.le_trans (own_subl bc02 b287) (by decide)
  refine g_dastore X283 hx hZ V283 (i := 2) (by decide) (show (2 : Nat) < 12 by decide) hg (pc' := 77) rfl (hb hby d5_76) (fun T289 h289 X289 W289 N289 => ?_)
  have f290 := f284.other W289 hne
  have f291 := (by have q := (Keep.of_wr W289).1; exact Nat.le_trans f285 q : n0 ≤ h289.size)
  have f292 := f286.wr W289 (Or.inl (List.mem_of_getElem? (i := 0) rfl))
  have V289 : AD Z h289 ca [d276, d282, d288, d260, d265, d270, d227, d232, d237, c30, c31, c32] := N289
  refine g_iincC X289 hx (pc' := 80) (x := (2 : Int32)) (z := (3 : Int32)) rfl (hb hby d5_77) rfl (by decide) (l' := #[.val (.ref ta), .val (.int (4 : Int32)), .val (.int (3 : Int32)), .val (.ref ca), .val (.int (3 : Int32)), .val (.int (0 : Int32)), .val (.int (0 : Int32)), .val (.int (1 : Int32)), .val (.double t1), .second, .val (.int (3 : Int32)), .val (.int (3 : Int32))]) rfl ?_
  refine g_goto X289 hx (pc' := 50) (hb hby d5_80) (by decide) (by decide) ?_
  refine g_iload X289 hx (pc' := 52) rfl (hb hby d5_50) rfl ?_
  refine g_iload X289 hx (pc' := 54) rfl (hb hby d5_52) rfl ?_
  refine g_icmpY X289 hx (pcY := 83) (hb hby d5_54) (by decide) (by decide) (show ¬ (3 : Int32) < (3 : Int32) from by decide) ?_
  refine g_iincC X289 hx (pc' := 86) (x := (1 : Int32)) (z := (2 : Int32)) rfl (hb hby d5_83) rfl (by decide) (l' := #[.val (.ref ta), .val (.int (4 : Int32)), .val (.int (3 : Int32)), .val (.ref ca), .val (.int (3 : Int32)), .val (.int (0 : Int32)), .val (.int (0 : Int32)), .val (.int (2 : Int32)), .val (.double t1), .second, .val (.int (3 : Int32)), .val (.int (3 : Int32))]) rfl ?_
  refine g_goto X289 hx (pc' := 23) (hb hby d5_86) (by decide) (by decide) ?_
  refine g_iload X289 hx (pc' := 25) rfl (hb hby d5_23) rfl ?_
  refine g_iloadN X289 hx (pc' := 26) rfl (hb hby d5_25) rfl ?_
  refine g_icmpN X289 hx (pcN := 29) (hb hby d5_26) rfl (show ¬ (¬ (2 : Int32) < (3 : Int32)) from by decide) ?_
  refine g_aloadN X289 hx (pc' := 30) rfl (hb hby d5_29) rfl rfl ?_
  refine g_iload X289 hx (pc' := 32) rfl (hb hby d5_30) rfl ?_
  refine g_iloadN X289 hx (pc' := 33) rfl (hb hby d5_32) rfl ?_
  refine g_imul X289 hx (pc' := 34) rfl (hb hby d5_33) ?_
  refine g_normI (z := (0 : Int32)) (by decide) ?_
  refine g_iload X289 hx (pc' := 36) rfl (hb hby d5_34) rfl ?_
  refine g_iadd X289 hx (pc' := 37) rfl (hb hby d5_36) ?_
  refine g_normI (z := (2 : Int32)) (by decide) ?_
  refine g_daload X289 hx hZ f290 (i := 2) (by decide) (show (2 : Nat) < 16 by decide) (v := t2) rfl (pc' := 38) rfl (hb hby d5_37) ?_
  refine g_dstore X289 hx (pc' := 40) rfl (hb hby d5_38) (l' := #[.val (.ref ta), .val (.int (4 : Int32)), .val (.int (3 : Int32)), .val (.ref ca), .val (.int (3 : Int32)), .val (.int (0 : Int32)), .val (.int (0 : Int32)), .val (.int (2 : Int32)), .val (.double t2), .second, .val (.int (3 : Int32)), .val (.int (3 : Int32))]) rfl ?_
  refine g_iload X289 hx (pc' := 42) rfl (hb hby d5_40) rfl ?_
  refine g_iload X289 hx (pc' := 44) rfl (hb hby d5_42) rfl ?_
  refine g_imul X289 hx (pc' := 45) rfl (hb hby d5_44) ?_
  refine g_normI (z := (6 : Int32)) (by decide) ?_
  refine g_istore X289 hx (pc' := 47) rfl (hb hby d5_45) (l' := #[.val (.ref ta), .val (.int (4 : Int32)), .val (.int (3 : Int32)), .val (.ref ca), .val (.int (3 : Int32)), .val (.int (0 : Int32)), .val (.int (0 : Int32)), .val (.int (2 : Int32)), .val (.double t2), .second, .val (.int (6 : Int32)), .val (.int (3 : Int32))]) rfl ?_
  refine g_iconst X289 hx (pc' := 48) (z := (0 : Int32)) rfl (hb hby d5_47) rfl ?_
  refine g_istore X289 hx (pc' := 50) rfl (hb hby d5_48) (l' := #[.val (.ref ta), .val (.int (4 : Int32)), .val (.int (3 : Int32)), .val (.ref ca), .val (.int (3 : Int32)), .val (.int (0 : Int32)), .val (.int (0 : Int32)), .val (.int (2 : Int32)), .val (.double t2), .second, .val (.int (6 : Int32)), .val (.int (0 : Int32))]) rfl ?_
  refine g_iload X289 hx (pc' := 52) rfl (hb hby d5_50) rfl ?_
  refine g_iload X289 hx (pc' := 54) rfl (hb hby d5_52) rfl ?_
  refine g_icmpN X289 hx (pcN := 57) (hb hby d5_54) rfl (show ¬ (¬ (0 : Int32) < (3 : Int32)) from by decide) ?_
  refine g_aloadN X289 hx (pc' := 58) rfl (hb hby d5_57) rfl rfl ?_
  refine g_iload X289 hx (pc' := 60) rfl (hb hby d5_58) rfl ?_
  refine g_iload X289 hx (pc' := 62) rfl (hb hby d5_60) rfl ?_
  refine g_iadd X289 hx (pc' := 63) rfl (hb hby d5_62) ?_
  refine g_normI (z := (0 : Int32)) (by decide) ?_
  refine g_dup2 X289 hx (pc' := 64) rfl (hb hby d5_63) rfl rfl ?_
  refine g_daload X289 hx hZ V289 (i := 0) (by decide) (show (0 : Nat) < 12 by decide) (v := d276) rfl (pc' := 65) rfl (hb hby d5_64) ?_
  refine g_dload X289 hx (pc' := 67) rfl (hb hby d5_65) rfl ?_
  refine g_aloadN X289 hx (pc' := 68) rfl (hb hby d5_67) rfl rfl ?_
  refine g_iload X289 hx (pc' := 70) rfl (hb hby d5_68) rfl ?_
  refine g_iload X289 hx (pc' := 72) rfl (hb hby d5_70) rfl ?_
  refine g_iadd X289 hx (pc' := 73) rfl (hb hby d5_72) ?_
  refine g_normI (z := (6 : Int32)) (by decide) ?_
  refine g_daload X289 hx hZ V289 (i := 6) (by decide) (show (6 : Nat) < 12 by decide) (v := d227) rfl (pc' := 74) rfl (hb hby d5_73) ?_
  have q293 : Dy (mt2 * mx20) 1074 (FP.dmul t2 d227) := dy_mul yt2 q227 (by decide) (own_mb bt2 bx20 (by decide)) (by decide)
  refine g_dmul X289 hx (pc' := 75) (z := (FP.dmul t2 d227)) rfl (hb hby d5_74) (dy_noNaN q293) rfl ?_
  refine g_absD (fun d293 hd293 => ?_)
  rw [← hd293] at q293
  obtain ⟨n293, en293⟩ : ∃ z : Int, z = mt2 * mx20 := ⟨_, rfl⟩
  rw [← en293] at q293
  have b293 : n293.natAbs ≤ 16384 := by rw [en293, Int.natAbs_mul]; exact Nat.le_trans (Nat.mul_le_mul bt2 bx20) (by decide)
  have q294 : Dy (n276 - n293) 1074 (FP.dsub d276 d293) := dy_sub q276 q293 (own_subb b276 b293 (by decide)) (by decide)
  refine g_dsub X289 hx (pc' := 76) (z := (FP.dsub d276 d293)) rfl (hb hby d5_75) (dy_noNaN q294) rfl ?_
  refine g_absD (fun d294 hd294 => ?_)
  rw [← hd294] at q294
  obtain ⟨n294, en294⟩ : ∃ z : Int, z = n276 - n293 := ⟨_, rfl⟩
  rw [← en294] at q294
  have b294 : n294.natAbs ≤ 81920 := by rw [en294]; exact Nat.le_trans (own_subl b276 b293) (by decide)
  refine g_dastore X289 hx hZ V289 (i := 0) (by decide) (show (0 : Nat) < 12 by decide) hg (pc' := 77) rfl (hb hby d5_76) (fun T295 h295 X295 W295 N295 => ?_)
  have f296 := f290.other W295 hne
  have f297 := (by have q := (Keep.of_wr W295).1; exact Nat.le_trans f291 q : n0 ≤ h295.size)
  have f298 := f292.wr W295 (Or.inl (List.mem_of_getElem? (i := 0) rfl))
  have V295 : AD Z h295 ca [d294, d282, d288, d260, d265, d270, d227, d232, d237, c30, c31, c32] := N295
  refine g_iincC X295 hx (pc' := 80) (x := (0 : Int32)) (z := (1 : Int32)) rfl (hb hby d5_77) rfl (by decide) (l' := #[.val (.ref ta), .val (.int (4 : Int32)), .val (.int (3 : Int32)), .val (.ref ca), .val (.int (3 : Int32)), .val (.int (0 : Int32)), .val (.int (0 : Int32)), .val (.int (2 : Int32)), .val (.double t2), .second, .val (.int (6 : Int32)), .val (.int (1 : Int32))]) rfl ?_
  refine g_goto X295 hx (pc' := 50) (hb hby d5_80) (by decide) (by decide) ?_
  refine g_iload X295 hx (pc' := 52) rfl (hb hby d5_50) rfl ?_
  refine g_iload X295 hx (pc' := 54) rfl (hb hby d5_52) rfl ?_
  refine g_icmpN X295 hx (pcN := 57) (hb hby d5_54) rfl (show ¬ (¬ (1 : Int32) < (3 : Int32)) from by decide) ?_
  refine g_aloadN X295 hx (pc' := 58) rfl (hb hby d5_57) rfl rfl ?_
  refine g_iload X295 hx (pc' := 60) rfl (hb hby d5_58) rfl ?_
  refine g_iload X295 hx (pc' := 62) rfl (hb hby d5_60) rfl ?_
  refine g_iadd X295 hx (pc' := 63) rfl (hb hby d5_62) ?_
  refine g_normI (z := (1 : Int32)) (by decide) ?_
  refine g_dup2 X295 hx (pc' := 64) rfl (hb hby d5_63) rfl rfl ?_
  refine g_daload X295 hx hZ V295 (i := 1) (by decide) (show (1 : Nat) < 12 by decide) (v := d282) rfl (pc' := 65) rfl (hb hby d5_64) ?_
  refine g_dload X295 hx (pc' := 67) rfl (hb hby d5_65) rfl ?_
  refine g_aloadN X295 hx (pc' := 68) rfl (hb hby d5_67) rfl rfl ?_
  refine g_iload X295 hx (pc' := 70) rfl (hb hby d5_68) rfl ?_
  refine g_iload X295 hx (pc' := 72) rfl (hb hby d5_70) rfl ?_
  refine g_iadd X295 hx (pc' := 73) rfl (hb hby d5_72) ?_
  refine g_normI (z := (7 : Int32)) (by decide) ?_
  refine g_daload X295 hx hZ V295 (i := 7) (by decide) (show (7 : Nat) < 12 by decide) (v := d232) rfl (pc' := 74) rfl (hb hby d5_73) ?_
  have q299 : Dy (mt2 * mx21) 1074 (FP.dmul t2 d232) := dy_mul yt2 q232 (by decide) (own_mb bt2 bx21 (by decide)) (by decide)
  refine g_dmul X295 hx (pc' := 75) (z := (FP.dmul t2 d232)) rfl (hb hby d5_74) (dy_noNaN q299) rfl ?_
  refine g_absD (fun d299 hd299 => ?_)
  rw [← hd299] at q299
  obtain ⟨n299, en299⟩ : ∃ z : Int, z = mt2 * mx21 := ⟨_, rfl⟩
  rw [← en299] at q299
  have b299 : n299.natAbs ≤ 16384 := by rw [en299, Int.natAbs_mul]; exact Nat.le_trans (Nat.mul_le_mul bt2 bx21) (by decide)
  have q300 : Dy (n282 - n299) 1074 (FP.dsub d282 d299) := dy_sub q282 q299 (own_subb b282 b299 (by decide)) (by decide)
  refine g_dsub X295 hx (pc' := 76) (z := (FP.dsub d282 d299)) rfl (hb hby d5_75) (dy_noNaN q300) rfl ?_
  refine g_absD (fun d300 hd300 => ?_)
  rw [← hd300] at q300
  obtain ⟨n300, en300⟩ : ∃ z : Int, z = n282 - n299 := ⟨_, rfl⟩
  rw [← en300] at q300
  have b300 : n300.natAbs ≤ 81920 := by rw [en300]; exact Nat.le_trans (own_subl b282 b299) (by decide)
  refine g_dastore X295 hx hZ V295 (i := 1) (by decide) (show (1 : Nat) < 12 by decide) hg (pc' := 77) rfl (hb hby d5_76) (fun T301 h301 X301 W301 N301 => ?_)
  have f302 := f296.other W301 hne
  have f303 := (by have q := (Keep.of_wr W301).1; exact Nat.le_trans f297 q : n0 ≤ h301.size)
  have f304 := f298.wr W301 (Or.inl (List.mem_of_getElem? (i := 0) rfl))
  have V301 : AD Z h301 ca [d294, d300, d288, d260, d265, d270, d227, d232, d237, c30, c31, c32] := N301
  refine g_iincC X301 hx (pc' := 80) (x := (1 : Int32)) (z := (2 : Int32)) rfl (hb hby d5_77) rfl (by decide) (l' := #[.val (.ref ta), .val (.int (4 : Int32)), .val (.int (3 : Int32)), .val (.ref ca), .val (.int (3 : Int32)), .val (.int (0 : Int32)), .val (.int (0 : Int32)), .val (.int (2 : Int32)), .val (.double t2), .second, .val (.int (6 : Int32)), .val (.int (2 : Int32))]) rfl ?_
  refine g_goto X301 hx (pc' := 50) (hb hby d5_80) (by decide) (by decide) ?_
  refine g_iload X301 hx (pc' := 52) rfl (hb hby d5_50) rfl ?_
  refine g_iload X301 hx (pc' := 54) rfl (hb hby d5_52) rfl ?_
  refine g_icmpN X301 hx (pcN := 57) (hb hby d5_54) rfl (show ¬ (¬ (2 : Int32) < (3 : Int32)) from by decide) ?_
  refine g_aloadN X301 hx (pc' := 58) rfl (hb hby d5_57) rfl rfl ?_
  refine g_iload X301 hx (pc' := 60) rfl (hb hby d5_58) rfl ?_
  refine g_iload X301 hx (pc' := 62) rfl (hb hby d5_60) rfl ?_
  refine g_iadd X301 hx (pc' := 63) rfl (hb hby d5_62) ?_
  refine g_normI (z := (2 : Int32)) (by decide) ?_
  refine g_dup2 X301 hx (pc' := 64) rfl (hb hby d5_63) rfl rfl ?_
  refine g_daload X301 hx hZ V301 (i := 2) (by decide) (show (2 : Nat) < 12 by decide) (v := d288) rfl (pc' := 65) rfl (hb hby d5_64) ?_
  refine g_dload X301 hx (pc' := 67) rfl (hb hby d5_65) rfl ?_
  refine g_aloadN X301 hx (pc' := 68) rfl (hb hby d5_67) rfl rfl ?_
  refine g_iload X301 hx (pc' := 70) rfl (hb hby d5_68) rfl ?_
  refine g_iload X301 hx (pc' := 72) rfl (hb hby d5_70) rfl ?_
  refine g_iadd X301 hx (pc' := 73) rfl (hb hby d5_72) ?_
  refine g_normI (z := (8 : Int32)) (by decide) ?_
  refine g_daload X301 hx hZ V301 (i := 8) (by decide) (show (8 : Nat) < 12 by decide) (v := d237) rfl (pc' := 74) rfl (hb hby d5_73) ?_
  have q305 : Dy (mt2 * mx22) 1074 (FP.dmul t2 d237) := dy_mul yt2 q237 (by decide) (own_mb bt2 bx22 (by decide)) (by decide)
  refine g_dmul X301 hx (pc' := 75) (z := (FP.dmul t2 d237)) rfl (hb hby d5_74) (dy_noNaN q305) rfl ?_
  refine g_absD (fun d305 hd305 => ?_)
  rw [← hd305] at q305
  obtain ⟨n305, en305⟩ : ∃ z : Int, z = mt2 * mx22 := ⟨_, rfl⟩
  rw [← en305] at q305
  have b305 : n305.natAbs ≤ 16384 := by rw [en305, Int.natAbs_mul]; exact Nat.le_trans (Nat.mul_le_mul bt2 bx22) (by decide)
  have q306 : Dy (n288 - n305) 1074 (FP.dsub d288 d305) := dy_sub q288 q305 (own_subb b288 b305 (by decide)) (by decide)
  refine g_dsub X301 hx (pc' := 76) (z := (FP.dsub d288 d305)) rfl (hb hby d5_75) (dy_noNaN q306) rfl ?_
  refine g_absD (fun d306 hd306 => ?_)
  rw [← hd306] at q306
  obtain ⟨n306, en306⟩ : ∃ z : Int, z = n288 - n305 := ⟨_, rfl⟩
  rw [← en306] at q306
  have b306 : n306.natAbs ≤ 81920 := by rw [en306]; exact Nat.le_trans (own_subl b288 b305) (by decide)
  refine g_dastore X301 hx hZ V301 (i := 2) (by decide) (show (2 : Nat) < 12 by decide) hg (pc' := 77) rfl (hb hby d5_76) (fun T307 h307 X307 W307 N307 => ?_)
  have f308 := f302.other W307 hne
  have f309 := (by have q := (Keep.of_wr W307).1; exact Nat.le_trans f303 q : n0 ≤ h307.size)
  have f310 := f304.wr W307 (Or.inl (List.mem_of_getElem? (i := 0) rfl))
  have V307 : AD Z h307 ca [d294, d300, d306, d260, d265, d270, d227, d232, d237, c30, c31, c32] := N307
  refine g_iincC X307 hx (pc' := 80) (x := (2 : Int32)) (z := (3 : Int32)) rfl (hb hby d5_77) rfl (by decide) (l' := #[.val (.ref ta), .val (.int (4 : Int32)), .val (.int (3 : Int32)), .val (.ref ca), .val (.int (3 : Int32)), .val (.int (0 : Int32)), .val (.int (0 : Int32)), .val (.int (2 : Int32)), .val (.double t2), .second, .val (.int (6 : Int32)), .val (.int (3 : Int32))]) rfl ?_
  refine g_goto X307 hx (pc' := 50) (hb hby d5_80) (by decide) (by decide) ?_
  refine g_iload X307 hx (pc' := 52) rfl (hb hby d5_50) rfl ?_
  refine g_iload X307 hx (pc' := 54) rfl (hb hby d5_52) rfl ?_
  refine g_icmpY X307 hx (pcY := 83) (hb hby d5_54) (by decide) (by decide) (show ¬ (3 : Int32) < (3 : Int32) from by decide) ?_
  refine g_iincC X307 hx (pc' := 86) (x := (2 : Int32)) (z := (3 : Int32)) rfl (hb hby d5_83) rfl (by decide) (l' := #[.val (.ref ta), .val (.int (4 : Int32)), .val (.int (3 : Int32)), .val (.ref ca), .val (.int (3 : Int32)), .val (.int (0 : Int32)), .val (.int (0 : Int32)), .val (.int (3 : Int32)), .val (.double t2), .second, .val (.int (6 : Int32)), .val (.int (3 : Int32))]) rfl ?_
  refine g_goto X307 hx (pc' := 23) (hb hby d5_86) (by decide) (by decide) ?_
  refine g_iload X307 hx (pc' := 25) rfl (hb hby d5_23) rfl ?_
  refine g_iloadN X307 hx (pc' := 26) rfl (hb hby d5_25) rfl ?_
  refine g_icmpY X307 hx (pcY := 89) (hb hby d5_26) (by decide) (by decide) (show ¬ (3 : Int32) < (3 : Int32) from by decide) ?_
  refine g_aloadN X307 hx (pc' := 90) rfl (hb hby d5_89) rfl rfl ?_
  refine g_iload X307 hx (pc' := 92) rfl (hb hby d5_90) rfl ?_
  refine g_iloadN X307 hx (pc' := 93) rfl (hb hby d5_92) rfl ?_
  refine g_imul X307 hx (pc' := 94) rfl (hb hby d5_93) ?_
  refine g_normI (z := (0 : Int32)) (by decide) ?_
  refine g_iload X307 hx (pc' := 96) rfl (hb hby d5_94) rfl ?_
  refine g_iadd X307 hx (pc' := 97) rfl (hb hby d5_96) ?_
  refine g_normI (z := (0 : Int32)) (by decide) ?_
  refine g_daload X307 hx hZ f308 (i := 0) (by decide) (show (0 : Nat) < 16 by decide) (v := t0) rfl (pc' := 98) rfl (hb hby d5_97) ?_
  refine g_dstore X307 hx (pc' := 100) rfl (hb hby d5_98) (l' := #[.val (.ref ta), .val (.int (4 : Int32)), .val (.int (3 : Int32)), .val (.ref ca), .val (.int (3 : Int32)), .val (.int (0 : Int32)), .val (.int (0 : Int32)), .val (.double t0), .second, .unset, .val (.int (6 : Int32)), .val (.int (3 : Int32))]) rfl ?_
  refine g_iconst X307 hx (pc' := 101) (z := (0 : Int32)) rfl (hb hby d5_100) rfl ?_
  refine g_istore X307 hx (pc' := 103) rfl (hb hby d5_101) (l' := #[.val (.ref ta), .val (.int (4 : Int32)), .val (.int (3 : Int32)), .val (.ref ca), .val (.int (3 : Int32)), .val (.int (0 : Int32)), .val (.int (0 : Int32)), .val (.double t0), .second, .val (.int (0 : Int32)), .val (.int (6 : Int32)), .val (.int (3 : Int32))]) rfl ?_
  refine g_iload X307 hx (pc' := 105) rfl (hb hby d5_103) rfl ?_
  refine g_iload X307 hx (pc' := 107) rfl (hb hby d5_105) rfl ?_
  refine g_icmpN X307 hx (pcN := 110) (hb hby d5_107) rfl (show ¬ (¬ (0 : Int32) < (3 : Int32)) from by decide) ?_
  refine g_aloadN X307 hx (pc' := 111) rfl (hb hby d5_110) rfl rfl ?_
  refine g_iload X307 hx (pc' := 113) rfl (hb hby d5_111) rfl ?_
  refine g_iload X307 hx (pc' := 115) rfl (hb hby d5_113) rfl ?_
  refine g_iadd X307 hx (pc' := 116) rfl (hb hby d5_115) ?_
  refine g_normI (z := (0 : Int32)) (by decide) ?_
  refine g_dup2 X307 hx (pc' := 117) rfl (hb hby d5_116) rfl rfl ?_
  refine g_daload X307 hx hZ V307 (i := 0) (by decide) (show (0 : Nat) < 12 by decide) (v := d294) rfl (pc' := 118) rfl (hb hby d5_117) ?_
  refine g_dload X307 hx (pc' := 120) rfl (hb hby d5_118) rfl ?_
  have q311 : Dy mx00 1074 (FP.ddiv d294 t0) := dy_div q294 yt0 hz0 (by rw [en294, en276, en275, en293]; exact own_g2 ec00) rfl (Nat.lt_of_le_of_lt bx00 (by decide)) (by decide)
  refine g_ddiv X307 hx (pc' := 121) (z := (FP.ddiv d294 t0)) rfl (hb hby d5_120) (dy_noNaN q311) rfl ?_
  refine g_absD (fun d311 hd311 => ?_)
  rw [← hd311] at q311
  refine g_dastore X307 hx hZ V307 (i := 0) (by decide) (show (0 : Nat) < 12 by decide) hg (pc' := 122) rfl (hb hby d5_121) (fun T312 h312 X312 W312 N312 => ?_)
  have f313 := f308.other W312 hne
  have f314 := (by have q := (Keep.of_wr W312).1; exact Nat.le_trans f309 q : n0 ≤ h312.size)
  have f315 := f310.wr W312 (Or.inl (List.mem_of_getElem? (i := 0) rfl))
  have V312 : AD Z h312 ca [d311, d300, d306, d260, d265, d270, d227, d232, d237, c30, c31, c32] := N312
  refine g_iincC X312 hx (pc' := 125) (x := (0 : Int32)) (z := (1 : Int32)) rfl (hb hby d5_122) rfl (by decide) (l' := #[.val (.ref ta), .val (.int (4 : Int32)), .val (.int (3 : Int32)), .val (.ref ca), .val (.int (3 : Int32)), .val (.int (0 : Int32)), .val (.int (0 : Int32)), .val (.double t0), .second, .val (.int (1 : Int32)), .val (.int (6 : Int32)), .val (.int (3 : Int32))]) rfl ?_
  refine g_goto X312 hx (pc' := 103) (hb hby d5_125) (by decide) (by decide) ?_
  refine g_iload X312 hx (pc' := 105) rfl (hb hby d5_103) rfl ?_
  refine g_iload X312 hx (pc' := 107) rfl (hb hby d5_105) rfl ?_
  refine g_icmpN X312 hx (pcN := 110) (hb hby d5_107) rfl (show ¬ (¬ (1 : Int32) < (3 : Int32)) from by decide) ?_
  refine g_aloadN X312 hx (pc' := 111) rfl (hb hby d5_110) rfl rfl ?_
  refine g_iload X312 hx (pc' := 113) rfl (hb hby d5_111) rfl ?_
  refine g_iload X312 hx (pc' := 115) rfl (hb hby d5_113) rfl ?_
  refine g_iadd X312 hx (pc' := 116) rfl (hb hby d5_115) ?_
  refine g_normI (z := (1 : Int32)) (by decide) ?_
  refine g_dup2 X312 hx (pc' := 117) rfl (hb hby d5_116) rfl rfl ?_
  refine g_daload X312 hx hZ V312 (i := 1) (by decide) (show (1 : Nat) < 12 by decide) (v := d300) rfl (pc' := 118) rfl (hb hby d5_117) ?_
  refine g_dload X312 hx (pc' := 120) rfl (hb hby d5_118) rfl ?_
  have q316 : Dy mx01 1074 (FP.ddiv d300 t0) := dy_div q300 yt0 hz0 (by rw [en300, en282, en281, en299]; exact own_g2 ec01) rfl (Nat.lt_of_le_of_lt bx01 (by decide)) (by decide)
  refine g_ddiv X312 hx (pc' := 121) (z := (FP.ddiv d300 t0)) rfl (hb hby d5_120) (dy_noNaN q316) rfl ?_
  refine g_absD (fun d316 hd316 => ?_)
  rw [← hd316] at q316
  refine g_dastore X312 hx hZ V312 (i := 1) (by decide) (show (1 : Nat) < 12 by decide) hg (pc' := 122) rfl (hb hby d5_121) (fun T317 h317 X317 W317 N317 => ?_)
  have f318 := f313.other W317 hne
  have f319 := (by have q := (Keep.of_wr W317).1; exact Nat.le_trans f314 q : n0 ≤ h317.size)
  have f320 := f315.wr W317 (Or.inl (List.mem_of_getElem? (i := 0) rfl))
  have V317 : AD Z h317 ca [d311, d316, d306, d260, d265, d270, d227, d232, d237, c30, c31, c32] := N317
  refine g_iincC X317 hx (pc' := 125) (x := (1 : Int32)) (z := (2 : Int32)) rfl (hb hby d5_122) rfl (by decide) (l' := #[.val (.ref ta), .val (.int (4 : Int32)), .val (.int (3 : Int32)), .val (.ref ca), .val (.int (3 : Int32)), .val (.int (0 : Int32)), .val (.int (0 : Int32)), .val (.double t0), .second, .val (.int (2 : Int32)), .val (.int (6 : Int32)), .val (.int (3 : Int32))]) rfl ?_
  refine g_goto X317 hx (pc' := 103) (hb hby d5_125) (by decide) (by decide) ?_
  refine g_iload X317 hx (pc' := 105) rfl (hb hby d5_103) rfl ?_
  refine g_iload X317 hx (pc' := 107) rfl (hb hby d5_105) rfl ?_
  refine g_icmpN X317 hx (pcN := 110) (hb hby d5_107) rfl (show ¬ (¬ (2 : Int32) < (3 : Int32)) from by decide) ?_
  refine g_aloadN X317 hx (pc' := 111) rfl (hb hby d5_110) rfl rfl ?_
  refine g_iload X317 hx (pc' := 113) rfl (hb hby d5_111) rfl ?_
  refine g_iload X317 hx (pc' := 115) rfl (hb hby d5_113) rfl ?_
  refine g_iadd X317 hx (pc' := 116) rfl (hb hby d5_115) ?_
  refine g_normI (z := (2 : Int32)) (by decide) ?_
  refine g_dup2 X317 hx (pc' := 117) rfl (hb hby d5_116) rfl rfl ?_
  refine g_daload X317 hx hZ V317 (i := 2) (by decide) (show (2 : Nat) < 12 by decide) (v := d306) rfl (pc' := 118) rfl (hb hby d5_117) ?_
  refine g_dload X317 hx (pc' := 120) rfl (hb hby d5_118) rfl ?_
  have q321 : Dy mx02 1074 (FP.ddiv d306 t0) := dy_div q306 yt0 hz0 (by rw [en306, en288, en287, en305]; exact own_g2 ec02) rfl (Nat.lt_of_le_of_lt bx02 (by decide)) (by decide)
  refine g_ddiv X317 hx (pc' := 121) (z := (FP.ddiv d306 t0)) rfl (hb hby d5_120) (dy_noNaN q321) rfl ?_
  refine g_absD (fun d321 hd321 => ?_)
  rw [← hd321] at q321
  refine g_dastore X317 hx hZ V317 (i := 2) (by decide) (show (2 : Nat) < 12 by decide) hg (pc' := 122) rfl (hb hby d5_121) (fun T322 h322 X322 W322 N322 => ?_)
  have f323 := f318.other W322 hne
  have f324 := (by have q := (Keep.of_wr W322).1; exact Nat.le_trans f319 q : n0 ≤ h322.size)
  have f325 := f320.wr W322 (Or.inl (List.mem_of_getElem? (i := 0) rfl))
  have V322 : AD Z h322 ca [d311, d316, d321, d260, d265, d270, d227, d232, d237, c30, c31, c32] := N322
  refine g_iincC X322 hx (pc' := 125) (x := (2 : Int32)) (z := (3 : Int32)) rfl (hb hby d5_122) rfl (by decide) (l' := #[.val (.ref ta), .val (.int (4 : Int32)), .val (.int (3 : Int32)), .val (.ref ca), .val (.int (3 : Int32)), .val (.int (0 : Int32)), .val (.int (0 : Int32)), .val (.double t0), .second, .val (.int (3 : Int32)), .val (.int (6 : Int32)), .val (.int (3 : Int32))]) rfl ?_
  refine g_goto X322 hx (pc' := 103) (hb hby d5_125) (by decide) (by decide) ?_
  refine g_iload X322 hx (pc' := 105) rfl (hb hby d5_103) rfl ?_
  refine g_iload X322 hx (pc' := 107) rfl (hb hby d5_105) rfl ?_
  refine g_icmpY X322 hx (pcY := 128) (hb hby d5_107) (by decide) (by decide) (show ¬ (3 : Int32) < (3 : Int32) from by decide) ?_
  refine g_iincC X322 hx (pc' := 131) (x := (0 : Int32)) (z := (-1 : Int32)) rfl (hb hby d5_128) rfl (by decide) (l' := #[.val (.ref ta), .val (.int (4 : Int32)), .val (.int (3 : Int32)), .val (.ref ca), .val (.int (3 : Int32)), .val (.int (-1 : Int32)), .val (.int (0 : Int32)), .val (.double t0), .second, .val (.int (3 : Int32)), .val (.int (6 : Int32)), .val (.int (3 : Int32))]) rfl ?_
  refine g_goto X322 hx (pc' := 5) (hb hby d5_131) (by decide) (by decide) ?_
  refine g_iload X322 hx (pc' := 7) rfl (hb hby d5_5) rfl ?_
  refine g_ifY X322 hx (pcY := 134) (hb hby d5_7) (by decide) (by decide) (show (-1 : Int32) < 0 from by decide) ?_
  exact g_retV X322 hx hlk hret (hb hby d5_134) (by decide) (by decide) (⟨rfl, f325, _, V322, rfl, fun _ => own_dyeq q311 yx00 rfl, fun _ => own_dyeq q316 yx01 rfl, fun _ => own_dyeq q321 yx02 rfl, fun _ => own_dyeq q260 yx10 rfl, fun _ => own_dyeq q265 yx11 rfl, fun _ => own_dyeq q270 yx12 rfl, fun _ => own_dyeq q227 yx20 rfl, fun _ => own_dyeq q232 yx21 rfl, fun _ => own_dyeq q237 yx22 rfl, fun _ => own_dyeq yc30 yx30 ec30, fun _ => own_dyeq yc31 yx31 ec31, fun _ => own_dyeq yc32 yx32 ec32⟩)
set_option maxRecDepth 65536 in
set_option maxHeartbeats 40000000 in
theorem rm5 (l : Launch) (Z : State) (a0 : Array Value) (hw : ∀ d ∈ tables_1, d.before a0 Z = true) (ws : List Jvm.Cond) (n0 : Nat) (ta ca : Addr) (order w : Int32) (W : Nat) (u0 u1 u2 u5 u6 u10 : Int32) (o3 o4 o7 o8 o9 o11 o12 o13 o14 o15 : UInt64) (x00 x01 x02 x10 x11 x12 x20 x21 x22 x30 x31 x32 : Int64) (h0 : Heap) (hn0 : n0 ≤ h0.size) (ho : order = 0 ∨ order = 1 ∨ order = 2 ∨ order = 3) (hwd : (w = 0 ∧ W = 0) ∨ (w = 1 ∧ W = 1) ∨ (w = 2 ∧ W = 2) ∨ (w = 3 ∧ W = 3)) (At : AD Z h0 ta [FP.i2d u0, FP.i2d u1, FP.i2d u2, o3, o4, FP.i2d u5, FP.i2d u6, o7, o8, o9, FP.i2d u10, o11, o12, o13, o14, o15]) (Ac : AD Z h0 ca (cFull W (FP.l2d (rV order 0 u0.toInt64 u1.toInt64 u2.toInt64 x00 x10 x20)) (FP.l2d (rV order 0 u0.toInt64 u1.toInt64 u2.toInt64 x01 x11 x21)) (FP.l2d (rV order 0 u0.toInt64 u1.toInt64 u2.toInt64 x02 x12 x22)) (FP.l2d (rV order 1 u5.toInt64 u6.toInt64 0 x10 x20 0)) (FP.l2d (rV order 1 u5.toInt64 u6.toInt64 0 x11 x21 0)) (FP.l2d (rV order 1 u5.toInt64 u6.toInt64 0 x12 x22 0)) (FP.l2d (rV order 2 u10.toInt64 0 0 x20 0 0)) (FP.l2d (rV order 2 u10.toInt64 0 0 x21 0 0)) (FP.l2d (rV order 2 u10.toInt64 0 0 x22 0 0)) (FP.l2d x30) (FP.l2d x31) (FP.l2d x32))) (hne : ta ≠ ca) (hg : n0 ≤ ca) (bu0 : u0.toInt.natAbs ≤ 128) (bu1 : u1.toInt.natAbs ≤ 128) (bu2 : u2.toInt.natAbs ≤ 128) (bu5 : u5.toInt.natAbs ≤ 128) (bu6 : u6.toInt.natAbs ≤ 128) (bu10 : u10.toInt.natAbs ≤ 128) (zu0 : u0.toInt ≠ 0) (zu5 : u5.toInt ≠ 0) (zu10 : u10.toInt ≠ 0) (bx00 : x00.toInt.natAbs ≤ 128) (bx01 : x01.toInt.natAbs ≤ 128) (bx02 : x02.toInt.natAbs ≤ 128) (bx10 : x10.toInt.natAbs ≤ 128) (bx11 : x11.toInt.natAbs ≤ 128) (bx12 : x12.toInt.natAbs ≤ 128) (bx20 : x20.toInt.natAbs ≤ 128) (bx21 : x21.toInt.natAbs ≤ 128) (bx22 : x22.toInt.natAbs ≤ 128) (bx30 : x30.toInt.natAbs ≤ 128) (bx31 : x31.toInt.natAbs ≤ 128) (bx32 : x32.toInt.natAbs ≤ 128) :
    Con l Z n0 (⟨"com/example/orthogon/orthogon/Triangular", "solveUpper", "([DII[DI)V"⟩ : MethodName) prog_16_method_3_code 12 none ws ({ frames := 0, cells := 0, slots := 0, locals := 0 } : Room) #[.ref ta, .int 4, .int order, .ref ca, .int w] h0 (fun v h => v = none ∧ Keep h0 h [ca] ∧ ∃ xs, AD Z h ca xs ∧ xs.length = 4 * W ∧ (0 < W → cmpValue (FP.dcmp (xs.getD (0 * W + 0) 0) (FP.l2d x00)) .l = 0) ∧ (1 < W → cmpValue (FP.dcmp (xs.getD (0 * W + 1) 0) (FP.l2d x01)) .l = 0) ∧ (2 < W → cmpValue (FP.dcmp (xs.getD (0 * W + 2) 0) (FP.l2d x02)) .l = 0) ∧ (0 < W → cmpValue (FP.dcmp (xs.getD (1 * W + 0) 0) (FP.l2d x10)) .l = 0) ∧ (1 < W → cmpValue (FP.dcmp (xs.getD (1 * W + 1) 0) (FP.l2d x11)) .l = 0) ∧ (2 < W → cmpValue (FP.dcmp (xs.getD (1 * W + 2) 0) (FP.l2d x12)) .l = 0) ∧ (0 < W → cmpValue (FP.dcmp (xs.getD (2 * W + 0) 0) (FP.l2d x20)) .l = 0) ∧ (1 < W → cmpValue (FP.dcmp (xs.getD (2 * W + 1) 0) (FP.l2d x21)) .l = 0) ∧ (2 < W → cmpValue (FP.dcmp (xs.getD (2 * W + 2) 0) (FP.l2d x22)) .l = 0) ∧ (0 < W → cmpValue (FP.dcmp (xs.getD (3 * W + 0) 0) (FP.l2d x30)) .l = 0) ∧ (1 < W → cmpValue (FP.dcmp (xs.getD (3 * W + 1) 0) (FP.l2d x31)) .l = 0) ∧ (2 < W → cmpValue (FP.dcmp (xs.getD (3 * W + 2) 0) (FP.l2d x32)) .l = 0)) := by
  rcases ho with rfl | rfl | rfl | rfl <;> rcases hwd with ⟨rfl, rfl⟩ | ⟨rfl, rfl⟩ | ⟨rfl, rfl⟩ | ⟨rfl, rfl⟩
  · rw [cFull_0] at Ac
    exact rm5_0_0 l Z a0 hw ws n0 ta ca _ _ _ _ _ _ _ _ _ _ _ _ _ _ _ _ _ _ _ _ _ _  x00 _ x01 _ x02 _ x10 _ x11 _ x12 _ x20 _ x21 _ x22 _ x30 _ x31 _ x32 _ h0 hn0 At Ac hne hg (own_i2d u0) bu0 (own_i2d u1) bu1 (own_i2d u2) bu2 (own_i2d u5) bu5 (own_i2d u6) bu6 (own_i2d u10) bu10 zu0 zu5 zu10  (own_r0 rfl bx00).1 bx00 (own_r0 rfl bx01).1 bx01 (own_r0 rfl bx02).1 bx02 (own_r0 rfl bx10).1 bx10 (own_r0 rfl bx11).1 bx11 (own_r0 rfl bx12).1 bx12 (own_r0 rfl bx20).1 bx20 (own_r0 rfl bx21).1 bx21 (own_r0 rfl bx22).1 bx22 (own_r0 rfl bx30).1 bx30 (own_r0 rfl bx31).1 bx31 (own_r0 rfl bx32).1 bx32
  · rw [cFull_1] at Ac
    have E00 : (rV 0 0 u0.toInt64 u1.toInt64 u2.toInt64 x00 x10 x20) = x00 := by unfold rV; rw [if_neg (by decide)]
    have Y00 := own_r0 rfl bx00
    rw [← E00] at Y00
    have E10 : (rV 0 1 u5.toInt64 u6.toInt64 0 x10 x20 0) = x10 := by unfold rV; rw [if_neg (by decide)]
    have Y10 := own_r0 rfl bx10
    rw [← E10] at Y10
    have E20 : (rV 0 2 u10.toInt64 0 0 x20 0 0) = x20 := by unfold rV; rw [if_neg (by decide)]
    have Y20 := own_r0 rfl bx20
    rw [← E20] at Y20
    have Y30 := own_r0 rfl bx30
    exact rm5_0_1 l Z a0 hw ws n0 ta ca _ _ _ _ _ _ _ _ _ _ _ _ _ _ _ _ _ _ _ _ _ _ _ _ _ _ _ _ _ _ x00 _ x01 _ x02 _ x10 _ x11 _ x12 _ x20 _ x21 _ x22 _ x30 _ x31 _ x32 _ h0 hn0 At Ac hne hg (own_i2d u0) bu0 (own_i2d u1) bu1 (own_i2d u2) bu2 (own_i2d u5) bu5 (own_i2d u6) bu6 (own_i2d u10) bu10 zu0 zu5 zu10 Y00.1 Y00.2 rfl Y10.1 Y10.2 rfl Y20.1 Y20.2 rfl Y30.1 Y30.2 rfl (own_r0 rfl bx00).1 bx00 (own_r0 rfl bx01).1 bx01 (own_r0 rfl bx02).1 bx02 (own_r0 rfl bx10).1 bx10 (own_r0 rfl bx11).1 bx11 (own_r0 rfl bx12).1 bx12 (own_r0 rfl bx20).1 bx20 (own_r0 rfl bx21).1 bx21 (own_r0 rfl bx22).1 bx22 (own_r0 rfl bx30).1 bx30 (own_r0 rfl bx31).1 bx31 (own_r0 rfl bx32).1 bx32
  · rw [cFull_2] at Ac
    have E00 : (rV 0 0 u0.toInt64 u1.toInt64 u2.toInt64 x00 x10 x20) = x00 := by unfold rV; rw [if_neg (by decide)]
    have Y00 := own_r0 rfl bx00
    rw [← E00] at Y00
    have E01 : (rV 0 0 u0.toInt64 u1.toInt64 u2.toInt64 x01 x11 x21) = x01 := by unfold rV; rw [if_neg (by decide)]
    have Y01 := own_r0 rfl bx01
    rw [← E01] at Y01
    have E10 : (rV 0 1 u5.toInt64 u6.toInt64 0 x10 x20 0) = x10 := by unfold rV; rw [if_neg (by decide)]
    have Y10 := own_r0 rfl bx10
    rw [← E10] at Y10
    have E11 : (rV 0 1 u5.toInt64 u6.toInt64 0 x11 x21 0) = x11 := by unfold rV; rw [if_neg (by decide)]
    have Y11 := own_r0 rfl bx11
    rw [← E11] at Y11
    have E20 : (rV 0 2 u10.toInt64 0 0 x20 0 0) = x20 := by unfold rV; rw [if_neg (by decide)]
    have Y20 := own_r0 rfl bx20
    rw [← E20] at Y20
    have E21 : (rV 0 2 u10.toInt64 0 0 x21 0 0) = x21 := by unfold rV; rw [if_neg (by decide)]
    have Y21 := own_r0 rfl bx21
    rw [← E21] at Y21
    have Y30 := own_r0 rfl bx30
    have Y31 := own_r0 rfl bx31
    exact rm5_0_2 l Z a0 hw ws n0 ta ca _ _ _ _ _ _ _ _ _ _ _ _ _ _ _ _ _ _ _ _ _ _ _ _ _ _ _ _ _ _ _ _ _ _ _ _ _ _ x00 _ x01 _ x02 _ x10 _ x11 _ x12 _ x20 _ x21 _ x22 _ x30 _ x31 _ x32 _ h0 hn0 At Ac hne hg (own_i2d u0) bu0 (own_i2d u1) bu1 (own_i2d u2) bu2 (own_i2d u5) bu5 (own_i2d u6) bu6 (own_i2d u10) bu10 zu0 zu5 zu10 Y00.1 Y00.2 rfl Y01.1 Y01.2 rfl Y10.1 Y10.2 rfl Y11.1 Y11.2 rfl Y20.1 Y20.2 rfl Y21.1 Y21.2 rfl Y30.1 Y30.2 rfl Y31.1 Y31.2 rfl (own_r0 rfl bx00).1 bx00 (own_r0 rfl bx01).1 bx01 (own_r0 rfl bx02).1 bx02 (own_r0 rfl bx10).1 bx10 (own_r0 rfl bx11).1 bx11 (own_r0 rfl bx12).1 bx12 (own_r0 rfl bx20).1 bx20 (own_r0 rfl bx21).1 bx21 (own_r0 rfl bx22).1 bx22 (own_r0 rfl bx30).1 bx30 (own_r0 rfl bx31).1 bx31 (own_r0 rfl bx32).1 bx32
  · rw [cFull_3] at Ac
    have E00 : (rV 0 0 u0.toInt64 u1.toInt64 u2.toInt64 x00 x10 x20) = x00 := by unfold rV; rw [if_neg (by decide)]
    have Y00 := own_r0 rfl bx00
    rw [← E00] at Y00
    have E01 : (rV 0 0 u0.toInt64 u1.toInt64 u2.toInt64 x01 x11 x21) = x01 := by unfold rV; rw [if_neg (by decide)]
    have Y01 := own_r0 rfl bx01
    rw [← E01] at Y01
    have E02 : (rV 0 0 u0.toInt64 u1.toInt64 u2.toInt64 x02 x12 x22) = x02 := by unfold rV; rw [if_neg (by decide)]
    have Y02 := own_r0 rfl bx02
    rw [← E02] at Y02
    have E10 : (rV 0 1 u5.toInt64 u6.toInt64 0 x10 x20 0) = x10 := by unfold rV; rw [if_neg (by decide)]
    have Y10 := own_r0 rfl bx10
    rw [← E10] at Y10
    have E11 : (rV 0 1 u5.toInt64 u6.toInt64 0 x11 x21 0) = x11 := by unfold rV; rw [if_neg (by decide)]
    have Y11 := own_r0 rfl bx11
    rw [← E11] at Y11
    have E12 : (rV 0 1 u5.toInt64 u6.toInt64 0 x12 x22 0) = x12 := by unfold rV; rw [if_neg (by decide)]
    have Y12 := own_r0 rfl bx12
    rw [← E12] at Y12
    have E20 : (rV 0 2 u10.toInt64 0 0 x20 0 0) = x20 := by unfold rV; rw [if_neg (by decide)]
    have Y20 := own_r0 rfl bx20
    rw [← E20] at Y20
    have E21 : (rV 0 2 u10.toInt64 0 0 x21 0 0) = x21 := by unfold rV; rw [if_neg (by decide)]
    have Y21 := own_r0 rfl bx21
    rw [← E21] at Y21
    have E22 : (rV 0 2 u10.toInt64 0 0 x22 0 0) = x22 := by unfold rV; rw [if_neg (by decide)]
    have Y22 := own_r0 rfl bx22
    rw [← E22] at Y22
    have Y30 := own_r0 rfl bx30
    have Y31 := own_r0 rfl bx31
    have Y32 := own_r0 rfl bx32
    exact rm5_0_3 l Z a0 hw ws n0 ta ca _ _ _ _ _ _ _ _ _ _ _ _ _ _ _ _ _ _ _ _ _ _ _ _ _ _ _ _ _ _ _ _ _ _ _ _ _ _ _ _ _ _ _ _ _ _ x00 _ x01 _ x02 _ x10 _ x11 _ x12 _ x20 _ x21 _ x22 _ x30 _ x31 _ x32 _ h0 hn0 At Ac hne hg (own_i2d u0) bu0 (own_i2d u1) bu1 (own_i2d u2) bu2 (own_i2d u5) bu5 (own_i2d u6) bu6 (own_i2d u10) bu10 zu0 zu5 zu10 Y00.1 Y00.2 rfl Y01.1 Y01.2 rfl Y02.1 Y02.2 rfl Y10.1 Y10.2 rfl Y11.1 Y11.2 rfl Y12.1 Y12.2 rfl Y20.1 Y20.2 rfl Y21.1 Y21.2 rfl Y22.1 Y22.2 rfl Y30.1 Y30.2 rfl Y31.1 Y31.2 rfl Y32.1 Y32.2 rfl (own_r0 rfl bx00).1 bx00 (own_r0 rfl bx01).1 bx01 (own_r0 rfl bx02).1 bx02 (own_r0 rfl bx10).1 bx10 (own_r0 rfl bx11).1 bx11 (own_r0 rfl bx12).1 bx12 (own_r0 rfl bx20).1 bx20 (own_r0 rfl bx21).1 bx21 (own_r0 rfl bx22).1 bx22 (own_r0 rfl bx30).1 bx30 (own_r0 rfl bx31).1 bx31 (own_r0 rfl bx32).1 bx32
  · rw [cFull_0] at Ac
    exact rm5_1_0 l Z a0 hw ws n0 ta ca _ _ _ _ _ _ _ _ _ _ _ _ _ _ _ _ _ _ _ _ _ _  x00 _ x01 _ x02 _ x10 _ x11 _ x12 _ x20 _ x21 _ x22 _ x30 _ x31 _ x32 _ h0 hn0 At Ac hne hg (own_i2d u0) bu0 (own_i2d u1) bu1 (own_i2d u2) bu2 (own_i2d u5) bu5 (own_i2d u6) bu6 (own_i2d u10) bu10 zu0 zu5 zu10  (own_r0 rfl bx00).1 bx00 (own_r0 rfl bx01).1 bx01 (own_r0 rfl bx02).1 bx02 (own_r0 rfl bx10).1 bx10 (own_r0 rfl bx11).1 bx11 (own_r0 rfl bx12).1 bx12 (own_r0 rfl bx20).1 bx20 (own_r0 rfl bx21).1 bx21 (own_r0 rfl bx22).1 bx22 (own_r0 rfl bx30).1 bx30 (own_r0 rfl bx31).1 bx31 (own_r0 rfl bx32).1 bx32
  · rw [cFull_1] at Ac
    have E00 : (rV 1 0 u0.toInt64 u1.toInt64 u2.toInt64 x00 x10 x20) = u0.toInt64 * x00 := by unfold rV; rw [if_pos (by decide), if_pos (by decide), if_pos (by decide)]
    have Y00 := own_r1 (Int32.toInt_toInt64 u0) rfl bu0 bx00
    rw [← E00] at Y00
    have E10 : (rV 1 1 u5.toInt64 u6.toInt64 0 x10 x20 0) = x10 := by unfold rV; rw [if_neg (by decide)]
    have Y10 := own_r0 rfl bx10
    rw [← E10] at Y10
    have E20 : (rV 1 2 u10.toInt64 0 0 x20 0 0) = x20 := by unfold rV; rw [if_neg (by decide)]
    have Y20 := own_r0 rfl bx20
    rw [← E20] at Y20
    have Y30 := own_r0 rfl bx30
    exact rm5_1_1 l Z a0 hw ws n0 ta ca _ _ _ _ _ _ _ _ _ _ _ _ _ _ _ _ _ _ _ _ _ _ _ _ _ _ _ _ _ _ x00 _ x01 _ x02 _ x10 _ x11 _ x12 _ x20 _ x21 _ x22 _ x30 _ x31 _ x32 _ h0 hn0 At Ac hne hg (own_i2d u0) bu0 (own_i2d u1) bu1 (own_i2d u2) bu2 (own_i2d u5) bu5 (own_i2d u6) bu6 (own_i2d u10) bu10 zu0 zu5 zu10 Y00.1 Y00.2 rfl Y10.1 Y10.2 rfl Y20.1 Y20.2 rfl Y30.1 Y30.2 rfl (own_r0 rfl bx00).1 bx00 (own_r0 rfl bx01).1 bx01 (own_r0 rfl bx02).1 bx02 (own_r0 rfl bx10).1 bx10 (own_r0 rfl bx11).1 bx11 (own_r0 rfl bx12).1 bx12 (own_r0 rfl bx20).1 bx20 (own_r0 rfl bx21).1 bx21 (own_r0 rfl bx22).1 bx22 (own_r0 rfl bx30).1 bx30 (own_r0 rfl bx31).1 bx31 (own_r0 rfl bx32).1 bx32
  · rw [cFull_2] at Ac
    have E00 : (rV 1 0 u0.toInt64 u1.toInt64 u2.toInt64 x00 x10 x20) = u0.toInt64 * x00 := by unfold rV; rw [if_pos (by decide), if_pos (by decide), if_pos (by decide)]
    have Y00 := own_r1 (Int32.toInt_toInt64 u0) rfl bu0 bx00
    rw [← E00] at Y00
    have E01 : (rV 1 0 u0.toInt64 u1.toInt64 u2.toInt64 x01 x11 x21) = u0.toInt64 * x01 := by unfold rV; rw [if_pos (by decide), if_pos (by decide), if_pos (by decide)]
    have Y01 := own_r1 (Int32.toInt_toInt64 u0) rfl bu0 bx01
    rw [← E01] at Y01
    have E10 : (rV 1 1 u5.toInt64 u6.toInt64 0 x10 x20 0) = x10 := by unfold rV; rw [if_neg (by decide)]
    have Y10 := own_r0 rfl bx10
    rw [← E10] at Y10
    have E11 : (rV 1 1 u5.toInt64 u6.toInt64 0 x11 x21 0) = x11 := by unfold rV; rw [if_neg (by decide)]
    have Y11 := own_r0 rfl bx11
    rw [← E11] at Y11
    have E20 : (rV 1 2 u10.toInt64 0 0 x20 0 0) = x20 := by unfold rV; rw [if_neg (by decide)]
    have Y20 := own_r0 rfl bx20
    rw [← E20] at Y20
    have E21 : (rV 1 2 u10.toInt64 0 0 x21 0 0) = x21 := by unfold rV; rw [if_neg (by decide)]
    have Y21 := own_r0 rfl bx21
    rw [← E21] at Y21
    have Y30 := own_r0 rfl bx30
    have Y31 := own_r0 rfl bx31
    exact rm5_1_2 l Z a0 hw ws n0 ta ca _ _ _ _ _ _ _ _ _ _ _ _ _ _ _ _ _ _ _ _ _ _ _ _ _ _ _ _ _ _ _ _ _ _ _ _ _ _ x00 _ x01 _ x02 _ x10 _ x11 _ x12 _ x20 _ x21 _ x22 _ x30 _ x31 _ x32 _ h0 hn0 At Ac hne hg (own_i2d u0) bu0 (own_i2d u1) bu1 (own_i2d u2) bu2 (own_i2d u5) bu5 (own_i2d u6) bu6 (own_i2d u10) bu10 zu0 zu5 zu10 Y00.1 Y00.2 rfl Y01.1 Y01.2 rfl Y10.1 Y10.2 rfl Y11.1 Y11.2 rfl Y20.1 Y20.2 rfl Y21.1 Y21.2 rfl Y30.1 Y30.2 rfl Y31.1 Y31.2 rfl (own_r0 rfl bx00).1 bx00 (own_r0 rfl bx01).1 bx01 (own_r0 rfl bx02).1 bx02 (own_r0 rfl bx10).1 bx10 (own_r0 rfl bx11).1 bx11 (own_r0 rfl bx12).1 bx12 (own_r0 rfl bx20).1 bx20 (own_r0 rfl bx21).1 bx21 (own_r0 rfl bx22).1 bx22 (own_r0 rfl bx30).1 bx30 (own_r0 rfl bx31).1 bx31 (own_r0 rfl bx32).1 bx32
  · rw [cFull_3] at Ac
    have E00 : (rV 1 0 u0.toInt64 u1.toInt64 u2.toInt64 x00 x10 x20) = u0.toInt64 * x00 := by unfold rV; rw [if_pos (by decide), if_pos (by decide), if_pos (by decide)]
    have Y00 := own_r1 (Int32.toInt_toInt64 u0) rfl bu0 bx00
    rw [← E00] at Y00
    have E01 : (rV 1 0 u0.toInt64 u1.toInt64 u2.toInt64 x01 x11 x21) = u0.toInt64 * x01 := by unfold rV; rw [if_pos (by decide), if_pos (by decide), if_pos (by decide)]
    have Y01 := own_r1 (Int32.toInt_toInt64 u0) rfl bu0 bx01
    rw [← E01] at Y01
    have E02 : (rV 1 0 u0.toInt64 u1.toInt64 u2.toInt64 x02 x12 x22) = u0.toInt64 * x02 := by unfold rV; rw [if_pos (by decide), if_pos (by decide), if_pos (by decide)]
    have Y02 := own_r1 (Int32.toInt_toInt64 u0) rfl bu0 bx02
    rw [← E02] at Y02
    have E10 : (rV 1 1 u5.toInt64 u6.toInt64 0 x10 x20 0) = x10 := by unfold rV; rw [if_neg (by decide)]
    have Y10 := own_r0 rfl bx10
    rw [← E10] at Y10
    have E11 : (rV 1 1 u5.toInt64 u6.toInt64 0 x11 x21 0) = x11 := by unfold rV; rw [if_neg (by decide)]
    have Y11 := own_r0 rfl bx11
    rw [← E11] at Y11
    have E12 : (rV 1 1 u5.toInt64 u6.toInt64 0 x12 x22 0) = x12 := by unfold rV; rw [if_neg (by decide)]
    have Y12 := own_r0 rfl bx12
    rw [← E12] at Y12
    have E20 : (rV 1 2 u10.toInt64 0 0 x20 0 0) = x20 := by unfold rV; rw [if_neg (by decide)]
    have Y20 := own_r0 rfl bx20
    rw [← E20] at Y20
    have E21 : (rV 1 2 u10.toInt64 0 0 x21 0 0) = x21 := by unfold rV; rw [if_neg (by decide)]
    have Y21 := own_r0 rfl bx21
    rw [← E21] at Y21
    have E22 : (rV 1 2 u10.toInt64 0 0 x22 0 0) = x22 := by unfold rV; rw [if_neg (by decide)]
    have Y22 := own_r0 rfl bx22
    rw [← E22] at Y22
    have Y30 := own_r0 rfl bx30
    have Y31 := own_r0 rfl bx31
    have Y32 := own_r0 rfl bx32
    exact rm5_1_3 l Z a0 hw ws n0 ta ca _ _ _ _ _ _ _ _ _ _ _ _ _ _ _ _ _ _ _ _ _ _ _ _ _ _ _ _ _ _ _ _ _ _ _ _ _ _ _ _ _ _ _ _ _ _ x00 _ x01 _ x02 _ x10 _ x11 _ x12 _ x20 _ x21 _ x22 _ x30 _ x31 _ x32 _ h0 hn0 At Ac hne hg (own_i2d u0) bu0 (own_i2d u1) bu1 (own_i2d u2) bu2 (own_i2d u5) bu5 (own_i2d u6) bu6 (own_i2d u10) bu10 zu0 zu5 zu10 Y00.1 Y00.2 rfl Y01.1 Y01.2 rfl Y02.1 Y02.2 rfl Y10.1 Y10.2 rfl Y11.1 Y11.2 rfl Y12.1 Y12.2 rfl Y20.1 Y20.2 rfl Y21.1 Y21.2 rfl Y22.1 Y22.2 rfl Y30.1 Y30.2 rfl Y31.1 Y31.2 rfl Y32.1 Y32.2 rfl (own_r0 rfl bx00).1 bx00 (own_r0 rfl bx01).1 bx01 (own_r0 rfl bx02).1 bx02 (own_r0 rfl bx10).1 bx10 (own_r0 rfl bx11).1 bx11 (own_r0 rfl bx12).1 bx12 (own_r0 rfl bx20).1 bx20 (own_r0 rfl bx21).1 bx21 (own_r0 rfl bx22).1 bx22 (own_r0 rfl bx30).1 bx30 (own_r0 rfl bx31).1 bx31 (own_r0 rfl bx32).1 bx32
  · rw [cFull_0] at Ac
    exact rm5_2_0 l Z a0 hw ws n0 ta ca _ _ _ _ _ _ _ _ _ _ _ _ _ _ _ _ _ _ _ _ _ _  x00 _ x01 _ x02 _ x10 _ x11 _ x12 _ x20 _ x21 _ x22 _ x30 _ x31 _ x32 _ h0 hn0 At Ac hne hg (own_i2d u0) bu0 (own_i2d u1) bu1 (own_i2d u2) bu2 (own_i2d u5) bu5 (own_i2d u6) bu6 (own_i2d u10) bu10 zu0 zu5 zu10  (own_r0 rfl bx00).1 bx00 (own_r0 rfl bx01).1 bx01 (own_r0 rfl bx02).1 bx02 (own_r0 rfl bx10).1 bx10 (own_r0 rfl bx11).1 bx11 (own_r0 rfl bx12).1 bx12 (own_r0 rfl bx20).1 bx20 (own_r0 rfl bx21).1 bx21 (own_r0 rfl bx22).1 bx22 (own_r0 rfl bx30).1 bx30 (own_r0 rfl bx31).1 bx31 (own_r0 rfl bx32).1 bx32
  · rw [cFull_1] at Ac
    have E00 : (rV 2 0 u0.toInt64 u1.toInt64 u2.toInt64 x00 x10 x20) = u0.toInt64 * x00 + u1.toInt64 * x10 := by unfold rV; rw [if_pos (by decide), if_pos (by decide), if_neg (by decide)]
    have Y00 := own_r2 (Int32.toInt_toInt64 u0) rfl (Int32.toInt_toInt64 u1) rfl bu0 bx00 bu1 bx10
    rw [← E00] at Y00
    have E10 : (rV 2 1 u5.toInt64 u6.toInt64 0 x10 x20 0) = u5.toInt64 * x10 := by unfold rV; rw [if_pos (by decide), if_pos (by decide), if_pos (by decide)]
    have Y10 := own_r1 (Int32.toInt_toInt64 u5) rfl bu5 bx10
    rw [← E10] at Y10
    have E20 : (rV 2 2 u10.toInt64 0 0 x20 0 0) = x20 := by unfold rV; rw [if_neg (by decide)]
    have Y20 := own_r0 rfl bx20
    rw [← E20] at Y20
    have Y30 := own_r0 rfl bx30
    exact rm5_2_1 l Z a0 hw ws n0 ta ca _ _ _ _ _ _ _ _ _ _ _ _ _ _ _ _ _ _ _ _ _ _ _ _ _ _ _ _ _ _ x00 _ x01 _ x02 _ x10 _ x11 _ x12 _ x20 _ x21 _ x22 _ x30 _ x31 _ x32 _ h0 hn0 At Ac hne hg (own_i2d u0) bu0 (own_i2d u1) bu1 (own_i2d u2) bu2 (own_i2d u5) bu5 (own_i2d u6) bu6 (own_i2d u10) bu10 zu0 zu5 zu10 Y00.1 Y00.2 rfl Y10.1 Y10.2 rfl Y20.1 Y20.2 rfl Y30.1 Y30.2 rfl (own_r0 rfl bx00).1 bx00 (own_r0 rfl bx01).1 bx01 (own_r0 rfl bx02).1 bx02 (own_r0 rfl bx10).1 bx10 (own_r0 rfl bx11).1 bx11 (own_r0 rfl bx12).1 bx12 (own_r0 rfl bx20).1 bx20 (own_r0 rfl bx21).1 bx21 (own_r0 rfl bx22).1 bx22 (own_r0 rfl bx30).1 bx30 (own_r0 rfl bx31).1 bx31 (own_r0 rfl bx32).1 bx32
  · rw [cFull_2] at Ac
    have E00 : (rV 2 0 u0.toInt64 u1.toInt64 u2.toInt64 x00 x10 x20) = u0.toInt64 * x00 + u1.toInt64 * x10 := by unfold rV; rw [if_pos (by decide), if_pos (by decide), if_neg (by decide)]
    have Y00 := own_r2 (Int32.toInt_toInt64 u0) rfl (Int32.toInt_toInt64 u1) rfl bu0 bx00 bu1 bx10
    rw [← E00] at Y00
    have E01 : (rV 2 0 u0.toInt64 u1.toInt64 u2.toInt64 x01 x11 x21) = u0.toInt64 * x01 + u1.toInt64 * x11 := by unfold rV; rw [if_pos (by decide), if_pos (by decide), if_neg (by decide)]
    have Y01 := own_r2 (Int32.toInt_toInt64 u0) rfl (Int32.toInt_toInt64 u1) rfl bu0 bx01 bu1 bx11
    rw [← E01] at Y01
    have E10 : (rV 2 1 u5.toInt64 u6.toInt64 0 x10 x20 0) = u5.toInt64 * x10 := by unfold rV; rw [if_pos (by decide), if_pos (by decide), if_pos (by decide)]
    have Y10 := own_r1 (Int32.toInt_toInt64 u5) rfl bu5 bx10
    rw [← E10] at Y10
    have E11 : (rV 2 1 u5.toInt64 u6.toInt64 0 x11 x21 0) = u5.toInt64 * x11 := by unfold rV; rw [if_pos (by decide), if_pos (by decide), if_pos (by decide)]
    have Y11 := own_r1 (Int32.toInt_toInt64 u5) rfl bu5 bx11
    rw [← E11] at Y11
    have E20 : (rV 2 2 u10.toInt64 0 0 x20 0 0) = x20 := by unfold rV; rw [if_neg (by decide)]
    have Y20 := own_r0 rfl bx20
    rw [← E20] at Y20
    have E21 : (rV 2 2 u10.toInt64 0 0 x21 0 0) = x21 := by unfold rV; rw [if_neg (by decide)]
    have Y21 := own_r0 rfl bx21
    rw [← E21] at Y21
    have Y30 := own_r0 rfl bx30
    have Y31 := own_r0 rfl bx31
    exact rm5_2_2 l Z a0 hw ws n0 ta ca _ _ _ _ _ _ _ _ _ _ _ _ _ _ _ _ _ _ _ _ _ _ _ _ _ _ _ _ _ _ _ _ _ _ _ _ _ _ x00 _ x01 _ x02 _ x10 _ x11 _ x12 _ x20 _ x21 _ x22 _ x30 _ x31 _ x32 _ h0 hn0 At Ac hne hg (own_i2d u0) bu0 (own_i2d u1) bu1 (own_i2d u2) bu2 (own_i2d u5) bu5 (own_i2d u6) bu6 (own_i2d u10) bu10 zu0 zu5 zu10 Y00.1 Y00.2 rfl Y01.1 Y01.2 rfl Y10.1 Y10.2 rfl Y11.1 Y11.2 rfl Y20.1 Y20.2 rfl Y21.1 Y21.2 rfl Y30.1 Y30.2 rfl Y31.1 Y31.2 rfl (own_r0 rfl bx00).1 bx00 (own_r0 rfl bx01).1 bx01 (own_r0 rfl bx02).1 bx02 (own_r0 rfl bx10).1 bx10 (own_r0 rfl bx11).1 bx11 (own_r0 rfl bx12).1 bx12 (own_r0 rfl bx20).1 bx20 (own_r0 rfl bx21).1 bx21 (own_r0 rfl bx22).1 bx22 (own_r0 rfl bx30).1 bx30 (own_r0 rfl bx31).1 bx31 (own_r0 rfl bx32).1 bx32
  · rw [cFull_3] at Ac
    have E00 : (rV 2 0 u0.toInt64 u1.toInt64 u2.toInt64 x00 x10 x20) = u0.toInt64 * x00 + u1.toInt64 * x10 := by unfold rV; rw [if_pos (by decide), if_pos (by decide), if_neg (by decide)]
    have Y00 := own_r2 (Int32.toInt_toInt64 u0) rfl (Int32.toInt_toInt64 u1) rfl bu0 bx00 bu1 bx10
    rw [← E00] at Y00
    have E01 : (rV 2 0 u0.toInt64 u1.toInt64 u2.toInt64 x01 x11 x21) = u0.toInt64 * x01 + u1.toInt64 * x11 := by unfold rV; rw [if_pos (by decide), if_pos (by decide), if_neg (by decide)]
    have Y01 := own_r2 (Int32.toInt_toInt64 u0) rfl (Int32.toInt_toInt64 u1) rfl bu0 bx01 bu1 bx11
    rw [← E01] at Y01
    have E02 : (rV 2 0 u0.toInt64 u1.toInt64 u2.toInt64 x02 x12 x22) = u0.toInt64 * x02 + u1.toInt64 * x12 := by unfold rV; rw [if_pos (by decide), if_pos (by decide), if_neg (by decide)]
    have Y02 := own_r2 (Int32.toInt_toInt64 u0) rfl (Int32.toInt_toInt64 u1) rfl bu0 bx02 bu1 bx12
    rw [← E02] at Y02
    have E10 : (rV 2 1 u5.toInt64 u6.toInt64 0 x10 x20 0) = u5.toInt64 * x10 := by unfold rV; rw [if_pos (by decide), if_pos (by decide), if_pos (by decide)]
    have Y10 := own_r1 (Int32.toInt_toInt64 u5) rfl bu5 bx10
    rw [← E10] at Y10
    have E11 : (rV 2 1 u5.toInt64 u6.toInt64 0 x11 x21 0) = u5.toInt64 * x11 := by unfold rV; rw [if_pos (by decide), if_pos (by decide), if_pos (by decide)]
    have Y11 := own_r1 (Int32.toInt_toInt64 u5) rfl bu5 bx11
    rw [← E11] at Y11
    have E12 : (rV 2 1 u5.toInt64 u6.toInt64 0 x12 x22 0) = u5.toInt64 * x12 := by unfold rV; rw [if_pos (by decide), if_pos (by decide), if_pos (by decide)]
    have Y12 := own_r1 (Int32.toInt_toInt64 u5) rfl bu5 bx12
    rw [← E12] at Y12
    have E20 : (rV 2 2 u10.toInt64 0 0 x20 0 0) = x20 := by unfold rV; rw [if_neg (by decide)]
    have Y20 := own_r0 rfl bx20
    rw [← E20] at Y20
    have E21 : (rV 2 2 u10.toInt64 0 0 x21 0 0) = x21 := by unfold rV; rw [if_neg (by decide)]
    have Y21 := own_r0 rfl bx21
    rw [← E21] at Y21
    have E22 : (rV 2 2 u10.toInt64 0 0 x22 0 0) = x22 := by unfold rV; rw [if_neg (by decide)]
    have Y22 := own_r0 rfl bx22
    rw [← E22] at Y22
    have Y30 := own_r0 rfl bx30
    have Y31 := own_r0 rfl bx31
    have Y32 := own_r0 rfl bx32
    exact rm5_2_3 l Z a0 hw ws n0 ta ca _ _ _ _ _ _ _ _ _ _ _ _ _ _ _ _ _ _ _ _ _ _ _ _ _ _ _ _ _ _ _ _ _ _ _ _ _ _ _ _ _ _ _ _ _ _ x00 _ x01 _ x02 _ x10 _ x11 _ x12 _ x20 _ x21 _ x22 _ x30 _ x31 _ x32 _ h0 hn0 At Ac hne hg (own_i2d u0) bu0 (own_i2d u1) bu1 (own_i2d u2) bu2 (own_i2d u5) bu5 (own_i2d u6) bu6 (own_i2d u10) bu10 zu0 zu5 zu10 Y00.1 Y00.2 rfl Y01.1 Y01.2 rfl Y02.1 Y02.2 rfl Y10.1 Y10.2 rfl Y11.1 Y11.2 rfl Y12.1 Y12.2 rfl Y20.1 Y20.2 rfl Y21.1 Y21.2 rfl Y22.1 Y22.2 rfl Y30.1 Y30.2 rfl Y31.1 Y31.2 rfl Y32.1 Y32.2 rfl (own_r0 rfl bx00).1 bx00 (own_r0 rfl bx01).1 bx01 (own_r0 rfl bx02).1 bx02 (own_r0 rfl bx10).1 bx10 (own_r0 rfl bx11).1 bx11 (own_r0 rfl bx12).1 bx12 (own_r0 rfl bx20).1 bx20 (own_r0 rfl bx21).1 bx21 (own_r0 rfl bx22).1 bx22 (own_r0 rfl bx30).1 bx30 (own_r0 rfl bx31).1 bx31 (own_r0 rfl bx32).1 bx32
  · rw [cFull_0] at Ac
    exact rm5_3_0 l Z a0 hw ws n0 ta ca _ _ _ _ _ _ _ _ _ _ _ _ _ _ _ _ _ _ _ _ _ _  x00 _ x01 _ x02 _ x10 _ x11 _ x12 _ x20 _ x21 _ x22 _ x30 _ x31 _ x32 _ h0 hn0 At Ac hne hg (own_i2d u0) bu0 (own_i2d u1) bu1 (own_i2d u2) bu2 (own_i2d u5) bu5 (own_i2d u6) bu6 (own_i2d u10) bu10 zu0 zu5 zu10  (own_r0 rfl bx00).1 bx00 (own_r0 rfl bx01).1 bx01 (own_r0 rfl bx02).1 bx02 (own_r0 rfl bx10).1 bx10 (own_r0 rfl bx11).1 bx11 (own_r0 rfl bx12).1 bx12 (own_r0 rfl bx20).1 bx20 (own_r0 rfl bx21).1 bx21 (own_r0 rfl bx22).1 bx22 (own_r0 rfl bx30).1 bx30 (own_r0 rfl bx31).1 bx31 (own_r0 rfl bx32).1 bx32
  · rw [cFull_1] at Ac
    have E00 : (rV 3 0 u0.toInt64 u1.toInt64 u2.toInt64 x00 x10 x20) = u0.toInt64 * x00 + u1.toInt64 * x10 + u2.toInt64 * x20 := by unfold rV; rw [if_pos (by decide), if_neg (by decide), if_neg (by decide)]
    have Y00 := own_r3 (Int32.toInt_toInt64 u0) rfl (Int32.toInt_toInt64 u1) rfl (Int32.toInt_toInt64 u2) rfl bu0 bx00 bu1 bx10 bu2 bx20
    rw [← E00] at Y00
    have E10 : (rV 3 1 u5.toInt64 u6.toInt64 0 x10 x20 0) = u5.toInt64 * x10 + u6.toInt64 * x20 := by unfold rV; rw [if_pos (by decide), if_pos (by decide), if_neg (by decide)]
    have Y10 := own_r2 (Int32.toInt_toInt64 u5) rfl (Int32.toInt_toInt64 u6) rfl bu5 bx10 bu6 bx20
    rw [← E10] at Y10
    have E20 : (rV 3 2 u10.toInt64 0 0 x20 0 0) = u10.toInt64 * x20 := by unfold rV; rw [if_pos (by decide), if_pos (by decide), if_pos (by decide)]
    have Y20 := own_r1 (Int32.toInt_toInt64 u10) rfl bu10 bx20
    rw [← E20] at Y20
    have Y30 := own_r0 rfl bx30
    exact rm5_3_1 l Z a0 hw ws n0 ta ca _ _ _ _ _ _ _ _ _ _ _ _ _ _ _ _ _ _ _ _ _ _ _ _ _ _ _ _ _ _ x00 _ x01 _ x02 _ x10 _ x11 _ x12 _ x20 _ x21 _ x22 _ x30 _ x31 _ x32 _ h0 hn0 At Ac hne hg (own_i2d u0) bu0 (own_i2d u1) bu1 (own_i2d u2) bu2 (own_i2d u5) bu5 (own_i2d u6) bu6 (own_i2d u10) bu10 zu0 zu5 zu10 Y00.1 Y00.2 rfl Y10.1 Y10.2 rfl Y20.1 Y20.2 rfl Y30.1 Y30.2 rfl (own_r0 rfl bx00).1 bx00 (own_r0 rfl bx01).1 bx01 (own_r0 rfl bx02).1 bx02 (own_r0 rfl bx10).1 bx10 (own_r0 rfl bx11).1 bx11 (own_r0 rfl bx12).1 bx12 (own_r0 rfl bx20).1 bx20 (own_r0 rfl bx21).1 bx21 (own_r0 rfl bx22).1 bx22 (own_r0 rfl bx30).1 bx30 (own_r0 rfl bx31).1 bx31 (own_r0 rfl bx32).1 bx32
  · rw [cFull_2] at Ac
    have E00 : (rV 3 0 u0.toInt64 u1.toInt64 u2.toInt64 x00 x10 x20) = u0.toInt64 * x00 + u1.toInt64 * x10 + u2.toInt64 * x20 := by unfold rV; rw [if_pos (by decide), if_neg (by decide), if_neg (by decide)]
    have Y00 := own_r3 (Int32.toInt_toInt64 u0) rfl (Int32.toInt_toInt64 u1) rfl (Int32.toInt_toInt64 u2) rfl bu0 bx00 bu1 bx10 bu2 bx20
    rw [← E00] at Y00
    have E01 : (rV 3 0 u0.toInt64 u1.toInt64 u2.toInt64 x01 x11 x21) = u0.toInt64 * x01 + u1.toInt64 * x11 + u2.toInt64 * x21 := by unfold rV; rw [if_pos (by decide), if_neg (by decide), if_neg (by decide)]
    have Y01 := own_r3 (Int32.toInt_toInt64 u0) rfl (Int32.toInt_toInt64 u1) rfl (Int32.toInt_toInt64 u2) rfl bu0 bx01 bu1 bx11 bu2 bx21
    rw [← E01] at Y01
    have E10 : (rV 3 1 u5.toInt64 u6.toInt64 0 x10 x20 0) = u5.toInt64 * x10 + u6.toInt64 * x20 := by unfold rV; rw [if_pos (by decide), if_pos (by decide), if_neg (by decide)]
    have Y10 := own_r2 (Int32.toInt_toInt64 u5) rfl (Int32.toInt_toInt64 u6) rfl bu5 bx10 bu6 bx20
    rw [← E10] at Y10
    have E11 : (rV 3 1 u5.toInt64 u6.toInt64 0 x11 x21 0) = u5.toInt64 * x11 + u6.toInt64 * x21 := by unfold rV; rw [if_pos (by decide), if_pos (by decide), if_neg (by decide)]
    have Y11 := own_r2 (Int32.toInt_toInt64 u5) rfl (Int32.toInt_toInt64 u6) rfl bu5 bx11 bu6 bx21
    rw [← E11] at Y11
    have E20 : (rV 3 2 u10.toInt64 0 0 x20 0 0) = u10.toInt64 * x20 := by unfold rV; rw [if_pos (by decide), if_pos (by decide), if_pos (by decide)]
    have Y20 := own_r1 (Int32.toInt_toInt64 u10) rfl bu10 bx20
    rw [← E20] at Y20
    have E21 : (rV 3 2 u10.toInt64 0 0 x21 0 0) = u10.toInt64 * x21 := by unfold rV; rw [if_pos (by decide), if_pos (by decide), if_pos (by decide)]
    have Y21 := own_r1 (Int32.toInt_toInt64 u10) rfl bu10 bx21
    rw [← E21] at Y21
    have Y30 := own_r0 rfl bx30
    have Y31 := own_r0 rfl bx31
    exact rm5_3_2 l Z a0 hw ws n0 ta ca _ _ _ _ _ _ _ _ _ _ _ _ _ _ _ _ _ _ _ _ _ _ _ _ _ _ _ _ _ _ _ _ _ _ _ _ _ _ x00 _ x01 _ x02 _ x10 _ x11 _ x12 _ x20 _ x21 _ x22 _ x30 _ x31 _ x32 _ h0 hn0 At Ac hne hg (own_i2d u0) bu0 (own_i2d u1) bu1 (own_i2d u2) bu2 (own_i2d u5) bu5 (own_i2d u6) bu6 (own_i2d u10) bu10 zu0 zu5 zu10 Y00.1 Y00.2 rfl Y01.1 Y01.2 rfl Y10.1 Y10.2 rfl Y11.1 Y11.2 rfl Y20.1 Y20.2 rfl Y21.1 Y21.2 rfl Y30.1 Y30.2 rfl Y31.1 Y31.2 rfl (own_r0 rfl bx00).1 bx00 (own_r0 rfl bx01).1 bx01 (own_r0 rfl bx02).1 bx02 (own_r0 rfl bx10).1 bx10 (own_r0 rfl bx11).1 bx11 (own_r0 rfl bx12).1 bx12 (own_r0 rfl bx20).1 bx20 (own_r0 rfl bx21).1 bx21 (own_r0 rfl bx22).1 bx22 (own_r0 rfl bx30).1 bx30 (own_r0 rfl bx31).1 bx31 (own_r0 rfl bx32).1 bx32
  · rw [cFull_3] at Ac
    have E00 : (rV 3 0 u0.toInt64 u1.toInt64 u2.toInt64 x00 x10 x20) = u0.toInt64 * x00 + u1.toInt64 * x10 + u2.toInt64 * x20 := by unfold rV; rw [if_pos (by decide), if_neg (by decide), if_neg (by decide)]
    have Y00 := own_r3 (Int32.toInt_toInt64 u0) rfl (Int32.toInt_toInt64 u1) rfl (Int32.toInt_toInt64 u2) rfl bu0 bx00 bu1 bx10 bu2 bx20
    rw [← E00] at Y00
    have E01 : (rV 3 0 u0.toInt64 u1.toInt64 u2.toInt64 x01 x11 x21) = u0.toInt64 * x01 + u1.toInt64 * x11 + u2.toInt64 * x21 := by unfold rV; rw [if_pos (by decide), if_neg (by decide), if_neg (by decide)]
    have Y01 := own_r3 (Int32.toInt_toInt64 u0) rfl (Int32.toInt_toInt64 u1) rfl (Int32.toInt_toInt64 u2) rfl bu0 bx01 bu1 bx11 bu2 bx21
    rw [← E01] at Y01
    have E02 : (rV 3 0 u0.toInt64 u1.toInt64 u2.toInt64 x02 x12 x22) = u0.toInt64 * x02 + u1.toInt64 * x12 + u2.toInt64 * x22 := by unfold rV; rw [if_pos (by decide), if_neg (by decide), if_neg (by decide)]
    have Y02 := own_r3 (Int32.toInt_toInt64 u0) rfl (Int32.toInt_toInt64 u1) rfl (Int32.toInt_toInt64 u2) rfl bu0 bx02 bu1 bx12 bu2 bx22
    rw [← E02] at Y02
    have E10 : (rV 3 1 u5.toInt64 u6.toInt64 0 x10 x20 0) = u5.toInt64 * x10 + u6.toInt64 * x20 := by unfold rV; rw [if_pos (by decide), if_pos (by decide), if_neg (by decide)]
    have Y10 := own_r2 (Int32.toInt_toInt64 u5) rfl (Int32.toInt_toInt64 u6) rfl bu5 bx10 bu6 bx20
    rw [← E10] at Y10
    have E11 : (rV 3 1 u5.toInt64 u6.toInt64 0 x11 x21 0) = u5.toInt64 * x11 + u6.toInt64 * x21 := by unfold rV; rw [if_pos (by decide), if_pos (by decide), if_neg (by decide)]
    have Y11 := own_r2 (Int32.toInt_toInt64 u5) rfl (Int32.toInt_toInt64 u6) rfl bu5 bx11 bu6 bx21
    rw [← E11] at Y11
    have E12 : (rV 3 1 u5.toInt64 u6.toInt64 0 x12 x22 0) = u5.toInt64 * x12 + u6.toInt64 * x22 := by unfold rV; rw [if_pos (by decide), if_pos (by decide), if_neg (by decide)]
    have Y12 := own_r2 (Int32.toInt_toInt64 u5) rfl (Int32.toInt_toInt64 u6) rfl bu5 bx12 bu6 bx22
    rw [← E12] at Y12
    have E20 : (rV 3 2 u10.toInt64 0 0 x20 0 0) = u10.toInt64 * x20 := by unfold rV; rw [if_pos (by decide), if_pos (by decide), if_pos (by decide)]
    have Y20 := own_r1 (Int32.toInt_toInt64 u10) rfl bu10 bx20
    rw [← E20] at Y20
    have E21 : (rV 3 2 u10.toInt64 0 0 x21 0 0) = u10.toInt64 * x21 := by unfold rV; rw [if_pos (by decide), if_pos (by decide), if_pos (by decide)]
    have Y21 := own_r1 (Int32.toInt_toInt64 u10) rfl bu10 bx21
    rw [← E21] at Y21
    have E22 : (rV 3 2 u10.toInt64 0 0 x22 0 0) = u10.toInt64 * x22 := by unfold rV; rw [if_pos (by decide), if_pos (by decide), if_pos (by decide)]
    have Y22 := own_r1 (Int32.toInt_toInt64 u10) rfl bu10 bx22
    rw [← E22] at Y22
    have Y30 := own_r0 rfl bx30
    have Y31 := own_r0 rfl bx31
    have Y32 := own_r0 rfl bx32
    exact rm5_3_3 l Z a0 hw ws n0 ta ca _ _ _ _ _ _ _ _ _ _ _ _ _ _ _ _ _ _ _ _ _ _ _ _ _ _ _ _ _ _ _ _ _ _ _ _ _ _ _ _ _ _ _ _ _ _ x00 _ x01 _ x02 _ x10 _ x11 _ x12 _ x20 _ x21 _ x22 _ x30 _ x31 _ x32 _ h0 hn0 At Ac hne hg (own_i2d u0) bu0 (own_i2d u1) bu1 (own_i2d u2) bu2 (own_i2d u5) bu5 (own_i2d u6) bu6 (own_i2d u10) bu10 zu0 zu5 zu10 Y00.1 Y00.2 rfl Y01.1 Y01.2 rfl Y02.1 Y02.2 rfl Y10.1 Y10.2 rfl Y11.1 Y11.2 rfl Y12.1 Y12.2 rfl Y20.1 Y20.2 rfl Y21.1 Y21.2 rfl Y22.1 Y22.2 rfl Y30.1 Y30.2 rfl Y31.1 Y31.2 rfl Y32.1 Y32.2 rfl (own_r0 rfl bx00).1 bx00 (own_r0 rfl bx01).1 bx01 (own_r0 rfl bx02).1 bx02 (own_r0 rfl bx10).1 bx10 (own_r0 rfl bx11).1 bx11 (own_r0 rfl bx12).1 bx12 (own_r0 rfl bx20).1 bx20 (own_r0 rfl bx21).1 bx21 (own_r0 rfl bx22).1 bx22 (own_r0 rfl bx30).1 bx30 (own_r0 rfl bx31).1 bx31 (own_r0 rfl bx32).1 bx32
theorem own_and3 (x : Int32) : x &&& 3 = 0 ∨ x &&& 3 = 1 ∨ x &&& 3 = 2 ∨ x &&& 3 = 3 := by
  have h : 0 ≤ (x &&& 3).toInt ∧ (x &&& 3).toInt ≤ 3 := c_and x 3 (by decide)
  have e0 : (0 : Int32).toInt = 0 := rfl
  have e1 : (1 : Int32).toInt = 1 := rfl
  have e2 : (2 : Int32).toInt = 2 := rfl
  have e3 : (3 : Int32).toInt = 3 := rfl
  rw [← Int32.toInt_inj, ← Int32.toInt_inj, ← Int32.toInt_inj, ← Int32.toInt_inj]
  omega
set_option maxRecDepth 65536 in
set_option maxHeartbeats 40000000 in
theorem rm0 (l : Launch) (Z : State) (a0 : Array Value) (hw : ∀ d ∈ tables_1, d.before a0 Z = true) (ws : List Jvm.Cond) (n0 : Nat) (y0 y1 y2 : Int64) (y3 : Int32) (h0 : Heap) (hn0 : n0 ≤ h0.size)  :
    Con l Z n0 x code maxLocals ret ws room_1 #[(.long y0), (.long y1), (.long y2), (.int y3)] h0 (fun v h => v = some (.int 1)) := by
  refine con_start (plainFor_of_name (by first | (simp [plainName, overriddenIn]; done) | decide +kernel)) (fr0 := fun m => mkF m 0 #[.val (.long y0), .second, .val (.long y1), .second, .val (.long y2), .second, .val (.int y3), .unset, .unset, .unset, .unset, .unset, .unset, .unset, .unset, .unset, .unset, .unset, .unset, .unset, .unset, .unset, .unset, .unset, .unset, .unset, .unset, .unset, .unset, .unset, .unset, .unset, .unset, .unset, .unset, .unset, .unset, .unset, .unset, .unset, .unset, .unset, .unset, .unset] []) (fun m => by first | (simp [entryFrame, mkF, argsToLocals, Value.category, maxLocals]; done) | rfl) ?_
  intro p e s m below meth c T0 hx hZ hby hml hown hnm hret hlk X0
  replace hown : s.vm.findClass "com/example/orthogon/orthogon/TriangularSolveUpperPinLaw" = some m.cls := hown
  replace hml : c.maxLocals = 44 := hml
  refine g_iload X0 hx (pc' := 2) rfl (hb hby at_0) rfl ?_
  refine g_iconst X0 hx (pc' := 3) (z := (3 : Int32)) rfl (hb hby at_2) rfl ?_
  refine g_iand X0 hx (pc' := 4) rfl (hb hby at_3) ?_
  refine g_absI (fun order h_order => ?_)
  refine g_istore X0 hx (pc' := 6) rfl (hb hby at_4) (l' := #[.val (.long y0), .second, .val (.long y1), .second, .val (.long y2), .second, .val (.int y3), .val (.int order), .unset, .unset, .unset, .unset, .unset, .unset, .unset, .unset, .unset, .unset, .unset, .unset, .unset, .unset, .unset, .unset, .unset, .unset, .unset, .unset, .unset, .unset, .unset, .unset, .unset, .unset, .unset, .unset, .unset, .unset, .unset, .unset, .unset, .unset, .unset, .unset]) rfl ?_
  refine g_iload X0 hx (pc' := 8) rfl (hb hby at_6) rfl ?_
  refine g_iconst X0 hx (pc' := 9) (z := (2 : Int32)) rfl (hb hby at_8) rfl ?_
  refine g_iushr X0 hx (pc' := 10) rfl (hb hby at_9) ?_
  refine g_iconst X0 hx (pc' := 11) (z := (3 : Int32)) rfl (hb hby at_10) rfl ?_
  refine g_iand X0 hx (pc' := 12) rfl (hb hby at_11) ?_
  refine g_absI (fun wd h_wd => ?_)
  refine g_istore X0 hx (pc' := 14) rfl (hb hby at_12) (l' := #[.val (.long y0), .second, .val (.long y1), .second, .val (.long y2), .second, .val (.int y3), .val (.int order), .val (.int wd), .unset, .unset, .unset, .unset, .unset, .unset, .unset, .unset, .unset, .unset, .unset, .unset, .unset, .unset, .unset, .unset, .unset, .unset, .unset, .unset, .unset, .unset, .unset, .unset, .unset, .unset, .unset, .unset, .unset, .unset, .unset, .unset, .unset, .unset, .unset]) rfl ?_
  have ho : order = 0 ∨ order = 1 ∨ order = 2 ∨ order = 3 := by rw [h_order]; exact own_and3 _
  have hw0 : wd = 0 ∨ wd = 1 ∨ wd = 2 ∨ wd = 3 := by rw [h_wd]; exact own_and3 _
  obtain ⟨W, eW, bW, e4, hwd⟩ : ∃ W : Nat, wd.toInt = W ∧ W ≤ 3 ∧ ((4 : Int32) * wd).toInt = ((4 * W : Nat) : Int) ∧ ((wd = 0 ∧ W = 0) ∨ (wd = 1 ∧ W = 1) ∨ (wd = 2 ∧ W = 2) ∨ (wd = 3 ∧ W = 3)) := by
    rcases hw0 with q | q | q | q
    · exact ⟨0, by rw [q]; rfl, by decide, by rw [q]; rfl, Or.inl ⟨q, rfl⟩⟩
    · exact ⟨1, by rw [q]; rfl, by decide, by rw [q]; rfl, Or.inr (Or.inl ⟨q, rfl⟩)⟩
    · exact ⟨2, by rw [q]; rfl, by decide, by rw [q]; rfl, Or.inr (Or.inr (Or.inl ⟨q, rfl⟩))⟩
    · exact ⟨3, by rw [q]; rfl, by decide, by rw [q]; rfl, Or.inr (Or.inr (Or.inr ⟨q, rfl⟩))⟩
  clear h_order h_wd
  refine g_iconst X0 hx (pc' := 15) (z := (4 : Int32)) rfl (hb hby at_14) rfl ?_
  refine g_istore X0 hx (pc' := 17) rfl (hb hby at_15) (l' := #[.val (.long y0), .second, .val (.long y1), .second, .val (.long y2), .second, .val (.int y3), .val (.int order), .val (.int wd), .val (.int (4 : Int32)), .unset, .unset, .unset, .unset, .unset, .unset, .unset, .unset, .unset, .unset, .unset, .unset, .unset, .unset, .unset, .unset, .unset, .unset, .unset, .unset, .unset, .unset, .unset, .unset, .unset, .unset, .unset, .unset, .unset, .unset, .unset, .unset, .unset, .unset]) rfl ?_
  refine g_lloadN X0 hx (pc' := 18) rfl (hb hby at_17) rfl ?_
  refine g_iconst X0 hx (pc' := 19) (z := (0 : Int32)) rfl (hb hby at_18) rfl ?_
  refine g_callS X0 hx hZ hown (hw _ (List.mem_of_getElem? (i := 0) rfl)) (hw _ (List.mem_of_getElem? (i := 1) rfl)) (hw _ (List.mem_of_getElem? (i := 2) rfl)) (hw _ (List.mem_of_getElem? (i := 3) rfl)) (by decide) (rm1 l Z a0 hw [] n0 y0 (0 : Int32) h0 hn0) pd_0 rfl rfl (by rw [hml]; rfl) (pc' := 22) rfl (hb hby at_19) (argsL := [(.long y0), (.int (0 : Int32))]) (rest := []) rfl (W := 0) (Nat.le_of_eq rfl) (by decide) (by decide) (by decide) (by decide) (fun v326 T326 h326 X326 hQ326 => ?_)
  obtain ⟨rfl, he326⟩ := hQ326
  rw [he326] at X326
  show Go p e below s n0 _ _ _ (T326.setTop (mkF m 22 #[.val (.long y0), .second, .val (.long y1), .second, .val (.long y2), .second, .val (.int y3), .val (.int order), .val (.int wd), .val (.int (4 : Int32)), .unset, .unset, .unset, .unset, .unset, .unset, .unset, .unset, .unset, .unset, .unset, .unset, .unset, .unset, .unset, .unset, .unset, .unset, .unset, .unset, .unset, .unset, .unset, .unset, .unset, .unset, .unset, .unset, .unset, .unset, .unset, .unset, .unset, .unset] [(.int (fV y0 (0 : Int32)))]))
  refine g_absI (fun u1 h_u1 => ?_)
  refine g_istore X326 hx (pc' := 24) rfl (hb hby at_22) (l' := #[.val (.long y0), .second, .val (.long y1), .second, .val (.long y2), .second, .val (.int y3), .val (.int order), .val (.int wd), .val (.int (4 : Int32)), .val (.int u1), .unset, .unset, .unset, .unset, .unset, .unset, .unset, .unset, .unset, .unset, .unset, .unset, .unset, .unset, .unset, .unset, .unset, .unset, .unset, .unset, .unset, .unset, .unset, .unset, .unset, .unset, .unset, .unset, .unset, .unset, .unset, .unset, .unset]) rfl ?_
  refine g_lloadN X326 hx (pc' := 25) rfl (hb hby at_24) rfl ?_
  refine g_iconst X326 hx (pc' := 26) (z := (1 : Int32)) rfl (hb hby at_25) rfl ?_
  refine g_callS X326 hx hZ hown (hw _ (List.mem_of_getElem? (i := 0) rfl)) (hw _ (List.mem_of_getElem? (i := 1) rfl)) (hw _ (List.mem_of_getElem? (i := 2) rfl)) (hw _ (List.mem_of_getElem? (i := 3) rfl)) (by decide) (rm1 l Z a0 hw [] n0 y0 (1 : Int32) h0 hn0) pd_0 rfl rfl (by rw [hml]; rfl) (pc' := 29) rfl (hb hby at_26) (argsL := [(.long y0), (.int (1 : Int32))]) (rest := []) rfl (W := 0) (Nat.le_of_eq rfl) (by decide) (by decide) (by decide) (by decide) (fun v327 T327 h327 X327 hQ327 => ?_)
  obtain ⟨rfl, he327⟩ := hQ327
  rw [he327] at X327
  show Go p e below s n0 _ _ _ (T327.setTop (mkF m 29 #[.val (.long y0), .second, .val (.long y1), .second, .val (.long y2), .second, .val (.int y3), .val (.int order), .val (.int wd), .val (.int (4 : Int32)), .val (.int u1), .unset, .unset, .unset, .unset, .unset, .unset, .unset, .unset, .unset, .unset, .unset, .unset, .unset, .unset, .unset, .unset, .unset, .unset, .unset, .unset, .unset, .unset, .unset, .unset, .unset, .unset, .unset, .unset, .unset, .unset, .unset, .unset, .unset] [(.int (fV y0 (1 : Int32)))]))
  refine g_absI (fun u2 h_u2 => ?_)
  refine g_istore X327 hx (pc' := 31) rfl (hb hby at_29) (l' := #[.val (.long y0), .second, .val (.long y1), .second, .val (.long y2), .second, .val (.int y3), .val (.int order), .val (.int wd), .val (.int (4 : Int32)), .val (.int u1), .val (.int u2), .unset, .unset, .unset, .unset, .unset, .unset, .unset, .unset, .unset, .unset, .unset, .unset, .unset, .unset, .unset, .unset, .unset, .unset, .unset, .unset, .unset, .unset, .unset, .unset, .unset, .unset, .unset, .unset, .unset, .unset, .unset, .unset]) rfl ?_
  refine g_lloadN X327 hx (pc' := 32) rfl (hb hby at_31) rfl ?_
  refine g_iconst X327 hx (pc' := 33) (z := (2 : Int32)) rfl (hb hby at_32) rfl ?_
  refine g_callS X327 hx hZ hown (hw _ (List.mem_of_getElem? (i := 0) rfl)) (hw _ (List.mem_of_getElem? (i := 1) rfl)) (hw _ (List.mem_of_getElem? (i := 2) rfl)) (hw _ (List.mem_of_getElem? (i := 3) rfl)) (by decide) (rm1 l Z a0 hw [] n0 y0 (2 : Int32) h0 hn0) pd_0 rfl rfl (by rw [hml]; rfl) (pc' := 36) rfl (hb hby at_33) (argsL := [(.long y0), (.int (2 : Int32))]) (rest := []) rfl (W := 0) (Nat.le_of_eq rfl) (by decide) (by decide) (by decide) (by decide) (fun v328 T328 h328 X328 hQ328 => ?_)
  obtain ⟨rfl, he328⟩ := hQ328
  rw [he328] at X328
  show Go p e below s n0 _ _ _ (T328.setTop (mkF m 36 #[.val (.long y0), .second, .val (.long y1), .second, .val (.long y2), .second, .val (.int y3), .val (.int order), .val (.int wd), .val (.int (4 : Int32)), .val (.int u1), .val (.int u2), .unset, .unset, .unset, .unset, .unset, .unset, .unset, .unset, .unset, .unset, .unset, .unset, .unset, .unset, .unset, .unset, .unset, .unset, .unset, .unset, .unset, .unset, .unset, .unset, .unset, .unset, .unset, .unset, .unset, .unset, .unset, .unset] [(.int (fV y0 (2 : Int32)))]))
  refine g_absI (fun u6 h_u6 => ?_)
  refine g_istore X328 hx (pc' := 38) rfl (hb hby at_36) (l' := #[.val (.long y0), .second, .val (.long y1), .second, .val (.long y2), .second, .val (.int y3), .val (.int order), .val (.int wd), .val (.int (4 : Int32)), .val (.int u1), .val (.int u2), .val (.int u6), .unset, .unset, .unset, .unset, .unset, .unset, .unset, .unset, .unset, .unset, .unset, .unset, .unset, .unset, .unset, .unset, .unset, .unset, .unset, .unset, .unset, .unset, .unset, .unset, .unset, .unset, .unset, .unset, .unset, .unset, .unset]) rfl ?_
  refine g_lloadN X328 hx (pc' := 39) rfl (hb hby at_38) rfl ?_
  refine g_iconst X328 hx (pc' := 40) (z := (0 : Int32)) rfl (hb hby at_39) rfl ?_
  refine g_callS X328 hx hZ hown (hw _ (List.mem_of_getElem? (i := 4) rfl)) (hw _ (List.mem_of_getElem? (i := 5) rfl)) (hw _ (List.mem_of_getElem? (i := 2) rfl)) (hw _ (List.mem_of_getElem? (i := 6) rfl)) (by decide) (rm2 l Z a0 hw [] n0 y0 (0 : Int32) h0 hn0) pd_0 rfl rfl (by rw [hml]; rfl) (pc' := 43) rfl (hb hby at_40) (argsL := [(.long y0), (.int (0 : Int32))]) (rest := []) rfl (W := 0) (Nat.le_of_eq rfl) (by decide) (by decide) (by decide) (by decide) (fun v329 T329 h329 X329 hQ329 => ?_)
  obtain ⟨rfl, he329⟩ := hQ329
  rw [he329] at X329
  show Go p e below s n0 _ _ _ (T329.setTop (mkF m 43 #[.val (.long y0), .second, .val (.long y1), .second, .val (.long y2), .second, .val (.int y3), .val (.int order), .val (.int wd), .val (.int (4 : Int32)), .val (.int u1), .val (.int u2), .val (.int u6), .unset, .unset, .unset, .unset, .unset, .unset, .unset, .unset, .unset, .unset, .unset, .unset, .unset, .unset, .unset, .unset, .unset, .unset, .unset, .unset, .unset, .unset, .unset, .unset, .unset, .unset, .unset, .unset, .unset, .unset, .unset] [(.int (dV y0 (0 : Int32)))]))
  refine g_absI (fun u0 h_u0 => ?_)
  refine g_istore X329 hx (pc' := 45) rfl (hb hby at_43) (l' := #[.val (.long y0), .second, .val (.long y1), .second, .val (.long y2), .second, .val (.int y3), .val (.int order), .val (.int wd), .val (.int (4 : Int32)), .val (.int u1), .val (.int u2), .val (.int u6), .val (.int u0), .unset, .unset, .unset, .unset, .unset, .unset, .unset, .unset, .unset, .unset, .unset, .unset, .unset, .unset, .unset, .unset, .unset, .unset, .unset, .unset, .unset, .unset, .unset, .unset, .unset, .unset, .unset, .unset, .unset, .unset]) rfl ?_
  refine g_lloadN X329 hx (pc' := 46) rfl (hb hby at_45) rfl ?_
  refine g_iconst X329 hx (pc' := 47) (z := (1 : Int32)) rfl (hb hby at_46) rfl ?_
  refine g_callS X329 hx hZ hown (hw _ (List.mem_of_getElem? (i := 4) rfl)) (hw _ (List.mem_of_getElem? (i := 5) rfl)) (hw _ (List.mem_of_getElem? (i := 2) rfl)) (hw _ (List.mem_of_getElem? (i := 6) rfl)) (by decide) (rm2 l Z a0 hw [] n0 y0 (1 : Int32) h0 hn0) pd_0 rfl rfl (by rw [hml]; rfl) (pc' := 50) rfl (hb hby at_47) (argsL := [(.long y0), (.int (1 : Int32))]) (rest := []) rfl (W := 0) (Nat.le_of_eq rfl) (by decide) (by decide) (by decide) (by decide) (fun v330 T330 h330 X330 hQ330 => ?_)
  obtain ⟨rfl, he330⟩ := hQ330
  rw [he330] at X330
  show Go p e below s n0 _ _ _ (T330.setTop (mkF m 50 #[.val (.long y0), .second, .val (.long y1), .second, .val (.long y2), .second, .val (.int y3), .val (.int order), .val (.int wd), .val (.int (4 : Int32)), .val (.int u1), .val (.int u2), .val (.int u6), .val (.int u0), .unset, .unset, .unset, .unset, .unset, .unset, .unset, .unset, .unset, .unset, .unset, .unset, .unset, .unset, .unset, .unset, .unset, .unset, .unset, .unset, .unset, .unset, .unset, .unset, .unset, .unset, .unset, .unset, .unset, .unset] [(.int (dV y0 (1 : Int32)))]))
  refine g_absI (fun u5 h_u5 => ?_)
  refine g_istore X330 hx (pc' := 52) rfl (hb hby at_50) (l' := #[.val (.long y0), .second, .val (.long y1), .second, .val (.long y2), .second, .val (.int y3), .val (.int order), .val (.int wd), .val (.int (4 : Int32)), .val (.int u1), .val (.int u2), .val (.int u6), .val (.int u0), .val (.int u5), .unset, .unset, .unset, .unset, .unset, .unset, .unset, .unset, .unset, .unset, .unset, .unset, .unset, .unset, .unset, .unset, .unset, .unset, .unset, .unset, .unset, .unset, .unset, .unset, .unset, .unset, .unset, .unset, .unset]) rfl ?_
  refine g_lloadN X330 hx (pc' := 53) rfl (hb hby at_52) rfl ?_
  refine g_iconst X330 hx (pc' := 54) (z := (2 : Int32)) rfl (hb hby at_53) rfl ?_
  refine g_callS X330 hx hZ hown (hw _ (List.mem_of_getElem? (i := 4) rfl)) (hw _ (List.mem_of_getElem? (i := 5) rfl)) (hw _ (List.mem_of_getElem? (i := 2) rfl)) (hw _ (List.mem_of_getElem? (i := 6) rfl)) (by decide) (rm2 l Z a0 hw [] n0 y0 (2 : Int32) h0 hn0) pd_0 rfl rfl (by rw [hml]; rfl) (pc' := 57) rfl (hb hby at_54) (argsL := [(.long y0), (.int (2 : Int32))]) (rest := []) rfl (W := 0) (Nat.le_of_eq rfl) (by decide) (by decide) (by decide) (by decide) (fun v331 T331 h331 X331 hQ331 => ?_)
  obtain ⟨rfl, he331⟩ := hQ331
  rw [he331] at X331
  show Go p e below s n0 _ _ _ (T331.setTop (mkF m 57 #[.val (.long y0), .second, .val (.long y1), .second, .val (.long y2), .second, .val (.int y3), .val (.int order), .val (.int wd), .val (.int (4 : Int32)), .val (.int u1), .val (.int u2), .val (.int u6), .val (.int u0), .val (.int u5), .unset, .unset, .unset, .unset, .unset, .unset, .unset, .unset, .unset, .unset, .unset, .unset, .unset, .unset, .unset, .unset, .unset, .unset, .unset, .unset, .unset, .unset, .unset, .unset, .unset, .unset, .unset, .unset, .unset] [(.int (dV y0 (2 : Int32)))]))
  refine g_absI (fun u10 h_u10 => ?_)
  refine g_istore X331 hx (pc' := 59) rfl (hb hby at_57) (l' := #[.val (.long y0), .second, .val (.long y1), .second, .val (.long y2), .second, .val (.int y3), .val (.int order), .val (.int wd), .val (.int (4 : Int32)), .val (.int u1), .val (.int u2), .val (.int u6), .val (.int u0), .val (.int u5), .val (.int u10), .unset, .unset, .unset, .unset, .unset, .unset, .unset, .unset, .unset, .unset, .unset, .unset, .unset, .unset, .unset, .unset, .unset, .unset, .unset, .unset, .unset, .unset, .unset, .unset, .unset, .unset, .unset, .unset]) rfl ?_
  refine g_lload X331 hx (pc' := 61) rfl (hb hby at_59) rfl ?_
  refine g_bipush X331 hx (pc' := 63) (z := (6 : Int32)) rfl (hb hby at_61) rfl ?_
  refine g_callS X331 hx hZ hown (hw _ (List.mem_of_getElem? (i := 0) rfl)) (hw _ (List.mem_of_getElem? (i := 1) rfl)) (hw _ (List.mem_of_getElem? (i := 2) rfl)) (hw _ (List.mem_of_getElem? (i := 3) rfl)) (by decide) (rm1 l Z a0 hw [] n0 y2 (6 : Int32) h0 hn0) pd_0 rfl rfl (by rw [hml]; rfl) (pc' := 66) rfl (hb hby at_63) (argsL := [(.long y2), (.int (6 : Int32))]) (rest := []) rfl (W := 0) (Nat.le_of_eq rfl) (by decide) (by decide) (by decide) (by decide) (fun v332 T332 h332 X332 hQ332 => ?_)
  obtain ⟨rfl, he332⟩ := hQ332
  rw [he332] at X332
  show Go p e below s n0 _ _ _ (T332.setTop (mkF m 66 #[.val (.long y0), .second, .val (.long y1), .second, .val (.long y2), .second, .val (.int y3), .val (.int order), .val (.int wd), .val (.int (4 : Int32)), .val (.int u1), .val (.int u2), .val (.int u6), .val (.int u0), .val (.int u5), .val (.int u10), .unset, .unset, .unset, .unset, .unset, .unset, .unset, .unset, .unset, .unset, .unset, .unset, .unset, .unset, .unset, .unset, .unset, .unset, .unset, .unset, .unset, .unset, .unset, .unset, .unset, .unset, .unset, .unset] [(.int (fV y2 (6 : Int32)))]))
  refine g_absI (fun g h_g => ?_)
  refine g_istore X332 hx (pc' := 68) rfl (hb hby at_66) (l' := #[.val (.long y0), .second, .val (.long y1), .second, .val (.long y2), .second, .val (.int y3), .val (.int order), .val (.int wd), .val (.int (4 : Int32)), .val (.int u1), .val (.int u2), .val (.int u6), .val (.int u0), .val (.int u5), .val (.int u10), .val (.int g), .unset, .unset, .unset, .unset, .unset, .unset, .unset, .unset, .unset, .unset, .unset, .unset, .unset, .unset, .unset, .unset, .unset, .unset, .unset, .unset, .unset, .unset, .unset, .unset, .unset, .unset, .unset]) rfl ?_
  refine g_lload X332 hx (pc' := 70) rfl (hb hby at_68) rfl ?_
  refine g_bipush X332 hx (pc' := 72) (z := (7 : Int32)) rfl (hb hby at_70) rfl ?_
  refine g_callS X332 hx hZ hown (hw _ (List.mem_of_getElem? (i := 0) rfl)) (hw _ (List.mem_of_getElem? (i := 1) rfl)) (hw _ (List.mem_of_getElem? (i := 2) rfl)) (hw _ (List.mem_of_getElem? (i := 3) rfl)) (by decide) (rm1 l Z a0 hw [] n0 y2 (7 : Int32) h0 hn0) pd_0 rfl rfl (by rw [hml]; rfl) (pc' := 75) rfl (hb hby at_72) (argsL := [(.long y2), (.int (7 : Int32))]) (rest := []) rfl (W := 0) (Nat.le_of_eq rfl) (by decide) (by decide) (by decide) (by decide) (fun v333 T333 h333 X333 hQ333 => ?_)
  obtain ⟨rfl, he333⟩ := hQ333
  rw [he333] at X333
  show Go p e below s n0 _ _ _ (T333.setTop (mkF m 75 #[.val (.long y0), .second, .val (.long y1), .second, .val (.long y2), .second, .val (.int y3), .val (.int order), .val (.int wd), .val (.int (4 : Int32)), .val (.int u1), .val (.int u2), .val (.int u6), .val (.int u0), .val (.int u5), .val (.int u10), .val (.int g), .unset, .unset, .unset, .unset, .unset, .unset, .unset, .unset, .unset, .unset, .unset, .unset, .unset, .unset, .unset, .unset, .unset, .unset, .unset, .unset, .unset, .unset, .unset, .unset, .unset, .unset, .unset] [(.int (fV y2 (7 : Int32)))]))
  refine g_absI (fun g2 h_g2 => ?_)
  refine g_istore X333 hx (pc' := 77) rfl (hb hby at_75) (l' := #[.val (.long y0), .second, .val (.long y1), .second, .val (.long y2), .second, .val (.int y3), .val (.int order), .val (.int wd), .val (.int (4 : Int32)), .val (.int u1), .val (.int u2), .val (.int u6), .val (.int u0), .val (.int u5), .val (.int u10), .val (.int g), .val (.int g2), .unset, .unset, .unset, .unset, .unset, .unset, .unset, .unset, .unset, .unset, .unset, .unset, .unset, .unset, .unset, .unset, .unset, .unset, .unset, .unset, .unset, .unset, .unset, .unset, .unset, .unset]) rfl ?_
  refine g_bipush X333 hx (pc' := 79) (z := (16 : Int32)) rfl (hb hby at_77) rfl ?_
  refine g_newD X333 hx hZ (hw _ (List.mem_of_getElem? (i := 7) rfl)) (N := 16) (by decide) (cap := 16) (Nat.le_refl _) (by decide) (pc' := 81) rfl (hb hby at_79) (by decide) (by decide) (fun T334 h334 a334 ha334 X334 E334 N334 => ?_)
  have G_a334 : n0 ≤ a334 := by rw [ha334]; exact hn0
  have Zs334 : n0 ≤ h334.size := Nat.le_trans hn0 E334.1
  have V334 : AD Z h334 a334 [(0 : UInt64), (0 : UInt64), (0 : UInt64), (0 : UInt64), (0 : UInt64), (0 : UInt64), (0 : UInt64), (0 : UInt64), (0 : UInt64), (0 : UInt64), (0 : UInt64), (0 : UInt64), (0 : UInt64), (0 : UInt64), (0 : UInt64), (0 : UInt64)] := N334
  refine g_astore X334 hx (pc' := 83) rfl (hb hby at_81) rfl (l' := #[.val (.long y0), .second, .val (.long y1), .second, .val (.long y2), .second, .val (.int y3), .val (.int order), .val (.int wd), .val (.int (4 : Int32)), .val (.int u1), .val (.int u2), .val (.int u6), .val (.int u0), .val (.int u5), .val (.int u10), .val (.int g), .val (.int g2), .val (.ref a334), .unset, .unset, .unset, .unset, .unset, .unset, .unset, .unset, .unset, .unset, .unset, .unset, .unset, .unset, .unset, .unset, .unset, .unset, .unset, .unset, .unset, .unset, .unset, .unset, .unset]) rfl ?_
  have bu1 : u1.toInt.natAbs ≤ 128 := by rw [h_u1]; exact f_b _ _
  have bu2 : u2.toInt.natAbs ≤ 128 := by rw [h_u2]; exact f_b _ _
  have bu6 : u6.toInt.natAbs ≤ 128 := by rw [h_u6]; exact f_b _ _
  have bu0 : u0.toInt.natAbs ≤ 128 := by rw [h_u0]; exact (d_b _ _).2
  have zu0 : u0.toInt ≠ 0 := by rw [h_u0]; exact (d_b _ _).1
  have bu5 : u5.toInt.natAbs ≤ 128 := by rw [h_u5]; exact (d_b _ _).2
  have zu5 : u5.toInt ≠ 0 := by rw [h_u5]; exact (d_b _ _).1
  have bu10 : u10.toInt.natAbs ≤ 128 := by rw [h_u10]; exact (d_b _ _).2
  have zu10 : u10.toInt ≠ 0 := by rw [h_u10]; exact (d_b _ _).1
  clear h_u1 h_u2 h_u6 h_u0 h_u5 h_u10 h_g h_g2
  refine g_aload X334 hx (pc' := 85) rfl (hb hby at_83) rfl rfl ?_
  refine g_iconst X334 hx (pc' := 86) (z := (0 : Int32)) rfl (hb hby at_85) rfl ?_
  refine g_iload X334 hx (pc' := 88) rfl (hb hby at_86) rfl ?_
  refine g_i2d X334 hx (pc' := 89) rfl (hb hby at_88) ?_
  refine g_dastore X334 hx hZ V334 (i := 0) (by decide) (show (0 : Nat) < 16 by decide) G_a334 (pc' := 90) rfl (hb hby at_89) (fun T335 h335 X335 W335 N335 => ?_)
  have f336 := (by have q := (Keep.of_wr W335).1; exact Nat.le_trans Zs334 q : n0 ≤ h335.size)
  have V335 : AD Z h335 a334 [(FP.i2d u0), (0 : UInt64), (0 : UInt64), (0 : UInt64), (0 : UInt64), (0 : UInt64), (0 : UInt64), (0 : UInt64), (0 : UInt64), (0 : UInt64), (0 : UInt64), (0 : UInt64), (0 : UInt64), (0 : UInt64), (0 : UInt64), (0 : UInt64)] := N335
  refine g_aload X335 hx (pc' := 92) rfl (hb hby at_90) rfl rfl ?_
  refine g_iconst X335 hx (pc' := 93) (z := (1 : Int32)) rfl (hb hby at_92) rfl ?_
  refine g_iload X335 hx (pc' := 95) rfl (hb hby at_93) rfl ?_
  refine g_i2d X335 hx (pc' := 96) rfl (hb hby at_95) ?_
  refine g_dastore X335 hx hZ V335 (i := 1) (by decide) (show (1 : Nat) < 16 by decide) G_a334 (pc' := 97) rfl (hb hby at_96) (fun T337 h337 X337 W337 N337 => ?_)
  have f338 := (by have q := (Keep.of_wr W337).1; exact Nat.le_trans f336 q : n0 ≤ h337.size)
  have V337 : AD Z h337 a334 [(FP.i2d u0), (FP.i2d u1), (0 : UInt64), (0 : UInt64), (0 : UInt64), (0 : UInt64), (0 : UInt64), (0 : UInt64), (0 : UInt64), (0 : UInt64), (0 : UInt64), (0 : UInt64), (0 : UInt64), (0 : UInt64), (0 : UInt64), (0 : UInt64)] := N337
  refine g_aload X337 hx (pc' := 99) rfl (hb hby at_97) rfl rfl ?_
  refine g_iconst X337 hx (pc' := 100) (z := (2 : Int32)) rfl (hb hby at_99) rfl ?_
  refine g_iload X337 hx (pc' := 102) rfl (hb hby at_100) rfl ?_
  refine g_i2d X337 hx (pc' := 103) rfl (hb hby at_102) ?_
  refine g_dastore X337 hx hZ V337 (i := 2) (by decide) (show (2 : Nat) < 16 by decide) G_a334 (pc' := 104) rfl (hb hby at_103) (fun T339 h339 X339 W339 N339 => ?_)
  have f340 := (by have q := (Keep.of_wr W339).1; exact Nat.le_trans f338 q : n0 ≤ h339.size)
  have V339 : AD Z h339 a334 [(FP.i2d u0), (FP.i2d u1), (FP.i2d u2), (0 : UInt64), (0 : UInt64), (0 : UInt64), (0 : UInt64), (0 : UInt64), (0 : UInt64), (0 : UInt64), (0 : UInt64), (0 : UInt64), (0 : UInt64), (0 : UInt64), (0 : UInt64), (0 : UInt64)] := N339
  refine g_aload X339 hx (pc' := 106) rfl (hb hby at_104) rfl rfl ?_
  refine g_iconst X339 hx (pc' := 107) (z := (3 : Int32)) rfl (hb hby at_106) rfl ?_
  refine g_iload X339 hx (pc' := 109) rfl (hb hby at_107) rfl ?_
  refine g_i2d X339 hx (pc' := 110) rfl (hb hby at_109) ?_
  refine g_dastore X339 hx hZ V339 (i := 3) (by decide) (show (3 : Nat) < 16 by decide) G_a334 (pc' := 111) rfl (hb hby at_110) (fun T341 h341 X341 W341 N341 => ?_)
  have f342 := (by have q := (Keep.of_wr W341).1; exact Nat.le_trans f340 q : n0 ≤ h341.size)
  have V341 : AD Z h341 a334 [(FP.i2d u0), (FP.i2d u1), (FP.i2d u2), (FP.i2d g), (0 : UInt64), (0 : UInt64), (0 : UInt64), (0 : UInt64), (0 : UInt64), (0 : UInt64), (0 : UInt64), (0 : UInt64), (0 : UInt64), (0 : UInt64), (0 : UInt64), (0 : UInt64)] := N341
  refine g_aload X341 hx (pc' := 113) rfl (hb hby at_111) rfl rfl ?_
  refine g_iconst X341 hx (pc' := 114) (z := (4 : Int32)) rfl (hb hby at_113) rfl ?_
  refine g_lloadN X341 hx (pc' := 115) rfl (hb hby at_114) rfl ?_
  refine g_iconst X341 hx (pc' := 116) (z := (3 : Int32)) rfl (hb hby at_115) rfl ?_
  refine g_callS X341 hx hZ hown (hw _ (List.mem_of_getElem? (i := 0) rfl)) (hw _ (List.mem_of_getElem? (i := 1) rfl)) (hw _ (List.mem_of_getElem? (i := 2) rfl)) (hw _ (List.mem_of_getElem? (i := 3) rfl)) (by decide) (rm1 l Z a0 hw [] n0 y0 (3 : Int32) h341 f342) pd_0 rfl rfl (by rw [hml]; rfl) (pc' := 119) rfl (hb hby at_116) (argsL := [(.long y0), (.int (3 : Int32))]) (rest := [(.int (4 : Int32)), (.ref a334)]) rfl (W := 2) (Nat.le_of_eq rfl) (by decide) (by decide) (by decide) (by decide) (fun v343 T343 h343 X343 hQ343 => ?_)
  obtain ⟨rfl, he343⟩ := hQ343
  rw [he343] at X343
  show Go p e below s n0 _ _ _ (T343.setTop (mkF m 119 #[.val (.long y0), .second, .val (.long y1), .second, .val (.long y2), .second, .val (.int y3), .val (.int order), .val (.int wd), .val (.int (4 : Int32)), .val (.int u1), .val (.int u2), .val (.int u6), .val (.int u0), .val (.int u5), .val (.int u10), .val (.int g), .val (.int g2), .val (.ref a334), .unset, .unset, .unset, .unset, .unset, .unset, .unset, .unset, .unset, .unset, .unset, .unset, .unset, .unset, .unset, .unset, .unset, .unset, .unset, .unset, .unset, .unset, .unset, .unset, .unset] [(.int (fV y0 (3 : Int32))), (.int (4 : Int32)), (.ref a334)]))
  refine g_i2d X343 hx (pc' := 120) rfl (hb hby at_119) ?_
  refine g_dastore X343 hx hZ V341 (i := 4) (by decide) (show (4 : Nat) < 16 by decide) G_a334 (pc' := 121) rfl (hb hby at_120) (fun T344 h344 X344 W344 N344 => ?_)
  have f345 := (by have q := (Keep.of_wr W344).1; exact Nat.le_trans f342 q : n0 ≤ h344.size)
  have V344 : AD Z h344 a334 [(FP.i2d u0), (FP.i2d u1), (FP.i2d u2), (FP.i2d g), (FP.i2d (fV y0 (3 : Int32))), (0 : UInt64), (0 : UInt64), (0 : UInt64), (0 : UInt64), (0 : UInt64), (0 : UInt64), (0 : UInt64), (0 : UInt64), (0 : UInt64), (0 : UInt64), (0 : UInt64)] := N344
  refine g_aload X344 hx (pc' := 123) rfl (hb hby at_121) rfl rfl ?_
  refine g_iconst X344 hx (pc' := 124) (z := (5 : Int32)) rfl (hb hby at_123) rfl ?_
  refine g_iload X344 hx (pc' := 126) rfl (hb hby at_124) rfl ?_
  refine g_i2d X344 hx (pc' := 127) rfl (hb hby at_126) ?_
  refine g_dastore X344 hx hZ V344 (i := 5) (by decide) (show (5 : Nat) < 16 by decide) G_a334 (pc' := 128) rfl (hb hby at_127) (fun T346 h346 X346 W346 N346 => ?_)
  have f347 := (by have q := (Keep.of_wr W346).1; exact Nat.le_trans f345 q : n0 ≤ h346.size)
  have V346 : AD Z h346 a334 [(FP.i2d u0), (FP.i2d u1), (FP.i2d u2), (FP.i2d g), (FP.i2d (fV y0 (3 : Int32))), (FP.i2d u5), (0 : UInt64), (0 : UInt64), (0 : UInt64), (0 : UInt64), (0 : UInt64), (0 : UInt64), (0 : UInt64), (0 : UInt64), (0 : UInt64), (0 : UInt64)] := N346
  refine g_aload X346 hx (pc' := 130) rfl (hb hby at_128) rfl rfl ?_
  refine g_bipush X346 hx (pc' := 132) (z := (6 : Int32)) rfl (hb hby at_130) rfl ?_
  refine g_iload X346 hx (pc' := 134) rfl (hb hby at_132) rfl ?_
  refine g_i2d X346 hx (pc' := 135) rfl (hb hby at_134) ?_
  refine g_dastore X346 hx hZ V346 (i := 6) (by decide) (show (6 : Nat) < 16 by decide) G_a334 (pc' := 136) rfl (hb hby at_135) (fun T348 h348 X348 W348 N348 => ?_)
  have f349 := (by have q := (Keep.of_wr W348).1; exact Nat.le_trans f347 q : n0 ≤ h348.size)
  have V348 : AD Z h348 a334 [(FP.i2d u0), (FP.i2d u1), (FP.i2d u2), (FP.i2d g), (FP.i2d (fV y0 (3 : Int32))), (FP.i2d u5), (FP.i2d u6), (0 : UInt64), (0 : UInt64), (0 : UInt64), (0 : UInt64), (0 : UInt64), (0 : UInt64), (0 : UInt64), (0 : UInt64), (0 : UInt64)] := N348
  refine g_aload X348 hx (pc' := 138) rfl (hb hby at_136) rfl rfl ?_
  refine g_bipush X348 hx (pc' := 140) (z := (7 : Int32)) rfl (hb hby at_138) rfl ?_
  refine g_iload X348 hx (pc' := 142) rfl (hb hby at_140) rfl ?_
  refine g_i2d X348 hx (pc' := 143) rfl (hb hby at_142) ?_
  refine g_dastore X348 hx hZ V348 (i := 7) (by decide) (show (7 : Nat) < 16 by decide) G_a334 (pc' := 144) rfl (hb hby at_143) (fun T350 h350 X350 W350 N350 => ?_)
  have f351 := (by have q := (Keep.of_wr W350).1; exact Nat.le_trans f349 q : n0 ≤ h350.size)
  have V350 : AD Z h350 a334 [(FP.i2d u0), (FP.i2d u1), (FP.i2d u2), (FP.i2d g), (FP.i2d (fV y0 (3 : Int32))), (FP.i2d u5), (FP.i2d u6), (FP.i2d g), (0 : UInt64), (0 : UInt64), (0 : UInt64), (0 : UInt64), (0 : UInt64), (0 : UInt64), (0 : UInt64), (0 : UInt64)] := N350
  refine g_aload X350 hx (pc' := 146) rfl (hb hby at_144) rfl rfl ?_
  refine g_bipush X350 hx (pc' := 148) (z := (8 : Int32)) rfl (hb hby at_146) rfl ?_
  refine g_lloadN X350 hx (pc' := 149) rfl (hb hby at_148) rfl ?_
  refine g_iconst X350 hx (pc' := 150) (z := (4 : Int32)) rfl (hb hby at_149) rfl ?_
  refine g_callS X350 hx hZ hown (hw _ (List.mem_of_getElem? (i := 0) rfl)) (hw _ (List.mem_of_getElem? (i := 1) rfl)) (hw _ (List.mem_of_getElem? (i := 2) rfl)) (hw _ (List.mem_of_getElem? (i := 3) rfl)) (by decide) (rm1 l Z a0 hw [] n0 y0 (4 : Int32) h350 f351) pd_0 rfl rfl (by rw [hml]; rfl) (pc' := 153) rfl (hb hby at_150) (argsL := [(.long y0), (.int (4 : Int32))]) (rest := [(.int (8 : Int32)), (.ref a334)]) rfl (W := 2) (Nat.le_of_eq rfl) (by decide) (by decide) (by decide) (by decide) (fun v352 T352 h352 X352 hQ352 => ?_)
  obtain ⟨rfl, he352⟩ := hQ352
  rw [he352] at X352
  show Go p e below s n0 _ _ _ (T352.setTop (mkF m 153 #[.val (.long y0), .second, .val (.long y1), .second, .val (.long y2), .second, .val (.int y3), .val (.int order), .val (.int wd), .val (.int (4 : Int32)), .val (.int u1), .val (.int u2), .val (.int u6), .val (.int u0), .val (.int u5), .val (.int u10), .val (.int g), .val (.int g2), .val (.ref a334), .unset, .unset, .unset, .unset, .unset, .unset, .unset, .unset, .unset, .unset, .unset, .unset, .unset, .unset, .unset, .unset, .unset, .unset, .unset, .unset, .unset, .unset, .unset, .unset, .unset] [(.int (fV y0 (4 : Int32))), (.int (8 : Int32)), (.ref a334)]))
  refine g_i2d X352 hx (pc' := 154) rfl (hb hby at_153) ?_
  refine g_dastore X352 hx hZ V350 (i := 8) (by decide) (show (8 : Nat) < 16 by decide) G_a334 (pc' := 155) rfl (hb hby at_154) (fun T353 h353 X353 W353 N353 => ?_)
  have f354 := (by have q := (Keep.of_wr W353).1; exact Nat.le_trans f351 q : n0 ≤ h353.size)
  have V353 : AD Z h353 a334 [(FP.i2d u0), (FP.i2d u1), (FP.i2d u2), (FP.i2d g), (FP.i2d (fV y0 (3 : Int32))), (FP.i2d u5), (FP.i2d u6), (FP.i2d g), (FP.i2d (fV y0 (4 : Int32))), (0 : UInt64), (0 : UInt64), (0 : UInt64), (0 : UInt64), (0 : UInt64), (0 : UInt64), (0 : UInt64)] := N353
  refine g_aload X353 hx (pc' := 157) rfl (hb hby at_155) rfl rfl ?_
  refine g_bipush X353 hx (pc' := 159) (z := (9 : Int32)) rfl (hb hby at_157) rfl ?_
  refine g_lloadN X353 hx (pc' := 160) rfl (hb hby at_159) rfl ?_
  refine g_iconst X353 hx (pc' := 161) (z := (5 : Int32)) rfl (hb hby at_160) rfl ?_
  refine g_callS X353 hx hZ hown (hw _ (List.mem_of_getElem? (i := 0) rfl)) (hw _ (List.mem_of_getElem? (i := 1) rfl)) (hw _ (List.mem_of_getElem? (i := 2) rfl)) (hw _ (List.mem_of_getElem? (i := 3) rfl)) (by decide) (rm1 l Z a0 hw [] n0 y0 (5 : Int32) h353 f354) pd_0 rfl rfl (by rw [hml]; rfl) (pc' := 164) rfl (hb hby at_161) (argsL := [(.long y0), (.int (5 : Int32))]) (rest := [(.int (9 : Int32)), (.ref a334)]) rfl (W := 2) (Nat.le_of_eq rfl) (by decide) (by decide) (by decide) (by decide) (fun v355 T355 h355 X355 hQ355 => ?_)
  obtain ⟨rfl, he355⟩ := hQ355
  rw [he355] at X355
  show Go p e below s n0 _ _ _ (T355.setTop (mkF m 164 #[.val (.long y0), .second, .val (.long y1), .second, .val (.long y2), .second, .val (.int y3), .val (.int order), .val (.int wd), .val (.int (4 : Int32)), .val (.int u1), .val (.int u2), .val (.int u6), .val (.int u0), .val (.int u5), .val (.int u10), .val (.int g), .val (.int g2), .val (.ref a334), .unset, .unset, .unset, .unset, .unset, .unset, .unset, .unset, .unset, .unset, .unset, .unset, .unset, .unset, .unset, .unset, .unset, .unset, .unset, .unset, .unset, .unset, .unset, .unset, .unset] [(.int (fV y0 (5 : Int32))), (.int (9 : Int32)), (.ref a334)]))
  refine g_i2d X355 hx (pc' := 165) rfl (hb hby at_164) ?_
  refine g_dastore X355 hx hZ V353 (i := 9) (by decide) (show (9 : Nat) < 16 by decide) G_a334 (pc' := 166) rfl (hb hby at_165) (fun T356 h356 X356 W356 N356 => ?_)
  have f357 := (by have q := (Keep.of_wr W356).1; exact Nat.le_trans f354 q : n0 ≤ h356.size)
  have V356 : AD Z h356 a334 [(FP.i2d u0), (FP.i2d u1), (FP.i2d u2), (FP.i2d g), (FP.i2d (fV y0 (3 : Int32))), (FP.i2d u5), (FP.i2d u6), (FP.i2d g), (FP.i2d (fV y0 (4 : Int32))), (FP.i2d (fV y0 (5 : Int32))), (0 : UInt64), (0 : UInt64), (0 : UInt64), (0 : UInt64), (0 : UInt64), (0 : UInt64)] := N356
  refine g_aload X356 hx (pc' := 168) rfl (hb hby at_166) rfl rfl ?_
  refine g_bipush X356 hx (pc' := 170) (z := (10 : Int32)) rfl (hb hby at_168) rfl ?_
  refine g_iload X356 hx (pc' := 172) rfl (hb hby at_170) rfl ?_
  refine g_i2d X356 hx (pc' := 173) rfl (hb hby at_172) ?_
  refine g_dastore X356 hx hZ V356 (i := 10) (by decide) (show (10 : Nat) < 16 by decide) G_a334 (pc' := 174) rfl (hb hby at_173) (fun T358 h358 X358 W358 N358 => ?_)
  have f359 := (by have q := (Keep.of_wr W358).1; exact Nat.le_trans f357 q : n0 ≤ h358.size)
  have V358 : AD Z h358 a334 [(FP.i2d u0), (FP.i2d u1), (FP.i2d u2), (FP.i2d g), (FP.i2d (fV y0 (3 : Int32))), (FP.i2d u5), (FP.i2d u6), (FP.i2d g), (FP.i2d (fV y0 (4 : Int32))), (FP.i2d (fV y0 (5 : Int32))), (FP.i2d u10), (0 : UInt64), (0 : UInt64), (0 : UInt64), (0 : UInt64), (0 : UInt64)] := N358
  refine g_aload X358 hx (pc' := 176) rfl (hb hby at_174) rfl rfl ?_
  refine g_bipush X358 hx (pc' := 178) (z := (11 : Int32)) rfl (hb hby at_176) rfl ?_
  refine g_iload X358 hx (pc' := 180) rfl (hb hby at_178) rfl ?_
  refine g_i2d X358 hx (pc' := 181) rfl (hb hby at_180) ?_
  refine g_dastore X358 hx hZ V358 (i := 11) (by decide) (show (11 : Nat) < 16 by decide) G_a334 (pc' := 182) rfl (hb hby at_181) (fun T360 h360 X360 W360 N360 => ?_)
  have f361 := (by have q := (Keep.of_wr W360).1; exact Nat.le_trans f359 q : n0 ≤ h360.size)
  have V360 : AD Z h360 a334 [(FP.i2d u0), (FP.i2d u1), (FP.i2d u2), (FP.i2d g), (FP.i2d (fV y0 (3 : Int32))), (FP.i2d u5), (FP.i2d u6), (FP.i2d g), (FP.i2d (fV y0 (4 : Int32))), (FP.i2d (fV y0 (5 : Int32))), (FP.i2d u10), (FP.i2d g), (0 : UInt64), (0 : UInt64), (0 : UInt64), (0 : UInt64)] := N360
  refine g_aload X360 hx (pc' := 184) rfl (hb hby at_182) rfl rfl ?_
  refine g_bipush X360 hx (pc' := 186) (z := (12 : Int32)) rfl (hb hby at_184) rfl ?_
  refine g_iload X360 hx (pc' := 188) rfl (hb hby at_186) rfl ?_
  refine g_i2d X360 hx (pc' := 189) rfl (hb hby at_188) ?_
  refine g_dastore X360 hx hZ V360 (i := 12) (by decide) (show (12 : Nat) < 16 by decide) G_a334 (pc' := 190) rfl (hb hby at_189) (fun T362 h362 X362 W362 N362 => ?_)
  have f363 := (by have q := (Keep.of_wr W362).1; exact Nat.le_trans f361 q : n0 ≤ h362.size)
  have V362 : AD Z h362 a334 [(FP.i2d u0), (FP.i2d u1), (FP.i2d u2), (FP.i2d g), (FP.i2d (fV y0 (3 : Int32))), (FP.i2d u5), (FP.i2d u6), (FP.i2d g), (FP.i2d (fV y0 (4 : Int32))), (FP.i2d (fV y0 (5 : Int32))), (FP.i2d u10), (FP.i2d g), (FP.i2d g2), (0 : UInt64), (0 : UInt64), (0 : UInt64)] := N362
  refine g_aload X362 hx (pc' := 192) rfl (hb hby at_190) rfl rfl ?_
  refine g_bipush X362 hx (pc' := 194) (z := (13 : Int32)) rfl (hb hby at_192) rfl ?_
  refine g_iload X362 hx (pc' := 196) rfl (hb hby at_194) rfl ?_
  refine g_i2d X362 hx (pc' := 197) rfl (hb hby at_196) ?_
  refine g_dastore X362 hx hZ V362 (i := 13) (by decide) (show (13 : Nat) < 16 by decide) G_a334 (pc' := 198) rfl (hb hby at_197) (fun T364 h364 X364 W364 N364 => ?_)
  have f365 := (by have q := (Keep.of_wr W364).1; exact Nat.le_trans f363 q : n0 ≤ h364.size)
  have V364 : AD Z h364 a334 [(FP.i2d u0), (FP.i2d u1), (FP.i2d u2), (FP.i2d g), (FP.i2d (fV y0 (3 : Int32))), (FP.i2d u5), (FP.i2d u6), (FP.i2d g), (FP.i2d (fV y0 (4 : Int32))), (FP.i2d (fV y0 (5 : Int32))), (FP.i2d u10), (FP.i2d g), (FP.i2d g2), (FP.i2d g2), (0 : UInt64), (0 : UInt64)] := N364
  refine g_aload X364 hx (pc' := 200) rfl (hb hby at_198) rfl rfl ?_
  refine g_bipush X364 hx (pc' := 202) (z := (14 : Int32)) rfl (hb hby at_200) rfl ?_
  refine g_iload X364 hx (pc' := 204) rfl (hb hby at_202) rfl ?_
  refine g_i2d X364 hx (pc' := 205) rfl (hb hby at_204) ?_
  refine g_dastore X364 hx hZ V364 (i := 14) (by decide) (show (14 : Nat) < 16 by decide) G_a334 (pc' := 206) rfl (hb hby at_205) (fun T366 h366 X366 W366 N366 => ?_)
  have f367 := (by have q := (Keep.of_wr W366).1; exact Nat.le_trans f365 q : n0 ≤ h366.size)
  have V366 : AD Z h366 a334 [(FP.i2d u0), (FP.i2d u1), (FP.i2d u2), (FP.i2d g), (FP.i2d (fV y0 (3 : Int32))), (FP.i2d u5), (FP.i2d u6), (FP.i2d g), (FP.i2d (fV y0 (4 : Int32))), (FP.i2d (fV y0 (5 : Int32))), (FP.i2d u10), (FP.i2d g), (FP.i2d g2), (FP.i2d g2), (FP.i2d g2), (0 : UInt64)] := N366
  refine g_aload X366 hx (pc' := 208) rfl (hb hby at_206) rfl rfl ?_
  refine g_bipush X366 hx (pc' := 210) (z := (15 : Int32)) rfl (hb hby at_208) rfl ?_
  refine g_iload X366 hx (pc' := 212) rfl (hb hby at_210) rfl ?_
  refine g_i2d X366 hx (pc' := 213) rfl (hb hby at_212) ?_
  refine g_dastore X366 hx hZ V366 (i := 15) (by decide) (show (15 : Nat) < 16 by decide) G_a334 (pc' := 214) rfl (hb hby at_213) (fun T368 h368 X368 W368 N368 => ?_)
  have f369 := (by have q := (Keep.of_wr W368).1; exact Nat.le_trans f367 q : n0 ≤ h368.size)
  have V368 : AD Z h368 a334 [(FP.i2d u0), (FP.i2d u1), (FP.i2d u2), (FP.i2d g), (FP.i2d (fV y0 (3 : Int32))), (FP.i2d u5), (FP.i2d u6), (FP.i2d g), (FP.i2d (fV y0 (4 : Int32))), (FP.i2d (fV y0 (5 : Int32))), (FP.i2d u10), (FP.i2d g), (FP.i2d g2), (FP.i2d g2), (FP.i2d g2), (FP.i2d g2)] := N368
  refine g_lloadN X368 hx (pc' := 215) rfl (hb hby at_214) rfl ?_
  refine g_iconst X368 hx (pc' := 216) (z := (0 : Int32)) rfl (hb hby at_215) rfl ?_
  refine g_callS X368 hx hZ hown (hw _ (List.mem_of_getElem? (i := 0) rfl)) (hw _ (List.mem_of_getElem? (i := 1) rfl)) (hw _ (List.mem_of_getElem? (i := 2) rfl)) (hw _ (List.mem_of_getElem? (i := 3) rfl)) (by decide) (rm1 l Z a0 hw [] n0 y1 (0 : Int32) h368 f369) pd_0 rfl rfl (by rw [hml]; rfl) (pc' := 219) rfl (hb hby at_216) (argsL := [(.long y1), (.int (0 : Int32))]) (rest := []) rfl (W := 0) (Nat.le_of_eq rfl) (by decide) (by decide) (by decide) (by decide) (fun v370 T370 h370 X370 hQ370 => ?_)
  obtain ⟨rfl, he370⟩ := hQ370
  rw [he370] at X370
  show Go p e below s n0 _ _ _ (T370.setTop (mkF m 219 #[.val (.long y0), .second, .val (.long y1), .second, .val (.long y2), .second, .val (.int y3), .val (.int order), .val (.int wd), .val (.int (4 : Int32)), .val (.int u1), .val (.int u2), .val (.int u6), .val (.int u0), .val (.int u5), .val (.int u10), .val (.int g), .val (.int g2), .val (.ref a334), .unset, .unset, .unset, .unset, .unset, .unset, .unset, .unset, .unset, .unset, .unset, .unset, .unset, .unset, .unset, .unset, .unset, .unset, .unset, .unset, .unset, .unset, .unset, .unset, .unset] [(.int (fV y1 (0 : Int32)))]))
  refine g_i2l X370 hx (pc' := 220) rfl (hb hby at_219) ?_
  refine g_absL (fun x00 h_x00 => ?_)
  refine g_lstore X370 hx (pc' := 222) rfl (hb hby at_220) (l' := #[.val (.long y0), .second, .val (.long y1), .second, .val (.long y2), .second, .val (.int y3), .val (.int order), .val (.int wd), .val (.int (4 : Int32)), .val (.int u1), .val (.int u2), .val (.int u6), .val (.int u0), .val (.int u5), .val (.int u10), .val (.int g), .val (.int g2), .val (.ref a334), .val (.long x00), .second, .unset, .unset, .unset, .unset, .unset, .unset, .unset, .unset, .unset, .unset, .unset, .unset, .unset, .unset, .unset, .unset, .unset, .unset, .unset, .unset, .unset, .unset, .unset]) rfl ?_
  refine g_lloadN X370 hx (pc' := 223) rfl (hb hby at_222) rfl ?_
  refine g_iconst X370 hx (pc' := 224) (z := (1 : Int32)) rfl (hb hby at_223) rfl ?_
  refine g_callS X370 hx hZ hown (hw _ (List.mem_of_getElem? (i := 0) rfl)) (hw _ (List.mem_of_getElem? (i := 1) rfl)) (hw _ (List.mem_of_getElem? (i := 2) rfl)) (hw _ (List.mem_of_getElem? (i := 3) rfl)) (by decide) (rm1 l Z a0 hw [] n0 y1 (1 : Int32) h368 f369) pd_0 rfl rfl (by rw [hml]; rfl) (pc' := 227) rfl (hb hby at_224) (argsL := [(.long y1), (.int (1 : Int32))]) (rest := []) rfl (W := 0) (Nat.le_of_eq rfl) (by decide) (by decide) (by decide) (by decide) (fun v371 T371 h371 X371 hQ371 => ?_)
  obtain ⟨rfl, he371⟩ := hQ371
  rw [he371] at X371
  show Go p e below s n0 _ _ _ (T371.setTop (mkF m 227 #[.val (.long y0), .second, .val (.long y1), .second, .val (.long y2), .second, .val (.int y3), .val (.int order), .val (.int wd), .val (.int (4 : Int32)), .val (.int u1), .val (.int u2), .val (.int u6), .val (.int u0), .val (.int u5), .val (.int u10), .val (.int g), .val (.int g2), .val (.ref a334), .val (.long x00), .second, .unset, .unset, .unset, .unset, .unset, .unset, .unset, .unset, .unset, .unset, .unset, .unset, .unset, .unset, .unset, .unset, .unset, .unset, .unset, .unset, .unset, .unset, .unset] [(.int (fV y1 (1 : Int32)))]))
  refine g_i2l X371 hx (pc' := 228) rfl (hb hby at_227) ?_
  refine g_absL (fun x01 h_x01 => ?_)
  refine g_lstore X371 hx (pc' := 230) rfl (hb hby at_228) (l' := #[.val (.long y0), .second, .val (.long y1), .second, .val (.long y2), .second, .val (.int y3), .val (.int order), .val (.int wd), .val (.int (4 : Int32)), .val (.int u1), .val (.int u2), .val (.int u6), .val (.int u0), .val (.int u5), .val (.int u10), .val (.int g), .val (.int g2), .val (.ref a334), .val (.long x00), .second, .val (.long x01), .second, .unset, .unset, .unset, .unset, .unset, .unset, .unset, .unset, .unset, .unset, .unset, .unset, .unset, .unset, .unset, .unset, .unset, .unset, .unset, .unset, .unset]) rfl ?_
  refine g_lloadN X371 hx (pc' := 231) rfl (hb hby at_230) rfl ?_
  refine g_iconst X371 hx (pc' := 232) (z := (2 : Int32)) rfl (hb hby at_231) rfl ?_
  refine g_callS X371 hx hZ hown (hw _ (List.mem_of_getElem? (i := 0) rfl)) (hw _ (List.mem_of_getElem? (i := 1) rfl)) (hw _ (List.mem_of_getElem? (i := 2) rfl)) (hw _ (List.mem_of_getElem? (i := 3) rfl)) (by decide) (rm1 l Z a0 hw [] n0 y1 (2 : Int32) h368 f369) pd_0 rfl rfl (by rw [hml]; rfl) (pc' := 235) rfl (hb hby at_232) (argsL := [(.long y1), (.int (2 : Int32))]) (rest := []) rfl (W := 0) (Nat.le_of_eq rfl) (by decide) (by decide) (by decide) (by decide) (fun v372 T372 h372 X372 hQ372 => ?_)
  obtain ⟨rfl, he372⟩ := hQ372
  rw [he372] at X372
  show Go p e below s n0 _ _ _ (T372.setTop (mkF m 235 #[.val (.long y0), .second, .val (.long y1), .second, .val (.long y2), .second, .val (.int y3), .val (.int order), .val (.int wd), .val (.int (4 : Int32)), .val (.int u1), .val (.int u2), .val (.int u6), .val (.int u0), .val (.int u5), .val (.int u10), .val (.int g), .val (.int g2), .val (.ref a334), .val (.long x00), .second, .val (.long x01), .second, .unset, .unset, .unset, .unset, .unset, .unset, .unset, .unset, .unset, .unset, .unset, .unset, .unset, .unset, .unset, .unset, .unset, .unset, .unset, .unset, .unset] [(.int (fV y1 (2 : Int32)))]))
  refine g_i2l X372 hx (pc' := 236) rfl (hb hby at_235) ?_
  refine g_absL (fun x02 h_x02 => ?_)
  refine g_lstore X372 hx (pc' := 238) rfl (hb hby at_236) (l' := #[.val (.long y0), .second, .val (.long y1), .second, .val (.long y2), .second, .val (.int y3), .val (.int order), .val (.int wd), .val (.int (4 : Int32)), .val (.int u1), .val (.int u2), .val (.int u6), .val (.int u0), .val (.int u5), .val (.int u10), .val (.int g), .val (.int g2), .val (.ref a334), .val (.long x00), .second, .val (.long x01), .second, .val (.long x02), .second, .unset, .unset, .unset, .unset, .unset, .unset, .unset, .unset, .unset, .unset, .unset, .unset, .unset, .unset, .unset, .unset, .unset, .unset, .unset]) rfl ?_
  refine g_lloadN X372 hx (pc' := 239) rfl (hb hby at_238) rfl ?_
  refine g_iconst X372 hx (pc' := 240) (z := (3 : Int32)) rfl (hb hby at_239) rfl ?_
  refine g_callS X372 hx hZ hown (hw _ (List.mem_of_getElem? (i := 0) rfl)) (hw _ (List.mem_of_getElem? (i := 1) rfl)) (hw _ (List.mem_of_getElem? (i := 2) rfl)) (hw _ (List.mem_of_getElem? (i := 3) rfl)) (by decide) (rm1 l Z a0 hw [] n0 y1 (3 : Int32) h368 f369) pd_0 rfl rfl (by rw [hml]; rfl) (pc' := 243) rfl (hb hby at_240) (argsL := [(.long y1), (.int (3 : Int32))]) (rest := []) rfl (W := 0) (Nat.le_of_eq rfl) (by decide) (by decide) (by decide) (by decide) (fun v373 T373 h373 X373 hQ373 => ?_)
  obtain ⟨rfl, he373⟩ := hQ373
  rw [he373] at X373
  show Go p e below s n0 _ _ _ (T373.setTop (mkF m 243 #[.val (.long y0), .second, .val (.long y1), .second, .val (.long y2), .second, .val (.int y3), .val (.int order), .val (.int wd), .val (.int (4 : Int32)), .val (.int u1), .val (.int u2), .val (.int u6), .val (.int u0), .val (.int u5), .val (.int u10), .val (.int g), .val (.int g2), .val (.ref a334), .val (.long x00), .second, .val (.long x01), .second, .val (.long x02), .second, .unset, .unset, .unset, .unset, .unset, .unset, .unset, .unset, .unset, .unset, .unset, .unset, .unset, .unset, .unset, .unset, .unset, .unset, .unset] [(.int (fV y1 (3 : Int32)))]))
  refine g_i2l X373 hx (pc' := 244) rfl (hb hby at_243) ?_
  refine g_absL (fun x10 h_x10 => ?_)
  refine g_lstore X373 hx (pc' := 246) rfl (hb hby at_244) (l' := #[.val (.long y0), .second, .val (.long y1), .second, .val (.long y2), .second, .val (.int y3), .val (.int order), .val (.int wd), .val (.int (4 : Int32)), .val (.int u1), .val (.int u2), .val (.int u6), .val (.int u0), .val (.int u5), .val (.int u10), .val (.int g), .val (.int g2), .val (.ref a334), .val (.long x00), .second, .val (.long x01), .second, .val (.long x02), .second, .val (.long x10), .second, .unset, .unset, .unset, .unset, .unset, .unset, .unset, .unset, .unset, .unset, .unset, .unset, .unset, .unset, .unset, .unset, .unset]) rfl ?_
  refine g_lloadN X373 hx (pc' := 247) rfl (hb hby at_246) rfl ?_
  refine g_iconst X373 hx (pc' := 248) (z := (4 : Int32)) rfl (hb hby at_247) rfl ?_
  refine g_callS X373 hx hZ hown (hw _ (List.mem_of_getElem? (i := 0) rfl)) (hw _ (List.mem_of_getElem? (i := 1) rfl)) (hw _ (List.mem_of_getElem? (i := 2) rfl)) (hw _ (List.mem_of_getElem? (i := 3) rfl)) (by decide) (rm1 l Z a0 hw [] n0 y1 (4 : Int32) h368 f369) pd_0 rfl rfl (by rw [hml]; rfl) (pc' := 251) rfl (hb hby at_248) (argsL := [(.long y1), (.int (4 : Int32))]) (rest := []) rfl (W := 0) (Nat.le_of_eq rfl) (by decide) (by decide) (by decide) (by decide) (fun v374 T374 h374 X374 hQ374 => ?_)
  obtain ⟨rfl, he374⟩ := hQ374
  rw [he374] at X374
  show Go p e below s n0 _ _ _ (T374.setTop (mkF m 251 #[.val (.long y0), .second, .val (.long y1), .second, .val (.long y2), .second, .val (.int y3), .val (.int order), .val (.int wd), .val (.int (4 : Int32)), .val (.int u1), .val (.int u2), .val (.int u6), .val (.int u0), .val (.int u5), .val (.int u10), .val (.int g), .val (.int g2), .val (.ref a334), .val (.long x00), .second, .val (.long x01), .second, .val (.long x02), .second, .val (.long x10), .second, .unset, .unset, .unset, .unset, .unset, .unset, .unset, .unset, .unset, .unset, .unset, .unset, .unset, .unset, .unset, .unset, .unset] [(.int (fV y1 (4 : Int32)))]))
  refine g_i2l X374 hx (pc' := 252) rfl (hb hby at_251) ?_
  refine g_absL (fun x11 h_x11 => ?_)
  refine g_lstore X374 hx (pc' := 254) rfl (hb hby at_252) (l' := #[.val (.long y0), .second, .val (.long y1), .second, .val (.long y2), .second, .val (.int y3), .val (.int order), .val (.int wd), .val (.int (4 : Int32)), .val (.int u1), .val (.int u2), .val (.int u6), .val (.int u0), .val (.int u5), .val (.int u10), .val (.int g), .val (.int g2), .val (.ref a334), .val (.long x00), .second, .val (.long x01), .second, .val (.long x02), .second, .val (.long x10), .second, .val (.long x11), .second, .unset, .unset, .unset, .unset, .unset, .unset, .unset, .unset, .unset, .unset, .unset, .unset, .unset, .unset, .unset]) rfl ?_
  refine g_lloadN X374 hx (pc' := 255) rfl (hb hby at_254) rfl ?_
  refine g_iconst X374 hx (pc' := 256) (z := (5 : Int32)) rfl (hb hby at_255) rfl ?_
  refine g_callS X374 hx hZ hown (hw _ (List.mem_of_getElem? (i := 0) rfl)) (hw _ (List.mem_of_getElem? (i := 1) rfl)) (hw _ (List.mem_of_getElem? (i := 2) rfl)) (hw _ (List.mem_of_getElem? (i := 3) rfl)) (by decide) (rm1 l Z a0 hw [] n0 y1 (5 : Int32) h368 f369) pd_0 rfl rfl (by rw [hml]; rfl) (pc' := 259) rfl (hb hby at_256) (argsL := [(.long y1), (.int (5 : Int32))]) (rest := []) rfl (W := 0) (Nat.le_of_eq rfl) (by decide) (by decide) (by decide) (by decide) (fun v375 T375 h375 X375 hQ375 => ?_)
  obtain ⟨rfl, he375⟩ := hQ375
  rw [he375] at X375
  show Go p e below s n0 _ _ _ (T375.setTop (mkF m 259 #[.val (.long y0), .second, .val (.long y1), .second, .val (.long y2), .second, .val (.int y3), .val (.int order), .val (.int wd), .val (.int (4 : Int32)), .val (.int u1), .val (.int u2), .val (.int u6), .val (.int u0), .val (.int u5), .val (.int u10), .val (.int g), .val (.int g2), .val (.ref a334), .val (.long x00), .second, .val (.long x01), .second, .val (.long x02), .second, .val (.long x10), .second, .val (.long x11), .second, .unset, .unset, .unset, .unset, .unset, .unset, .unset, .unset, .unset, .unset, .unset, .unset, .unset, .unset, .unset] [(.int (fV y1 (5 : Int32)))]))
  refine g_i2l X375 hx (pc' := 260) rfl (hb hby at_259) ?_
  refine g_absL (fun x12 h_x12 => ?_)
  refine g_lstore X375 hx (pc' := 262) rfl (hb hby at_260) (l' := #[.val (.long y0), .second, .val (.long y1), .second, .val (.long y2), .second, .val (.int y3), .val (.int order), .val (.int wd), .val (.int (4 : Int32)), .val (.int u1), .val (.int u2), .val (.int u6), .val (.int u0), .val (.int u5), .val (.int u10), .val (.int g), .val (.int g2), .val (.ref a334), .val (.long x00), .second, .val (.long x01), .second, .val (.long x02), .second, .val (.long x10), .second, .val (.long x11), .second, .val (.long x12), .second, .unset, .unset, .unset, .unset, .unset, .unset, .unset, .unset, .unset, .unset, .unset, .unset, .unset]) rfl ?_
  refine g_lload X375 hx (pc' := 264) rfl (hb hby at_262) rfl ?_
  refine g_iconst X375 hx (pc' := 265) (z := (0 : Int32)) rfl (hb hby at_264) rfl ?_
  refine g_callS X375 hx hZ hown (hw _ (List.mem_of_getElem? (i := 0) rfl)) (hw _ (List.mem_of_getElem? (i := 1) rfl)) (hw _ (List.mem_of_getElem? (i := 2) rfl)) (hw _ (List.mem_of_getElem? (i := 3) rfl)) (by decide) (rm1 l Z a0 hw [] n0 y2 (0 : Int32) h368 f369) pd_0 rfl rfl (by rw [hml]; rfl) (pc' := 268) rfl (hb hby at_265) (argsL := [(.long y2), (.int (0 : Int32))]) (rest := []) rfl (W := 0) (Nat.le_of_eq rfl) (by decide) (by decide) (by decide) (by decide) (fun v376 T376 h376 X376 hQ376 => ?_)
  obtain ⟨rfl, he376⟩ := hQ376
  rw [he376] at X376
  show Go p e below s n0 _ _ _ (T376.setTop (mkF m 268 #[.val (.long y0), .second, .val (.long y1), .second, .val (.long y2), .second, .val (.int y3), .val (.int order), .val (.int wd), .val (.int (4 : Int32)), .val (.int u1), .val (.int u2), .val (.int u6), .val (.int u0), .val (.int u5), .val (.int u10), .val (.int g), .val (.int g2), .val (.ref a334), .val (.long x00), .second, .val (.long x01), .second, .val (.long x02), .second, .val (.long x10), .second, .val (.long x11), .second, .val (.long x12), .second, .unset, .unset, .unset, .unset, .unset, .unset, .unset, .unset, .unset, .unset, .unset, .unset, .unset] [(.int (fV y2 (0 : Int32)))]))
  refine g_i2l X376 hx (pc' := 269) rfl (hb hby at_268) ?_
  refine g_absL (fun x20 h_x20 => ?_)
  refine g_lstore X376 hx (pc' := 271) rfl (hb hby at_269) (l' := #[.val (.long y0), .second, .val (.long y1), .second, .val (.long y2), .second, .val (.int y3), .val (.int order), .val (.int wd), .val (.int (4 : Int32)), .val (.int u1), .val (.int u2), .val (.int u6), .val (.int u0), .val (.int u5), .val (.int u10), .val (.int g), .val (.int g2), .val (.ref a334), .val (.long x00), .second, .val (.long x01), .second, .val (.long x02), .second, .val (.long x10), .second, .val (.long x11), .second, .val (.long x12), .second, .val (.long x20), .second, .unset, .unset, .unset, .unset, .unset, .unset, .unset, .unset, .unset, .unset, .unset]) rfl ?_
  refine g_lload X376 hx (pc' := 273) rfl (hb hby at_271) rfl ?_
  refine g_iconst X376 hx (pc' := 274) (z := (1 : Int32)) rfl (hb hby at_273) rfl ?_
  refine g_callS X376 hx hZ hown (hw _ (List.mem_of_getElem? (i := 0) rfl)) (hw _ (List.mem_of_getElem? (i := 1) rfl)) (hw _ (List.mem_of_getElem? (i := 2) rfl)) (hw _ (List.mem_of_getElem? (i := 3) rfl)) (by decide) (rm1 l Z a0 hw [] n0 y2 (1 : Int32) h368 f369) pd_0 rfl rfl (by rw [hml]; rfl) (pc' := 277) rfl (hb hby at_274) (argsL := [(.long y2), (.int (1 : Int32))]) (rest := []) rfl (W := 0) (Nat.le_of_eq rfl) (by decide) (by decide) (by decide) (by decide) (fun v377 T377 h377 X377 hQ377 => ?_)
  obtain ⟨rfl, he377⟩ := hQ377
  rw [he377] at X377
  show Go p e below s n0 _ _ _ (T377.setTop (mkF m 277 #[.val (.long y0), .second, .val (.long y1), .second, .val (.long y2), .second, .val (.int y3), .val (.int order), .val (.int wd), .val (.int (4 : Int32)), .val (.int u1), .val (.int u2), .val (.int u6), .val (.int u0), .val (.int u5), .val (.int u10), .val (.int g), .val (.int g2), .val (.ref a334), .val (.long x00), .second, .val (.long x01), .second, .val (.long x02), .second, .val (.long x10), .second, .val (.long x11), .second, .val (.long x12), .second, .val (.long x20), .second, .unset, .unset, .unset, .unset, .unset, .unset, .unset, .unset, .unset, .unset, .unset] [(.int (fV y2 (1 : Int32)))]))
  refine g_i2l X377 hx (pc' := 278) rfl (hb hby at_277) ?_
  refine g_absL (fun x21 h_x21 => ?_)
  refine g_lstore X377 hx (pc' := 280) rfl (hb hby at_278) (l' := #[.val (.long y0), .second, .val (.long y1), .second, .val (.long y2), .second, .val (.int y3), .val (.int order), .val (.int wd), .val (.int (4 : Int32)), .val (.int u1), .val (.int u2), .val (.int u6), .val (.int u0), .val (.int u5), .val (.int u10), .val (.int g), .val (.int g2), .val (.ref a334), .val (.long x00), .second, .val (.long x01), .second, .val (.long x02), .second, .val (.long x10), .second, .val (.long x11), .second, .val (.long x12), .second, .val (.long x20), .second, .val (.long x21), .second, .unset, .unset, .unset, .unset, .unset, .unset, .unset, .unset, .unset]) rfl ?_
  refine g_lload X377 hx (pc' := 282) rfl (hb hby at_280) rfl ?_
  refine g_iconst X377 hx (pc' := 283) (z := (2 : Int32)) rfl (hb hby at_282) rfl ?_
  refine g_callS X377 hx hZ hown (hw _ (List.mem_of_getElem? (i := 0) rfl)) (hw _ (List.mem_of_getElem? (i := 1) rfl)) (hw _ (List.mem_of_getElem? (i := 2) rfl)) (hw _ (List.mem_of_getElem? (i := 3) rfl)) (by decide) (rm1 l Z a0 hw [] n0 y2 (2 : Int32) h368 f369) pd_0 rfl rfl (by rw [hml]; rfl) (pc' := 286) rfl (hb hby at_283) (argsL := [(.long y2), (.int (2 : Int32))]) (rest := []) rfl (W := 0) (Nat.le_of_eq rfl) (by decide) (by decide) (by decide) (by decide) (fun v378 T378 h378 X378 hQ378 => ?_)
  obtain ⟨rfl, he378⟩ := hQ378
  rw [he378] at X378
  show Go p e below s n0 _ _ _ (T378.setTop (mkF m 286 #[.val (.long y0), .second, .val (.long y1), .second, .val (.long y2), .second, .val (.int y3), .val (.int order), .val (.int wd), .val (.int (4 : Int32)), .val (.int u1), .val (.int u2), .val (.int u6), .val (.int u0), .val (.int u5), .val (.int u10), .val (.int g), .val (.int g2), .val (.ref a334), .val (.long x00), .second, .val (.long x01), .second, .val (.long x02), .second, .val (.long x10), .second, .val (.long x11), .second, .val (.long x12), .second, .val (.long x20), .second, .val (.long x21), .second, .unset, .unset, .unset, .unset, .unset, .unset, .unset, .unset, .unset] [(.int (fV y2 (2 : Int32)))]))
  refine g_i2l X378 hx (pc' := 287) rfl (hb hby at_286) ?_
  refine g_absL (fun x22 h_x22 => ?_)
  refine g_lstore X378 hx (pc' := 289) rfl (hb hby at_287) (l' := #[.val (.long y0), .second, .val (.long y1), .second, .val (.long y2), .second, .val (.int y3), .val (.int order), .val (.int wd), .val (.int (4 : Int32)), .val (.int u1), .val (.int u2), .val (.int u6), .val (.int u0), .val (.int u5), .val (.int u10), .val (.int g), .val (.int g2), .val (.ref a334), .val (.long x00), .second, .val (.long x01), .second, .val (.long x02), .second, .val (.long x10), .second, .val (.long x11), .second, .val (.long x12), .second, .val (.long x20), .second, .val (.long x21), .second, .val (.long x22), .second, .unset, .unset, .unset, .unset, .unset, .unset, .unset]) rfl ?_
  refine g_lload X378 hx (pc' := 291) rfl (hb hby at_289) rfl ?_
  refine g_iconst X378 hx (pc' := 292) (z := (3 : Int32)) rfl (hb hby at_291) rfl ?_
  refine g_callS X378 hx hZ hown (hw _ (List.mem_of_getElem? (i := 0) rfl)) (hw _ (List.mem_of_getElem? (i := 1) rfl)) (hw _ (List.mem_of_getElem? (i := 2) rfl)) (hw _ (List.mem_of_getElem? (i := 3) rfl)) (by decide) (rm1 l Z a0 hw [] n0 y2 (3 : Int32) h368 f369) pd_0 rfl rfl (by rw [hml]; rfl) (pc' := 295) rfl (hb hby at_292) (argsL := [(.long y2), (.int (3 : Int32))]) (rest := []) rfl (W := 0) (Nat.le_of_eq rfl) (by decide) (by decide) (by decide) (by decide) (fun v379 T379 h379 X379 hQ379 => ?_)
  obtain ⟨rfl, he379⟩ := hQ379
  rw [he379] at X379
  show Go p e below s n0 _ _ _ (T379.setTop (mkF m 295 #[.val (.long y0), .second, .val (.long y1), .second, .val (.long y2), .second, .val (.int y3), .val (.int order), .val (.int wd), .val (.int (4 : Int32)), .val (.int u1), .val (.int u2), .val (.int u6), .val (.int u0), .val (.int u5), .val (.int u10), .val (.int g), .val (.int g2), .val (.ref a334), .val (.long x00), .second, .val (.long x01), .second, .val (.long x02), .second, .val (.long x10), .second, .val (.long x11), .second, .val (.long x12), .second, .val (.long x20), .second, .val (.long x21), .second, .val (.long x22), .second, .unset, .unset, .unset, .unset, .unset, .unset, .unset] [(.int (fV y2 (3 : Int32)))]))
  refine g_i2l X379 hx (pc' := 296) rfl (hb hby at_295) ?_
  refine g_absL (fun x30 h_x30 => ?_)
  refine g_lstore X379 hx (pc' := 298) rfl (hb hby at_296) (l' := #[.val (.long y0), .second, .val (.long y1), .second, .val (.long y2), .second, .val (.int y3), .val (.int order), .val (.int wd), .val (.int (4 : Int32)), .val (.int u1), .val (.int u2), .val (.int u6), .val (.int u0), .val (.int u5), .val (.int u10), .val (.int g), .val (.int g2), .val (.ref a334), .val (.long x00), .second, .val (.long x01), .second, .val (.long x02), .second, .val (.long x10), .second, .val (.long x11), .second, .val (.long x12), .second, .val (.long x20), .second, .val (.long x21), .second, .val (.long x22), .second, .val (.long x30), .second, .unset, .unset, .unset, .unset, .unset]) rfl ?_
  refine g_lload X379 hx (pc' := 300) rfl (hb hby at_298) rfl ?_
  refine g_iconst X379 hx (pc' := 301) (z := (4 : Int32)) rfl (hb hby at_300) rfl ?_
  refine g_callS X379 hx hZ hown (hw _ (List.mem_of_getElem? (i := 0) rfl)) (hw _ (List.mem_of_getElem? (i := 1) rfl)) (hw _ (List.mem_of_getElem? (i := 2) rfl)) (hw _ (List.mem_of_getElem? (i := 3) rfl)) (by decide) (rm1 l Z a0 hw [] n0 y2 (4 : Int32) h368 f369) pd_0 rfl rfl (by rw [hml]; rfl) (pc' := 304) rfl (hb hby at_301) (argsL := [(.long y2), (.int (4 : Int32))]) (rest := []) rfl (W := 0) (Nat.le_of_eq rfl) (by decide) (by decide) (by decide) (by decide) (fun v380 T380 h380 X380 hQ380 => ?_)
  obtain ⟨rfl, he380⟩ := hQ380
  rw [he380] at X380
  show Go p e below s n0 _ _ _ (T380.setTop (mkF m 304 #[.val (.long y0), .second, .val (.long y1), .second, .val (.long y2), .second, .val (.int y3), .val (.int order), .val (.int wd), .val (.int (4 : Int32)), .val (.int u1), .val (.int u2), .val (.int u6), .val (.int u0), .val (.int u5), .val (.int u10), .val (.int g), .val (.int g2), .val (.ref a334), .val (.long x00), .second, .val (.long x01), .second, .val (.long x02), .second, .val (.long x10), .second, .val (.long x11), .second, .val (.long x12), .second, .val (.long x20), .second, .val (.long x21), .second, .val (.long x22), .second, .val (.long x30), .second, .unset, .unset, .unset, .unset, .unset] [(.int (fV y2 (4 : Int32)))]))
  refine g_i2l X380 hx (pc' := 305) rfl (hb hby at_304) ?_
  refine g_absL (fun x31 h_x31 => ?_)
  refine g_lstore X380 hx (pc' := 307) rfl (hb hby at_305) (l' := #[.val (.long y0), .second, .val (.long y1), .second, .val (.long y2), .second, .val (.int y3), .val (.int order), .val (.int wd), .val (.int (4 : Int32)), .val (.int u1), .val (.int u2), .val (.int u6), .val (.int u0), .val (.int u5), .val (.int u10), .val (.int g), .val (.int g2), .val (.ref a334), .val (.long x00), .second, .val (.long x01), .second, .val (.long x02), .second, .val (.long x10), .second, .val (.long x11), .second, .val (.long x12), .second, .val (.long x20), .second, .val (.long x21), .second, .val (.long x22), .second, .val (.long x30), .second, .val (.long x31), .second, .unset, .unset, .unset]) rfl ?_
  refine g_lload X380 hx (pc' := 309) rfl (hb hby at_307) rfl ?_
  refine g_iconst X380 hx (pc' := 310) (z := (5 : Int32)) rfl (hb hby at_309) rfl ?_
  refine g_callS X380 hx hZ hown (hw _ (List.mem_of_getElem? (i := 0) rfl)) (hw _ (List.mem_of_getElem? (i := 1) rfl)) (hw _ (List.mem_of_getElem? (i := 2) rfl)) (hw _ (List.mem_of_getElem? (i := 3) rfl)) (by decide) (rm1 l Z a0 hw [] n0 y2 (5 : Int32) h368 f369) pd_0 rfl rfl (by rw [hml]; rfl) (pc' := 313) rfl (hb hby at_310) (argsL := [(.long y2), (.int (5 : Int32))]) (rest := []) rfl (W := 0) (Nat.le_of_eq rfl) (by decide) (by decide) (by decide) (by decide) (fun v381 T381 h381 X381 hQ381 => ?_)
  obtain ⟨rfl, he381⟩ := hQ381
  rw [he381] at X381
  show Go p e below s n0 _ _ _ (T381.setTop (mkF m 313 #[.val (.long y0), .second, .val (.long y1), .second, .val (.long y2), .second, .val (.int y3), .val (.int order), .val (.int wd), .val (.int (4 : Int32)), .val (.int u1), .val (.int u2), .val (.int u6), .val (.int u0), .val (.int u5), .val (.int u10), .val (.int g), .val (.int g2), .val (.ref a334), .val (.long x00), .second, .val (.long x01), .second, .val (.long x02), .second, .val (.long x10), .second, .val (.long x11), .second, .val (.long x12), .second, .val (.long x20), .second, .val (.long x21), .second, .val (.long x22), .second, .val (.long x30), .second, .val (.long x31), .second, .unset, .unset, .unset] [(.int (fV y2 (5 : Int32)))]))
  refine g_i2l X381 hx (pc' := 314) rfl (hb hby at_313) ?_
  refine g_absL (fun x32 h_x32 => ?_)
  refine g_lstore X381 hx (pc' := 316) rfl (hb hby at_314) (l' := #[.val (.long y0), .second, .val (.long y1), .second, .val (.long y2), .second, .val (.int y3), .val (.int order), .val (.int wd), .val (.int (4 : Int32)), .val (.int u1), .val (.int u2), .val (.int u6), .val (.int u0), .val (.int u5), .val (.int u10), .val (.int g), .val (.int g2), .val (.ref a334), .val (.long x00), .second, .val (.long x01), .second, .val (.long x02), .second, .val (.long x10), .second, .val (.long x11), .second, .val (.long x12), .second, .val (.long x20), .second, .val (.long x21), .second, .val (.long x22), .second, .val (.long x30), .second, .val (.long x31), .second, .val (.long x32), .second, .unset]) rfl ?_
  have bx00 : x00.toInt.natAbs ≤ 128 := by rw [h_x00, Int32.toInt_toInt64]; exact f_b _ _
  have bx01 : x01.toInt.natAbs ≤ 128 := by rw [h_x01, Int32.toInt_toInt64]; exact f_b _ _
  have bx02 : x02.toInt.natAbs ≤ 128 := by rw [h_x02, Int32.toInt_toInt64]; exact f_b _ _
  have bx10 : x10.toInt.natAbs ≤ 128 := by rw [h_x10, Int32.toInt_toInt64]; exact f_b _ _
  have bx11 : x11.toInt.natAbs ≤ 128 := by rw [h_x11, Int32.toInt_toInt64]; exact f_b _ _
  have bx12 : x12.toInt.natAbs ≤ 128 := by rw [h_x12, Int32.toInt_toInt64]; exact f_b _ _
  have bx20 : x20.toInt.natAbs ≤ 128 := by rw [h_x20, Int32.toInt_toInt64]; exact f_b _ _
  have bx21 : x21.toInt.natAbs ≤ 128 := by rw [h_x21, Int32.toInt_toInt64]; exact f_b _ _
  have bx22 : x22.toInt.natAbs ≤ 128 := by rw [h_x22, Int32.toInt_toInt64]; exact f_b _ _
  have bx30 : x30.toInt.natAbs ≤ 128 := by rw [h_x30, Int32.toInt_toInt64]; exact f_b _ _
  have bx31 : x31.toInt.natAbs ≤ 128 := by rw [h_x31, Int32.toInt_toInt64]; exact f_b _ _
  have bx32 : x32.toInt.natAbs ≤ 128 := by rw [h_x32, Int32.toInt_toInt64]; exact f_b _ _
  clear h_x00 h_x01 h_x02 h_x10 h_x11 h_x12 h_x20 h_x21 h_x22 h_x30 h_x31 h_x32
  refine g_iconst X381 hx (pc' := 317) (z := (4 : Int32)) rfl (hb hby at_316) rfl ?_
  refine g_iload X381 hx (pc' := 319) rfl (hb hby at_317) rfl ?_
  refine g_imul X381 hx (pc' := 320) rfl (hb hby at_319) ?_
  refine g_newD X381 hx hZ (hw _ (List.mem_of_getElem? (i := 7) rfl)) (N := 4 * W) e4 (cap := 12) (by omega) (by decide) (pc' := 322) rfl (hb hby at_320) (by decide) (by decide) (fun T382 h382 a382 ha382 X382 E382 N382 => ?_)
  have ne382_a334 : a334 ≠ a382 := by rw [ha382]; exact Nat.ne_of_lt V368.lt
  have f383 := V368.ext E382
  have G_a382 : n0 ≤ a382 := by rw [ha382]; exact f369
  have Zs382 : n0 ≤ h382.size := Nat.le_trans f369 E382.1
  refine g_astore X382 hx (pc' := 324) rfl (hb hby at_322) rfl (l' := #[.val (.long y0), .second, .val (.long y1), .second, .val (.long y2), .second, .val (.int y3), .val (.int order), .val (.int wd), .val (.int (4 : Int32)), .val (.int u1), .val (.int u2), .val (.int u6), .val (.int u0), .val (.int u5), .val (.int u10), .val (.int g), .val (.int g2), .val (.ref a334), .val (.long x00), .second, .val (.long x01), .second, .val (.long x02), .second, .val (.long x10), .second, .val (.long x11), .second, .val (.long x12), .second, .val (.long x20), .second, .val (.long x21), .second, .val (.long x22), .second, .val (.long x30), .second, .val (.long x31), .second, .val (.long x32), .second, .val (.ref a382)]) rfl ?_
  refine g_aload X382 hx (pc' := 326) rfl (hb hby at_324) rfl rfl ?_
  refine g_iload X382 hx (pc' := 328) rfl (hb hby at_326) rfl ?_
  refine g_iconst X382 hx (pc' := 329) (z := (0 : Int32)) rfl (hb hby at_328) rfl ?_
  refine g_iconst X382 hx (pc' := 330) (z := (0 : Int32)) rfl (hb hby at_329) rfl ?_
  refine g_iload X382 hx (pc' := 332) rfl (hb hby at_330) rfl ?_
  refine g_iconst X382 hx (pc' := 333) (z := (0 : Int32)) rfl (hb hby at_332) rfl ?_
  refine g_iload X382 hx (pc' := 335) rfl (hb hby at_333) rfl ?_
  refine g_i2l X382 hx (pc' := 336) rfl (hb hby at_335) ?_
  refine g_iload X382 hx (pc' := 338) rfl (hb hby at_336) rfl ?_
  refine g_i2l X382 hx (pc' := 339) rfl (hb hby at_338) ?_
  refine g_iload X382 hx (pc' := 341) rfl (hb hby at_339) rfl ?_
  refine g_i2l X382 hx (pc' := 342) rfl (hb hby at_341) ?_
  refine g_lload X382 hx (pc' := 344) rfl (hb hby at_342) rfl ?_
  refine g_lload X382 hx (pc' := 346) rfl (hb hby at_344) rfl ?_
  refine g_lload X382 hx (pc' := 348) rfl (hb hby at_346) rfl ?_
  refine g_callS X382 hx hZ hown (hw _ (List.mem_of_getElem? (i := 8) rfl)) (hw _ (List.mem_of_getElem? (i := 9) rfl)) (hw _ (List.mem_of_getElem? (i := 2) rfl)) (hw _ (List.mem_of_getElem? (i := 10) rfl)) (by decide) (rm3 l Z a0 hw [] n0 order (0 : Int32) (u0).toInt64 (u1).toInt64 (u2).toInt64 x00 x10 x20 h382 Zs382) pd_1 rfl rfl (by rw [hml]; rfl) (pc' := 351) rfl (hb hby at_348) (argsL := [(.int order), (.int (0 : Int32)), (.long (u0).toInt64), (.long (u1).toInt64), (.long (u2).toInt64), (.long x00), (.long x10), (.long x20)]) (rest := [(.int (0 : Int32)), (.int (0 : Int32)), (.int wd), (.ref a382)]) rfl (W := 4) (Nat.le_of_eq rfl) (by decide) (by decide) (by decide) (by decide) (fun v384 T384 h384 X384 hQ384 => ?_)
  obtain ⟨rfl, he384⟩ := hQ384
  rw [he384] at X384
  show Go p e below s n0 _ _ _ (T384.setTop (mkF m 351 #[.val (.long y0), .second, .val (.long y1), .second, .val (.long y2), .second, .val (.int y3), .val (.int order), .val (.int wd), .val (.int (4 : Int32)), .val (.int u1), .val (.int u2), .val (.int u6), .val (.int u0), .val (.int u5), .val (.int u10), .val (.int g), .val (.int g2), .val (.ref a334), .val (.long x00), .second, .val (.long x01), .second, .val (.long x02), .second, .val (.long x10), .second, .val (.long x11), .second, .val (.long x12), .second, .val (.long x20), .second, .val (.long x21), .second, .val (.long x22), .second, .val (.long x30), .second, .val (.long x31), .second, .val (.long x32), .second, .val (.ref a382)] [(.long (rV order (0 : Int32) (u0).toInt64 (u1).toInt64 (u2).toInt64 x00 x10 x20)), (.int (0 : Int32)), (.int (0 : Int32)), (.int wd), (.ref a382)]))
  refine g_callS X384 hx hZ hown (hw _ (List.mem_of_getElem? (i := 11) rfl)) (hw _ (List.mem_of_getElem? (i := 12) rfl)) (hw _ (List.mem_of_getElem? (i := 2) rfl)) (hw _ (List.mem_of_getElem? (i := 13) rfl)) (by decide) (rm4 l Z a0 hw [] n0 a382 wd (0 : Int32) (0 : Int32) (rV order (0 : Int32) (u0).toInt64 (u1).toInt64 (u2).toInt64 x00 x10 x20) (List.replicate (4 * W) 0) W 0 0 h382 Zs382 eW rfl rfl bW (by decide) (by decide) (by rw [List.length_replicate]) N382 G_a382) pd_2 rfl rfl (by rw [hml]; rfl) (pc' := 354) rfl (hb hby at_351) (argsL := [(.ref a382), (.int wd), (.int (0 : Int32)), (.int (0 : Int32)), (.long (rV order (0 : Int32) (u0).toInt64 (u1).toInt64 (u2).toInt64 x00 x10 x20))]) (rest := []) rfl (W := 0) (Nat.le_of_eq rfl) (by decide) (by decide) (by decide) (by decide) (fun v385 T385 h385 X385 hQ385 => ?_)
  obtain ⟨rfl, K385, cs385, A385, ec385, lc385⟩ := hQ385
  have f386 := f383.keep K385 (ninS ne382_a334 nin0)
  have zs385 : n0 ≤ h385.size := Nat.le_trans Zs382 K385.1
  show Go p e below s n0 _ _ _ (T385.setTop (mkF m 354 #[.val (.long y0), .second, .val (.long y1), .second, .val (.long y2), .second, .val (.int y3), .val (.int order), .val (.int wd), .val (.int (4 : Int32)), .val (.int u1), .val (.int u2), .val (.int u6), .val (.int u0), .val (.int u5), .val (.int u10), .val (.int g), .val (.int g2), .val (.ref a334), .val (.long x00), .second, .val (.long x01), .second, .val (.long x02), .second, .val (.long x10), .second, .val (.long x11), .second, .val (.long x12), .second, .val (.long x20), .second, .val (.long x21), .second, .val (.long x22), .second, .val (.long x30), .second, .val (.long x31), .second, .val (.long x32), .second, .val (.ref a382)] []))
  refine g_aload X385 hx (pc' := 356) rfl (hb hby at_354) rfl rfl ?_
  refine g_iload X385 hx (pc' := 358) rfl (hb hby at_356) rfl ?_
  refine g_iconst X385 hx (pc' := 359) (z := (0 : Int32)) rfl (hb hby at_358) rfl ?_
  refine g_iconst X385 hx (pc' := 360) (z := (1 : Int32)) rfl (hb hby at_359) rfl ?_
  refine g_iload X385 hx (pc' := 362) rfl (hb hby at_360) rfl ?_
  refine g_iconst X385 hx (pc' := 363) (z := (0 : Int32)) rfl (hb hby at_362) rfl ?_
  refine g_iload X385 hx (pc' := 365) rfl (hb hby at_363) rfl ?_
  refine g_i2l X385 hx (pc' := 366) rfl (hb hby at_365) ?_
  refine g_iload X385 hx (pc' := 368) rfl (hb hby at_366) rfl ?_
  refine g_i2l X385 hx (pc' := 369) rfl (hb hby at_368) ?_
  refine g_iload X385 hx (pc' := 371) rfl (hb hby at_369) rfl ?_
  refine g_i2l X385 hx (pc' := 372) rfl (hb hby at_371) ?_
  refine g_lload X385 hx (pc' := 374) rfl (hb hby at_372) rfl ?_
  refine g_lload X385 hx (pc' := 376) rfl (hb hby at_374) rfl ?_
  refine g_lload X385 hx (pc' := 378) rfl (hb hby at_376) rfl ?_
  refine g_callS X385 hx hZ hown (hw _ (List.mem_of_getElem? (i := 8) rfl)) (hw _ (List.mem_of_getElem? (i := 9) rfl)) (hw _ (List.mem_of_getElem? (i := 2) rfl)) (hw _ (List.mem_of_getElem? (i := 10) rfl)) (by decide) (rm3 l Z a0 hw [] n0 order (0 : Int32) (u0).toInt64 (u1).toInt64 (u2).toInt64 x01 x11 x21 h385 zs385) pd_1 rfl rfl (by rw [hml]; rfl) (pc' := 381) rfl (hb hby at_378) (argsL := [(.int order), (.int (0 : Int32)), (.long (u0).toInt64), (.long (u1).toInt64), (.long (u2).toInt64), (.long x01), (.long x11), (.long x21)]) (rest := [(.int (1 : Int32)), (.int (0 : Int32)), (.int wd), (.ref a382)]) rfl (W := 4) (Nat.le_of_eq rfl) (by decide) (by decide) (by decide) (by decide) (fun v387 T387 h387 X387 hQ387 => ?_)
  obtain ⟨rfl, he387⟩ := hQ387
  rw [he387] at X387
  show Go p e below s n0 _ _ _ (T387.setTop (mkF m 381 #[.val (.long y0), .second, .val (.long y1), .second, .val (.long y2), .second, .val (.int y3), .val (.int order), .val (.int wd), .val (.int (4 : Int32)), .val (.int u1), .val (.int u2), .val (.int u6), .val (.int u0), .val (.int u5), .val (.int u10), .val (.int g), .val (.int g2), .val (.ref a334), .val (.long x00), .second, .val (.long x01), .second, .val (.long x02), .second, .val (.long x10), .second, .val (.long x11), .second, .val (.long x12), .second, .val (.long x20), .second, .val (.long x21), .second, .val (.long x22), .second, .val (.long x30), .second, .val (.long x31), .second, .val (.long x32), .second, .val (.ref a382)] [(.long (rV order (0 : Int32) (u0).toInt64 (u1).toInt64 (u2).toInt64 x01 x11 x21)), (.int (1 : Int32)), (.int (0 : Int32)), (.int wd), (.ref a382)]))
  refine g_callS X387 hx hZ hown (hw _ (List.mem_of_getElem? (i := 11) rfl)) (hw _ (List.mem_of_getElem? (i := 12) rfl)) (hw _ (List.mem_of_getElem? (i := 2) rfl)) (hw _ (List.mem_of_getElem? (i := 13) rfl)) (by decide) (rm4 l Z a0 hw [] n0 a382 wd (0 : Int32) (1 : Int32) (rV order (0 : Int32) (u0).toInt64 (u1).toInt64 (u2).toInt64 x01 x11 x21) cs385 W 0 1 h385 zs385 eW rfl rfl bW (by decide) (by decide) lc385 A385 G_a382) pd_2 rfl rfl (by rw [hml]; rfl) (pc' := 384) rfl (hb hby at_381) (argsL := [(.ref a382), (.int wd), (.int (0 : Int32)), (.int (1 : Int32)), (.long (rV order (0 : Int32) (u0).toInt64 (u1).toInt64 (u2).toInt64 x01 x11 x21))]) (rest := []) rfl (W := 0) (Nat.le_of_eq rfl) (by decide) (by decide) (by decide) (by decide) (fun v388 T388 h388 X388 hQ388 => ?_)
  obtain ⟨rfl, K388, cs388, A388, ec388, lc388⟩ := hQ388
  have f389 := f386.keep K388 (ninS ne382_a334 nin0)
  have zs388 : n0 ≤ h388.size := Nat.le_trans zs385 K388.1
  show Go p e below s n0 _ _ _ (T388.setTop (mkF m 384 #[.val (.long y0), .second, .val (.long y1), .second, .val (.long y2), .second, .val (.int y3), .val (.int order), .val (.int wd), .val (.int (4 : Int32)), .val (.int u1), .val (.int u2), .val (.int u6), .val (.int u0), .val (.int u5), .val (.int u10), .val (.int g), .val (.int g2), .val (.ref a334), .val (.long x00), .second, .val (.long x01), .second, .val (.long x02), .second, .val (.long x10), .second, .val (.long x11), .second, .val (.long x12), .second, .val (.long x20), .second, .val (.long x21), .second, .val (.long x22), .second, .val (.long x30), .second, .val (.long x31), .second, .val (.long x32), .second, .val (.ref a382)] []))
  refine g_aload X388 hx (pc' := 386) rfl (hb hby at_384) rfl rfl ?_
  refine g_iload X388 hx (pc' := 388) rfl (hb hby at_386) rfl ?_
  refine g_iconst X388 hx (pc' := 389) (z := (0 : Int32)) rfl (hb hby at_388) rfl ?_
  refine g_iconst X388 hx (pc' := 390) (z := (2 : Int32)) rfl (hb hby at_389) rfl ?_
  refine g_iload X388 hx (pc' := 392) rfl (hb hby at_390) rfl ?_
  refine g_iconst X388 hx (pc' := 393) (z := (0 : Int32)) rfl (hb hby at_392) rfl ?_
  refine g_iload X388 hx (pc' := 395) rfl (hb hby at_393) rfl ?_
  refine g_i2l X388 hx (pc' := 396) rfl (hb hby at_395) ?_
  refine g_iload X388 hx (pc' := 398) rfl (hb hby at_396) rfl ?_
  refine g_i2l X388 hx (pc' := 399) rfl (hb hby at_398) ?_
  refine g_iload X388 hx (pc' := 401) rfl (hb hby at_399) rfl ?_
  refine g_i2l X388 hx (pc' := 402) rfl (hb hby at_401) ?_
  refine g_lload X388 hx (pc' := 404) rfl (hb hby at_402) rfl ?_
  refine g_lload X388 hx (pc' := 406) rfl (hb hby at_404) rfl ?_
  refine g_lload X388 hx (pc' := 408) rfl (hb hby at_406) rfl ?_
  refine g_callS X388 hx hZ hown (hw _ (List.mem_of_getElem? (i := 8) rfl)) (hw _ (List.mem_of_getElem? (i := 9) rfl)) (hw _ (List.mem_of_getElem? (i := 2) rfl)) (hw _ (List.mem_of_getElem? (i := 10) rfl)) (by decide) (rm3 l Z a0 hw [] n0 order (0 : Int32) (u0).toInt64 (u1).toInt64 (u2).toInt64 x02 x12 x22 h388 zs388) pd_1 rfl rfl (by rw [hml]; rfl) (pc' := 411) rfl (hb hby at_408) (argsL := [(.int order), (.int (0 : Int32)), (.long (u0).toInt64), (.long (u1).toInt64), (.long (u2).toInt64), (.long x02), (.long x12), (.long x22)]) (rest := [(.int (2 : Int32)), (.int (0 : Int32)), (.int wd), (.ref a382)]) rfl (W := 4) (Nat.le_of_eq rfl) (by decide) (by decide) (by decide) (by decide) (fun v390 T390 h390 X390 hQ390 => ?_)
  obtain ⟨rfl, he390⟩ := hQ390
  rw [he390] at X390
  show Go p e below s n0 _ _ _ (T390.setTop (mkF m 411 #[.val (.long y0), .second, .val (.long y1), .second, .val (.long y2), .second, .val (.int y3), .val (.int order), .val (.int wd), .val (.int (4 : Int32)), .val (.int u1), .val (.int u2), .val (.int u6), .val (.int u0), .val (.int u5), .val (.int u10), .val (.int g), .val (.int g2), .val (.ref a334), .val (.long x00), .second, .val (.long x01), .second, .val (.long x02), .second, .val (.long x10), .second, .val (.long x11), .second, .val (.long x12), .second, .val (.long x20), .second, .val (.long x21), .second, .val (.long x22), .second, .val (.long x30), .second, .val (.long x31), .second, .val (.long x32), .second, .val (.ref a382)] [(.long (rV order (0 : Int32) (u0).toInt64 (u1).toInt64 (u2).toInt64 x02 x12 x22)), (.int (2 : Int32)), (.int (0 : Int32)), (.int wd), (.ref a382)]))
  refine g_callS X390 hx hZ hown (hw _ (List.mem_of_getElem? (i := 11) rfl)) (hw _ (List.mem_of_getElem? (i := 12) rfl)) (hw _ (List.mem_of_getElem? (i := 2) rfl)) (hw _ (List.mem_of_getElem? (i := 13) rfl)) (by decide) (rm4 l Z a0 hw [] n0 a382 wd (0 : Int32) (2 : Int32) (rV order (0 : Int32) (u0).toInt64 (u1).toInt64 (u2).toInt64 x02 x12 x22) cs388 W 0 2 h388 zs388 eW rfl rfl bW (by decide) (by decide) lc388 A388 G_a382) pd_2 rfl rfl (by rw [hml]; rfl) (pc' := 414) rfl (hb hby at_411) (argsL := [(.ref a382), (.int wd), (.int (0 : Int32)), (.int (2 : Int32)), (.long (rV order (0 : Int32) (u0).toInt64 (u1).toInt64 (u2).toInt64 x02 x12 x22))]) (rest := []) rfl (W := 0) (Nat.le_of_eq rfl) (by decide) (by decide) (by decide) (by decide) (fun v391 T391 h391 X391 hQ391 => ?_)
  obtain ⟨rfl, K391, cs391, A391, ec391, lc391⟩ := hQ391
  have f392 := f389.keep K391 (ninS ne382_a334 nin0)
  have zs391 : n0 ≤ h391.size := Nat.le_trans zs388 K391.1
  show Go p e below s n0 _ _ _ (T391.setTop (mkF m 414 #[.val (.long y0), .second, .val (.long y1), .second, .val (.long y2), .second, .val (.int y3), .val (.int order), .val (.int wd), .val (.int (4 : Int32)), .val (.int u1), .val (.int u2), .val (.int u6), .val (.int u0), .val (.int u5), .val (.int u10), .val (.int g), .val (.int g2), .val (.ref a334), .val (.long x00), .second, .val (.long x01), .second, .val (.long x02), .second, .val (.long x10), .second, .val (.long x11), .second, .val (.long x12), .second, .val (.long x20), .second, .val (.long x21), .second, .val (.long x22), .second, .val (.long x30), .second, .val (.long x31), .second, .val (.long x32), .second, .val (.ref a382)] []))
  refine g_aload X391 hx (pc' := 416) rfl (hb hby at_414) rfl rfl ?_
  refine g_iload X391 hx (pc' := 418) rfl (hb hby at_416) rfl ?_
  refine g_iconst X391 hx (pc' := 419) (z := (1 : Int32)) rfl (hb hby at_418) rfl ?_
  refine g_iconst X391 hx (pc' := 420) (z := (0 : Int32)) rfl (hb hby at_419) rfl ?_
  refine g_iload X391 hx (pc' := 422) rfl (hb hby at_420) rfl ?_
  refine g_iconst X391 hx (pc' := 423) (z := (1 : Int32)) rfl (hb hby at_422) rfl ?_
  refine g_iload X391 hx (pc' := 425) rfl (hb hby at_423) rfl ?_
  refine g_i2l X391 hx (pc' := 426) rfl (hb hby at_425) ?_
  refine g_iload X391 hx (pc' := 428) rfl (hb hby at_426) rfl ?_
  refine g_i2l X391 hx (pc' := 429) rfl (hb hby at_428) ?_
  refine g_lconst X391 hx (pc' := 430) (z := (0 : Int64)) rfl (hb hby at_429) rfl ?_
  refine g_lload X391 hx (pc' := 432) rfl (hb hby at_430) rfl ?_
  refine g_lload X391 hx (pc' := 434) rfl (hb hby at_432) rfl ?_
  refine g_lconst X391 hx (pc' := 435) (z := (0 : Int64)) rfl (hb hby at_434) rfl ?_
  refine g_callS X391 hx hZ hown (hw _ (List.mem_of_getElem? (i := 8) rfl)) (hw _ (List.mem_of_getElem? (i := 9) rfl)) (hw _ (List.mem_of_getElem? (i := 2) rfl)) (hw _ (List.mem_of_getElem? (i := 10) rfl)) (by decide) (rm3 l Z a0 hw [] n0 order (1 : Int32) (u5).toInt64 (u6).toInt64 (0 : Int64) x10 x20 (0 : Int64) h391 zs391) pd_1 rfl rfl (by rw [hml]; rfl) (pc' := 438) rfl (hb hby at_435) (argsL := [(.int order), (.int (1 : Int32)), (.long (u5).toInt64), (.long (u6).toInt64), (.long (0 : Int64)), (.long x10), (.long x20), (.long (0 : Int64))]) (rest := [(.int (0 : Int32)), (.int (1 : Int32)), (.int wd), (.ref a382)]) rfl (W := 4) (Nat.le_of_eq rfl) (by decide) (by decide) (by decide) (by decide) (fun v393 T393 h393 X393 hQ393 => ?_)
  obtain ⟨rfl, he393⟩ := hQ393
  rw [he393] at X393
  show Go p e below s n0 _ _ _ (T393.setTop (mkF m 438 #[.val (.long y0), .second, .val (.long y1), .second, .val (.long y2), .second, .val (.int y3), .val (.int order), .val (.int wd), .val (.int (4 : Int32)), .val (.int u1), .val (.int u2), .val (.int u6), .val (.int u0), .val (.int u5), .val (.int u10), .val (.int g), .val (.int g2), .val (.ref a334), .val (.long x00), .second, .val (.long x01), .second, .val (.long x02), .second, .val (.long x10), .second, .val (.long x11), .second, .val (.long x12), .second, .val (.long x20), .second, .val (.long x21), .second, .val (.long x22), .second, .val (.long x30), .second, .val (.long x31), .second, .val (.long x32), .second, .val (.ref a382)] [(.long (rV order (1 : Int32) (u5).toInt64 (u6).toInt64 (0 : Int64) x10 x20 (0 : Int64))), (.int (0 : Int32)), (.int (1 : Int32)), (.int wd), (.ref a382)]))
  refine g_callS X393 hx hZ hown (hw _ (List.mem_of_getElem? (i := 11) rfl)) (hw _ (List.mem_of_getElem? (i := 12) rfl)) (hw _ (List.mem_of_getElem? (i := 2) rfl)) (hw _ (List.mem_of_getElem? (i := 13) rfl)) (by decide) (rm4 l Z a0 hw [] n0 a382 wd (1 : Int32) (0 : Int32) (rV order (1 : Int32) (u5).toInt64 (u6).toInt64 (0 : Int64) x10 x20 (0 : Int64)) cs391 W 1 0 h391 zs391 eW rfl rfl bW (by decide) (by decide) lc391 A391 G_a382) pd_2 rfl rfl (by rw [hml]; rfl) (pc' := 441) rfl (hb hby at_438) (argsL := [(.ref a382), (.int wd), (.int (1 : Int32)), (.int (0 : Int32)), (.long (rV order (1 : Int32) (u5).toInt64 (u6).toInt64 (0 : Int64) x10 x20 (0 : Int64)))]) (rest := []) rfl (W := 0) (Nat.le_of_eq rfl) (by decide) (by decide) (by decide) (by decide) (fun v394 T394 h394 X394 hQ394 => ?_)
  obtain ⟨rfl, K394, cs394, A394, ec394, lc394⟩ := hQ394
  have f395 := f392.keep K394 (ninS ne382_a334 nin0)
  have zs394 : n0 ≤ h394.size := Nat.le_trans zs391 K394.1
  show Go p e below s n0 _ _ _ (T394.setTop (mkF m 441 #[.val (.long y0), .second, .val (.long y1), .second, .val (.long y2), .second, .val (.int y3), .val (.int order), .val (.int wd), .val (.int (4 : Int32)), .val (.int u1), .val (.int u2), .val (.int u6), .val (.int u0), .val (.int u5), .val (.int u10), .val (.int g), .val (.int g2), .val (.ref a334), .val (.long x00), .second, .val (.long x01), .second, .val (.long x02), .second, .val (.long x10), .second, .val (.long x11), .second, .val (.long x12), .second, .val (.long x20), .second, .val (.long x21), .second, .val (.long x22), .second, .val (.long x30), .second, .val (.long x31), .second, .val (.long x32), .second, .val (.ref a382)] []))
  refine g_aload X394 hx (pc' := 443) rfl (hb hby at_441) rfl rfl ?_
  refine g_iload X394 hx (pc' := 445) rfl (hb hby at_443) rfl ?_
  refine g_iconst X394 hx (pc' := 446) (z := (1 : Int32)) rfl (hb hby at_445) rfl ?_
  refine g_iconst X394 hx (pc' := 447) (z := (1 : Int32)) rfl (hb hby at_446) rfl ?_
  refine g_iload X394 hx (pc' := 449) rfl (hb hby at_447) rfl ?_
  refine g_iconst X394 hx (pc' := 450) (z := (1 : Int32)) rfl (hb hby at_449) rfl ?_
  refine g_iload X394 hx (pc' := 452) rfl (hb hby at_450) rfl ?_
  refine g_i2l X394 hx (pc' := 453) rfl (hb hby at_452) ?_
  refine g_iload X394 hx (pc' := 455) rfl (hb hby at_453) rfl ?_
  refine g_i2l X394 hx (pc' := 456) rfl (hb hby at_455) ?_
  refine g_lconst X394 hx (pc' := 457) (z := (0 : Int64)) rfl (hb hby at_456) rfl ?_
  refine g_lload X394 hx (pc' := 459) rfl (hb hby at_457) rfl ?_
  refine g_lload X394 hx (pc' := 461) rfl (hb hby at_459) rfl ?_
  refine g_lconst X394 hx (pc' := 462) (z := (0 : Int64)) rfl (hb hby at_461) rfl ?_
  refine g_callS X394 hx hZ hown (hw _ (List.mem_of_getElem? (i := 8) rfl)) (hw _ (List.mem_of_getElem? (i := 9) rfl)) (hw _ (List.mem_of_getElem? (i := 2) rfl)) (hw _ (List.mem_of_getElem? (i := 10) rfl)) (by decide) (rm3 l Z a0 hw [] n0 order (1 : Int32) (u5).toInt64 (u6).toInt64 (0 : Int64) x11 x21 (0 : Int64) h394 zs394) pd_1 rfl rfl (by rw [hml]; rfl) (pc' := 465) rfl (hb hby at_462) (argsL := [(.int order), (.int (1 : Int32)), (.long (u5).toInt64), (.long (u6).toInt64), (.long (0 : Int64)), (.long x11), (.long x21), (.long (0 : Int64))]) (rest := [(.int (1 : Int32)), (.int (1 : Int32)), (.int wd), (.ref a382)]) rfl (W := 4) (Nat.le_of_eq rfl) (by decide) (by decide) (by decide) (by decide) (fun v396 T396 h396 X396 hQ396 => ?_)
  obtain ⟨rfl, he396⟩ := hQ396
  rw [he396] at X396
  show Go p e below s n0 _ _ _ (T396.setTop (mkF m 465 #[.val (.long y0), .second, .val (.long y1), .second, .val (.long y2), .second, .val (.int y3), .val (.int order), .val (.int wd), .val (.int (4 : Int32)), .val (.int u1), .val (.int u2), .val (.int u6), .val (.int u0), .val (.int u5), .val (.int u10), .val (.int g), .val (.int g2), .val (.ref a334), .val (.long x00), .second, .val (.long x01), .second, .val (.long x02), .second, .val (.long x10), .second, .val (.long x11), .second, .val (.long x12), .second, .val (.long x20), .second, .val (.long x21), .second, .val (.long x22), .second, .val (.long x30), .second, .val (.long x31), .second, .val (.long x32), .second, .val (.ref a382)] [(.long (rV order (1 : Int32) (u5).toInt64 (u6).toInt64 (0 : Int64) x11 x21 (0 : Int64))), (.int (1 : Int32)), (.int (1 : Int32)), (.int wd), (.ref a382)]))
  refine g_callS X396 hx hZ hown (hw _ (List.mem_of_getElem? (i := 11) rfl)) (hw _ (List.mem_of_getElem? (i := 12) rfl)) (hw _ (List.mem_of_getElem? (i := 2) rfl)) (hw _ (List.mem_of_getElem? (i := 13) rfl)) (by decide) (rm4 l Z a0 hw [] n0 a382 wd (1 : Int32) (1 : Int32) (rV order (1 : Int32) (u5).toInt64 (u6).toInt64 (0 : Int64) x11 x21 (0 : Int64)) cs394 W 1 1 h394 zs394 eW rfl rfl bW (by decide) (by decide) lc394 A394 G_a382) pd_2 rfl rfl (by rw [hml]; rfl) (pc' := 468) rfl (hb hby at_465) (argsL := [(.ref a382), (.int wd), (.int (1 : Int32)), (.int (1 : Int32)), (.long (rV order (1 : Int32) (u5).toInt64 (u6).toInt64 (0 : Int64) x11 x21 (0 : Int64)))]) (rest := []) rfl (W := 0) (Nat.le_of_eq rfl) (by decide) (by decide) (by decide) (by decide) (fun v397 T397 h397 X397 hQ397 => ?_)
  obtain ⟨rfl, K397, cs397, A397, ec397, lc397⟩ := hQ397
  have f398 := f395.keep K397 (ninS ne382_a334 nin0)
  have zs397 : n0 ≤ h397.size := Nat.le_trans zs394 K397.1
  show Go p e below s n0 _ _ _ (T397.setTop (mkF m 468 #[.val (.long y0), .second, .val (.long y1), .second, .val (.long y2), .second, .val (.int y3), .val (.int order), .val (.int wd), .val (.int (4 : Int32)), .val (.int u1), .val (.int u2), .val (.int u6), .val (.int u0), .val (.int u5), .val (.int u10), .val (.int g), .val (.int g2), .val (.ref a334), .val (.long x00), .second, .val (.long x01), .second, .val (.long x02), .second, .val (.long x10), .second, .val (.long x11), .second, .val (.long x12), .second, .val (.long x20), .second, .val (.long x21), .second, .val (.long x22), .second, .val (.long x30), .second, .val (.long x31), .second, .val (.long x32), .second, .val (.ref a382)] []))
  refine g_aload X397 hx (pc' := 470) rfl (hb hby at_468) rfl rfl ?_
  refine g_iload X397 hx (pc' := 472) rfl (hb hby at_470) rfl ?_
  refine g_iconst X397 hx (pc' := 473) (z := (1 : Int32)) rfl (hb hby at_472) rfl ?_
  refine g_iconst X397 hx (pc' := 474) (z := (2 : Int32)) rfl (hb hby at_473) rfl ?_
  refine g_iload X397 hx (pc' := 476) rfl (hb hby at_474) rfl ?_
  refine g_iconst X397 hx (pc' := 477) (z := (1 : Int32)) rfl (hb hby at_476) rfl ?_
  refine g_iload X397 hx (pc' := 479) rfl (hb hby at_477) rfl ?_
  refine g_i2l X397 hx (pc' := 480) rfl (hb hby at_479) ?_
  refine g_iload X397 hx (pc' := 482) rfl (hb hby at_480) rfl ?_
  refine g_i2l X397 hx (pc' := 483) rfl (hb hby at_482) ?_
  refine g_lconst X397 hx (pc' := 484) (z := (0 : Int64)) rfl (hb hby at_483) rfl ?_
  refine g_lload X397 hx (pc' := 486) rfl (hb hby at_484) rfl ?_
  refine g_lload X397 hx (pc' := 488) rfl (hb hby at_486) rfl ?_
  refine g_lconst X397 hx (pc' := 489) (z := (0 : Int64)) rfl (hb hby at_488) rfl ?_
  refine g_callS X397 hx hZ hown (hw _ (List.mem_of_getElem? (i := 8) rfl)) (hw _ (List.mem_of_getElem? (i := 9) rfl)) (hw _ (List.mem_of_getElem? (i := 2) rfl)) (hw _ (List.mem_of_getElem? (i := 10) rfl)) (by decide) (rm3 l Z a0 hw [] n0 order (1 : Int32) (u5).toInt64 (u6).toInt64 (0 : Int64) x12 x22 (0 : Int64) h397 zs397) pd_1 rfl rfl (by rw [hml]; rfl) (pc' := 492) rfl (hb hby at_489) (argsL := [(.int order), (.int (1 : Int32)), (.long (u5).toInt64), (.long (u6).toInt64), (.long (0 : Int64)), (.long x12), (.long x22), (.long (0 : Int64))]) (rest := [(.int (2 : Int32)), (.int (1 : Int32)), (.int wd), (.ref a382)]) rfl (W := 4) (Nat.le_of_eq rfl) (by decide) (by decide) (by decide) (by decide) (fun v399 T399 h399 X399 hQ399 => ?_)
  obtain ⟨rfl, he399⟩ := hQ399
  rw [he399] at X399
  show Go p e below s n0 _ _ _ (T399.setTop (mkF m 492 #[.val (.long y0), .second, .val (.long y1), .second, .val (.long y2), .second, .val (.int y3), .val (.int order), .val (.int wd), .val (.int (4 : Int32)), .val (.int u1), .val (.int u2), .val (.int u6), .val (.int u0), .val (.int u5), .val (.int u10), .val (.int g), .val (.int g2), .val (.ref a334), .val (.long x00), .second, .val (.long x01), .second, .val (.long x02), .second, .val (.long x10), .second, .val (.long x11), .second, .val (.long x12), .second, .val (.long x20), .second, .val (.long x21), .second, .val (.long x22), .second, .val (.long x30), .second, .val (.long x31), .second, .val (.long x32), .second, .val (.ref a382)] [(.long (rV order (1 : Int32) (u5).toInt64 (u6).toInt64 (0 : Int64) x12 x22 (0 : Int64))), (.int (2 : Int32)), (.int (1 : Int32)), (.int wd), (.ref a382)]))
  refine g_callS X399 hx hZ hown (hw _ (List.mem_of_getElem? (i := 11) rfl)) (hw _ (List.mem_of_getElem? (i := 12) rfl)) (hw _ (List.mem_of_getElem? (i := 2) rfl)) (hw _ (List.mem_of_getElem? (i := 13) rfl)) (by decide) (rm4 l Z a0 hw [] n0 a382 wd (1 : Int32) (2 : Int32) (rV order (1 : Int32) (u5).toInt64 (u6).toInt64 (0 : Int64) x12 x22 (0 : Int64)) cs397 W 1 2 h397 zs397 eW rfl rfl bW (by decide) (by decide) lc397 A397 G_a382) pd_2 rfl rfl (by rw [hml]; rfl) (pc' := 495) rfl (hb hby at_492) (argsL := [(.ref a382), (.int wd), (.int (1 : Int32)), (.int (2 : Int32)), (.long (rV order (1 : Int32) (u5).toInt64 (u6).toInt64 (0 : Int64) x12 x22 (0 : Int64)))]) (rest := []) rfl (W := 0) (Nat.le_of_eq rfl) (by decide) (by decide) (by decide) (by decide) (fun v400 T400 h400 X400 hQ400 => ?_)
  obtain ⟨rfl, K400, cs400, A400, ec400, lc400⟩ := hQ400
  have f401 := f398.keep K400 (ninS ne382_a334 nin0)
  have zs400 : n0 ≤ h400.size := Nat.le_trans zs397 K400.1
  show Go p e below s n0 _ _ _ (T400.setTop (mkF m 495 #[.val (.long y0), .second, .val (.long y1), .second, .val (.long y2), .second, .val (.int y3), .val (.int order), .val (.int wd), .val (.int (4 : Int32)), .val (.int u1), .val (.int u2), .val (.int u6), .val (.int u0), .val (.int u5), .val (.int u10), .val (.int g), .val (.int g2), .val (.ref a334), .val (.long x00), .second, .val (.long x01), .second, .val (.long x02), .second, .val (.long x10), .second, .val (.long x11), .second, .val (.long x12), .second, .val (.long x20), .second, .val (.long x21), .second, .val (.long x22), .second, .val (.long x30), .second, .val (.long x31), .second, .val (.long x32), .second, .val (.ref a382)] []))
  refine g_aload X400 hx (pc' := 497) rfl (hb hby at_495) rfl rfl ?_
  refine g_iload X400 hx (pc' := 499) rfl (hb hby at_497) rfl ?_
  refine g_iconst X400 hx (pc' := 500) (z := (2 : Int32)) rfl (hb hby at_499) rfl ?_
  refine g_iconst X400 hx (pc' := 501) (z := (0 : Int32)) rfl (hb hby at_500) rfl ?_
  refine g_iload X400 hx (pc' := 503) rfl (hb hby at_501) rfl ?_
  refine g_iconst X400 hx (pc' := 504) (z := (2 : Int32)) rfl (hb hby at_503) rfl ?_
  refine g_iload X400 hx (pc' := 506) rfl (hb hby at_504) rfl ?_
  refine g_i2l X400 hx (pc' := 507) rfl (hb hby at_506) ?_
  refine g_lconst X400 hx (pc' := 508) (z := (0 : Int64)) rfl (hb hby at_507) rfl ?_
  refine g_lconst X400 hx (pc' := 509) (z := (0 : Int64)) rfl (hb hby at_508) rfl ?_
  refine g_lload X400 hx (pc' := 511) rfl (hb hby at_509) rfl ?_
  refine g_lconst X400 hx (pc' := 512) (z := (0 : Int64)) rfl (hb hby at_511) rfl ?_
  refine g_lconst X400 hx (pc' := 513) (z := (0 : Int64)) rfl (hb hby at_512) rfl ?_
  refine g_callS X400 hx hZ hown (hw _ (List.mem_of_getElem? (i := 8) rfl)) (hw _ (List.mem_of_getElem? (i := 9) rfl)) (hw _ (List.mem_of_getElem? (i := 2) rfl)) (hw _ (List.mem_of_getElem? (i := 10) rfl)) (by decide) (rm3 l Z a0 hw [] n0 order (2 : Int32) (u10).toInt64 (0 : Int64) (0 : Int64) x20 (0 : Int64) (0 : Int64) h400 zs400) pd_1 rfl rfl (by rw [hml]; rfl) (pc' := 516) rfl (hb hby at_513) (argsL := [(.int order), (.int (2 : Int32)), (.long (u10).toInt64), (.long (0 : Int64)), (.long (0 : Int64)), (.long x20), (.long (0 : Int64)), (.long (0 : Int64))]) (rest := [(.int (0 : Int32)), (.int (2 : Int32)), (.int wd), (.ref a382)]) rfl (W := 4) (Nat.le_of_eq rfl) (by decide) (by decide) (by decide) (by decide) (fun v402 T402 h402 X402 hQ402 => ?_)
  obtain ⟨rfl, he402⟩ := hQ402
  rw [he402] at X402
  show Go p e below s n0 _ _ _ (T402.setTop (mkF m 516 #[.val (.long y0), .second, .val (.long y1), .second, .val (.long y2), .second, .val (.int y3), .val (.int order), .val (.int wd), .val (.int (4 : Int32)), .val (.int u1), .val (.int u2), .val (.int u6), .val (.int u0), .val (.int u5), .val (.int u10), .val (.int g), .val (.int g2), .val (.ref a334), .val (.long x00), .second, .val (.long x01), .second, .val (.long x02), .second, .val (.long x10), .second, .val (.long x11), .second, .val (.long x12), .second, .val (.long x20), .second, .val (.long x21), .second, .val (.long x22), .second, .val (.long x30), .second, .val (.long x31), .second, .val (.long x32), .second, .val (.ref a382)] [(.long (rV order (2 : Int32) (u10).toInt64 (0 : Int64) (0 : Int64) x20 (0 : Int64) (0 : Int64))), (.int (0 : Int32)), (.int (2 : Int32)), (.int wd), (.ref a382)]))
  refine g_callS X402 hx hZ hown (hw _ (List.mem_of_getElem? (i := 11) rfl)) (hw _ (List.mem_of_getElem? (i := 12) rfl)) (hw _ (List.mem_of_getElem? (i := 2) rfl)) (hw _ (List.mem_of_getElem? (i := 13) rfl)) (by decide) (rm4 l Z a0 hw [] n0 a382 wd (2 : Int32) (0 : Int32) (rV order (2 : Int32) (u10).toInt64 (0 : Int64) (0 : Int64) x20 (0 : Int64) (0 : Int64)) cs400 W 2 0 h400 zs400 eW rfl rfl bW (by decide) (by decide) lc400 A400 G_a382) pd_2 rfl rfl (by rw [hml]; rfl) (pc' := 519) rfl (hb hby at_516) (argsL := [(.ref a382), (.int wd), (.int (2 : Int32)), (.int (0 : Int32)), (.long (rV order (2 : Int32) (u10).toInt64 (0 : Int64) (0 : Int64) x20 (0 : Int64) (0 : Int64)))]) (rest := []) rfl (W := 0) (Nat.le_of_eq rfl) (by decide) (by decide) (by decide) (by decide) (fun v403 T403 h403 X403 hQ403 => ?_)
  obtain ⟨rfl, K403, cs403, A403, ec403, lc403⟩ := hQ403
  have f404 := f401.keep K403 (ninS ne382_a334 nin0)
  have zs403 : n0 ≤ h403.size := Nat.le_trans zs400 K403.1
  show Go p e below s n0 _ _ _ (T403.setTop (mkF m 519 #[.val (.long y0), .second, .val (.long y1), .second, .val (.long y2), .second, .val (.int y3), .val (.int order), .val (.int wd), .val (.int (4 : Int32)), .val (.int u1), .val (.int u2), .val (.int u6), .val (.int u0), .val (.int u5), .val (.int u10), .val (.int g), .val (.int g2), .val (.ref a334), .val (.long x00), .second, .val (.long x01), .second, .val (.long x02), .second, .val (.long x10), .second, .val (.long x11), .second, .val (.long x12), .second, .val (.long x20), .second, .val (.long x21), .second, .val (.long x22), .second, .val (.long x30), .second, .val (.long x31), .second, .val (.long x32), .second, .val (.ref a382)] []))
  refine g_aload X403 hx (pc' := 521) rfl (hb hby at_519) rfl rfl ?_
  refine g_iload X403 hx (pc' := 523) rfl (hb hby at_521) rfl ?_
  refine g_iconst X403 hx (pc' := 524) (z := (2 : Int32)) rfl (hb hby at_523) rfl ?_
  refine g_iconst X403 hx (pc' := 525) (z := (1 : Int32)) rfl (hb hby at_524) rfl ?_
  refine g_iload X403 hx (pc' := 527) rfl (hb hby at_525) rfl ?_
  refine g_iconst X403 hx (pc' := 528) (z := (2 : Int32)) rfl (hb hby at_527) rfl ?_
  refine g_iload X403 hx (pc' := 530) rfl (hb hby at_528) rfl ?_
  refine g_i2l X403 hx (pc' := 531) rfl (hb hby at_530) ?_
  refine g_lconst X403 hx (pc' := 532) (z := (0 : Int64)) rfl (hb hby at_531) rfl ?_
  refine g_lconst X403 hx (pc' := 533) (z := (0 : Int64)) rfl (hb hby at_532) rfl ?_
  refine g_lload X403 hx (pc' := 535) rfl (hb hby at_533) rfl ?_
  refine g_lconst X403 hx (pc' := 536) (z := (0 : Int64)) rfl (hb hby at_535) rfl ?_
  refine g_lconst X403 hx (pc' := 537) (z := (0 : Int64)) rfl (hb hby at_536) rfl ?_
  refine g_callS X403 hx hZ hown (hw _ (List.mem_of_getElem? (i := 8) rfl)) (hw _ (List.mem_of_getElem? (i := 9) rfl)) (hw _ (List.mem_of_getElem? (i := 2) rfl)) (hw _ (List.mem_of_getElem? (i := 10) rfl)) (by decide) (rm3 l Z a0 hw [] n0 order (2 : Int32) (u10).toInt64 (0 : Int64) (0 : Int64) x21 (0 : Int64) (0 : Int64) h403 zs403) pd_1 rfl rfl (by rw [hml]; rfl) (pc' := 540) rfl (hb hby at_537) (argsL := [(.int order), (.int (2 : Int32)), (.long (u10).toInt64), (.long (0 : Int64)), (.long (0 : Int64)), (.long x21), (.long (0 : Int64)), (.long (0 : Int64))]) (rest := [(.int (1 : Int32)), (.int (2 : Int32)), (.int wd), (.ref a382)]) rfl (W := 4) (Nat.le_of_eq rfl) (by decide) (by decide) (by decide) (by decide) (fun v405 T405 h405 X405 hQ405 => ?_)
  obtain ⟨rfl, he405⟩ := hQ405
  rw [he405] at X405
  show Go p e below s n0 _ _ _ (T405.setTop (mkF m 540 #[.val (.long y0), .second, .val (.long y1), .second, .val (.long y2), .second, .val (.int y3), .val (.int order), .val (.int wd), .val (.int (4 : Int32)), .val (.int u1), .val (.int u2), .val (.int u6), .val (.int u0), .val (.int u5), .val (.int u10), .val (.int g), .val (.int g2), .val (.ref a334), .val (.long x00), .second, .val (.long x01), .second, .val (.long x02), .second, .val (.long x10), .second, .val (.long x11), .second, .val (.long x12), .second, .val (.long x20), .second, .val (.long x21), .second, .val (.long x22), .second, .val (.long x30), .second, .val (.long x31), .second, .val (.long x32), .second, .val (.ref a382)] [(.long (rV order (2 : Int32) (u10).toInt64 (0 : Int64) (0 : Int64) x21 (0 : Int64) (0 : Int64))), (.int (1 : Int32)), (.int (2 : Int32)), (.int wd), (.ref a382)]))
  refine g_callS X405 hx hZ hown (hw _ (List.mem_of_getElem? (i := 11) rfl)) (hw _ (List.mem_of_getElem? (i := 12) rfl)) (hw _ (List.mem_of_getElem? (i := 2) rfl)) (hw _ (List.mem_of_getElem? (i := 13) rfl)) (by decide) (rm4 l Z a0 hw [] n0 a382 wd (2 : Int32) (1 : Int32) (rV order (2 : Int32) (u10).toInt64 (0 : Int64) (0 : Int64) x21 (0 : Int64) (0 : Int64)) cs403 W 2 1 h403 zs403 eW rfl rfl bW (by decide) (by decide) lc403 A403 G_a382) pd_2 rfl rfl (by rw [hml]; rfl) (pc' := 543) rfl (hb hby at_540) (argsL := [(.ref a382), (.int wd), (.int (2 : Int32)), (.int (1 : Int32)), (.long (rV order (2 : Int32) (u10).toInt64 (0 : Int64) (0 : Int64) x21 (0 : Int64) (0 : Int64)))]) (rest := []) rfl (W := 0) (Nat.le_of_eq rfl) (by decide) (by decide) (by decide) (by decide) (fun v406 T406 h406 X406 hQ406 => ?_)
  obtain ⟨rfl, K406, cs406, A406, ec406, lc406⟩ := hQ406
  have f407 := f404.keep K406 (ninS ne382_a334 nin0)
  have zs406 : n0 ≤ h406.size := Nat.le_trans zs403 K406.1
  show Go p e below s n0 _ _ _ (T406.setTop (mkF m 543 #[.val (.long y0), .second, .val (.long y1), .second, .val (.long y2), .second, .val (.int y3), .val (.int order), .val (.int wd), .val (.int (4 : Int32)), .val (.int u1), .val (.int u2), .val (.int u6), .val (.int u0), .val (.int u5), .val (.int u10), .val (.int g), .val (.int g2), .val (.ref a334), .val (.long x00), .second, .val (.long x01), .second, .val (.long x02), .second, .val (.long x10), .second, .val (.long x11), .second, .val (.long x12), .second, .val (.long x20), .second, .val (.long x21), .second, .val (.long x22), .second, .val (.long x30), .second, .val (.long x31), .second, .val (.long x32), .second, .val (.ref a382)] []))
  refine g_aload X406 hx (pc' := 545) rfl (hb hby at_543) rfl rfl ?_
  refine g_iload X406 hx (pc' := 547) rfl (hb hby at_545) rfl ?_
  refine g_iconst X406 hx (pc' := 548) (z := (2 : Int32)) rfl (hb hby at_547) rfl ?_
  refine g_iconst X406 hx (pc' := 549) (z := (2 : Int32)) rfl (hb hby at_548) rfl ?_
  refine g_iload X406 hx (pc' := 551) rfl (hb hby at_549) rfl ?_
  refine g_iconst X406 hx (pc' := 552) (z := (2 : Int32)) rfl (hb hby at_551) rfl ?_
  refine g_iload X406 hx (pc' := 554) rfl (hb hby at_552) rfl ?_
  refine g_i2l X406 hx (pc' := 555) rfl (hb hby at_554) ?_
  refine g_lconst X406 hx (pc' := 556) (z := (0 : Int64)) rfl (hb hby at_555) rfl ?_
  refine g_lconst X406 hx (pc' := 557) (z := (0 : Int64)) rfl (hb hby at_556) rfl ?_
  refine g_lload X406 hx (pc' := 559) rfl (hb hby at_557) rfl ?_
  refine g_lconst X406 hx (pc' := 560) (z := (0 : Int64)) rfl (hb hby at_559) rfl ?_
  refine g_lconst X406 hx (pc' := 561) (z := (0 : Int64)) rfl (hb hby at_560) rfl ?_
  refine g_callS X406 hx hZ hown (hw _ (List.mem_of_getElem? (i := 8) rfl)) (hw _ (List.mem_of_getElem? (i := 9) rfl)) (hw _ (List.mem_of_getElem? (i := 2) rfl)) (hw _ (List.mem_of_getElem? (i := 10) rfl)) (by decide) (rm3 l Z a0 hw [] n0 order (2 : Int32) (u10).toInt64 (0 : Int64) (0 : Int64) x22 (0 : Int64) (0 : Int64) h406 zs406) pd_1 rfl rfl (by rw [hml]; rfl) (pc' := 564) rfl (hb hby at_561) (argsL := [(.int order), (.int (2 : Int32)), (.long (u10).toInt64), (.long (0 : Int64)), (.long (0 : Int64)), (.long x22), (.long (0 : Int64)), (.long (0 : Int64))]) (rest := [(.int (2 : Int32)), (.int (2 : Int32)), (.int wd), (.ref a382)]) rfl (W := 4) (Nat.le_of_eq rfl) (by decide) (by decide) (by decide) (by decide) (fun v408 T408 h408 X408 hQ408 => ?_)
  obtain ⟨rfl, he408⟩ := hQ408
  rw [he408] at X408
  show Go p e below s n0 _ _ _ (T408.setTop (mkF m 564 #[.val (.long y0), .second, .val (.long y1), .second, .val (.long y2), .second, .val (.int y3), .val (.int order), .val (.int wd), .val (.int (4 : Int32)), .val (.int u1), .val (.int u2), .val (.int u6), .val (.int u0), .val (.int u5), .val (.int u10), .val (.int g), .val (.int g2), .val (.ref a334), .val (.long x00), .second, .val (.long x01), .second, .val (.long x02), .second, .val (.long x10), .second, .val (.long x11), .second, .val (.long x12), .second, .val (.long x20), .second, .val (.long x21), .second, .val (.long x22), .second, .val (.long x30), .second, .val (.long x31), .second, .val (.long x32), .second, .val (.ref a382)] [(.long (rV order (2 : Int32) (u10).toInt64 (0 : Int64) (0 : Int64) x22 (0 : Int64) (0 : Int64))), (.int (2 : Int32)), (.int (2 : Int32)), (.int wd), (.ref a382)]))
  refine g_callS X408 hx hZ hown (hw _ (List.mem_of_getElem? (i := 11) rfl)) (hw _ (List.mem_of_getElem? (i := 12) rfl)) (hw _ (List.mem_of_getElem? (i := 2) rfl)) (hw _ (List.mem_of_getElem? (i := 13) rfl)) (by decide) (rm4 l Z a0 hw [] n0 a382 wd (2 : Int32) (2 : Int32) (rV order (2 : Int32) (u10).toInt64 (0 : Int64) (0 : Int64) x22 (0 : Int64) (0 : Int64)) cs406 W 2 2 h406 zs406 eW rfl rfl bW (by decide) (by decide) lc406 A406 G_a382) pd_2 rfl rfl (by rw [hml]; rfl) (pc' := 567) rfl (hb hby at_564) (argsL := [(.ref a382), (.int wd), (.int (2 : Int32)), (.int (2 : Int32)), (.long (rV order (2 : Int32) (u10).toInt64 (0 : Int64) (0 : Int64) x22 (0 : Int64) (0 : Int64)))]) (rest := []) rfl (W := 0) (Nat.le_of_eq rfl) (by decide) (by decide) (by decide) (by decide) (fun v409 T409 h409 X409 hQ409 => ?_)
  obtain ⟨rfl, K409, cs409, A409, ec409, lc409⟩ := hQ409
  have f410 := f407.keep K409 (ninS ne382_a334 nin0)
  have zs409 : n0 ≤ h409.size := Nat.le_trans zs406 K409.1
  show Go p e below s n0 _ _ _ (T409.setTop (mkF m 567 #[.val (.long y0), .second, .val (.long y1), .second, .val (.long y2), .second, .val (.int y3), .val (.int order), .val (.int wd), .val (.int (4 : Int32)), .val (.int u1), .val (.int u2), .val (.int u6), .val (.int u0), .val (.int u5), .val (.int u10), .val (.int g), .val (.int g2), .val (.ref a334), .val (.long x00), .second, .val (.long x01), .second, .val (.long x02), .second, .val (.long x10), .second, .val (.long x11), .second, .val (.long x12), .second, .val (.long x20), .second, .val (.long x21), .second, .val (.long x22), .second, .val (.long x30), .second, .val (.long x31), .second, .val (.long x32), .second, .val (.ref a382)] []))
  refine g_aload X409 hx (pc' := 569) rfl (hb hby at_567) rfl rfl ?_
  refine g_iload X409 hx (pc' := 571) rfl (hb hby at_569) rfl ?_
  refine g_iconst X409 hx (pc' := 572) (z := (3 : Int32)) rfl (hb hby at_571) rfl ?_
  refine g_iconst X409 hx (pc' := 573) (z := (0 : Int32)) rfl (hb hby at_572) rfl ?_
  refine g_lload X409 hx (pc' := 575) rfl (hb hby at_573) rfl ?_
  refine g_callS X409 hx hZ hown (hw _ (List.mem_of_getElem? (i := 11) rfl)) (hw _ (List.mem_of_getElem? (i := 12) rfl)) (hw _ (List.mem_of_getElem? (i := 2) rfl)) (hw _ (List.mem_of_getElem? (i := 13) rfl)) (by decide) (rm4 l Z a0 hw [] n0 a382 wd (3 : Int32) (0 : Int32) x30 cs409 W 3 0 h409 zs409 eW rfl rfl bW (by decide) (by decide) lc409 A409 G_a382) pd_2 rfl rfl (by rw [hml]; rfl) (pc' := 578) rfl (hb hby at_575) (argsL := [(.ref a382), (.int wd), (.int (3 : Int32)), (.int (0 : Int32)), (.long x30)]) (rest := []) rfl (W := 0) (Nat.le_of_eq rfl) (by decide) (by decide) (by decide) (by decide) (fun v411 T411 h411 X411 hQ411 => ?_)
  obtain ⟨rfl, K411, cs411, A411, ec411, lc411⟩ := hQ411
  have f412 := f410.keep K411 (ninS ne382_a334 nin0)
  have zs411 : n0 ≤ h411.size := Nat.le_trans zs409 K411.1
  show Go p e below s n0 _ _ _ (T411.setTop (mkF m 578 #[.val (.long y0), .second, .val (.long y1), .second, .val (.long y2), .second, .val (.int y3), .val (.int order), .val (.int wd), .val (.int (4 : Int32)), .val (.int u1), .val (.int u2), .val (.int u6), .val (.int u0), .val (.int u5), .val (.int u10), .val (.int g), .val (.int g2), .val (.ref a334), .val (.long x00), .second, .val (.long x01), .second, .val (.long x02), .second, .val (.long x10), .second, .val (.long x11), .second, .val (.long x12), .second, .val (.long x20), .second, .val (.long x21), .second, .val (.long x22), .second, .val (.long x30), .second, .val (.long x31), .second, .val (.long x32), .second, .val (.ref a382)] []))
  refine g_aload X411 hx (pc' := 580) rfl (hb hby at_578) rfl rfl ?_
  refine g_iload X411 hx (pc' := 582) rfl (hb hby at_580) rfl ?_
  refine g_iconst X411 hx (pc' := 583) (z := (3 : Int32)) rfl (hb hby at_582) rfl ?_
  refine g_iconst X411 hx (pc' := 584) (z := (1 : Int32)) rfl (hb hby at_583) rfl ?_
  refine g_lload X411 hx (pc' := 586) rfl (hb hby at_584) rfl ?_
  refine g_callS X411 hx hZ hown (hw _ (List.mem_of_getElem? (i := 11) rfl)) (hw _ (List.mem_of_getElem? (i := 12) rfl)) (hw _ (List.mem_of_getElem? (i := 2) rfl)) (hw _ (List.mem_of_getElem? (i := 13) rfl)) (by decide) (rm4 l Z a0 hw [] n0 a382 wd (3 : Int32) (1 : Int32) x31 cs411 W 3 1 h411 zs411 eW rfl rfl bW (by decide) (by decide) lc411 A411 G_a382) pd_2 rfl rfl (by rw [hml]; rfl) (pc' := 589) rfl (hb hby at_586) (argsL := [(.ref a382), (.int wd), (.int (3 : Int32)), (.int (1 : Int32)), (.long x31)]) (rest := []) rfl (W := 0) (Nat.le_of_eq rfl) (by decide) (by decide) (by decide) (by decide) (fun v413 T413 h413 X413 hQ413 => ?_)
  obtain ⟨rfl, K413, cs413, A413, ec413, lc413⟩ := hQ413
  have f414 := f412.keep K413 (ninS ne382_a334 nin0)
  have zs413 : n0 ≤ h413.size := Nat.le_trans zs411 K413.1
  show Go p e below s n0 _ _ _ (T413.setTop (mkF m 589 #[.val (.long y0), .second, .val (.long y1), .second, .val (.long y2), .second, .val (.int y3), .val (.int order), .val (.int wd), .val (.int (4 : Int32)), .val (.int u1), .val (.int u2), .val (.int u6), .val (.int u0), .val (.int u5), .val (.int u10), .val (.int g), .val (.int g2), .val (.ref a334), .val (.long x00), .second, .val (.long x01), .second, .val (.long x02), .second, .val (.long x10), .second, .val (.long x11), .second, .val (.long x12), .second, .val (.long x20), .second, .val (.long x21), .second, .val (.long x22), .second, .val (.long x30), .second, .val (.long x31), .second, .val (.long x32), .second, .val (.ref a382)] []))
  refine g_aload X413 hx (pc' := 591) rfl (hb hby at_589) rfl rfl ?_
  refine g_iload X413 hx (pc' := 593) rfl (hb hby at_591) rfl ?_
  refine g_iconst X413 hx (pc' := 594) (z := (3 : Int32)) rfl (hb hby at_593) rfl ?_
  refine g_iconst X413 hx (pc' := 595) (z := (2 : Int32)) rfl (hb hby at_594) rfl ?_
  refine g_lload X413 hx (pc' := 597) rfl (hb hby at_595) rfl ?_
  refine g_callS X413 hx hZ hown (hw _ (List.mem_of_getElem? (i := 11) rfl)) (hw _ (List.mem_of_getElem? (i := 12) rfl)) (hw _ (List.mem_of_getElem? (i := 2) rfl)) (hw _ (List.mem_of_getElem? (i := 13) rfl)) (by decide) (rm4 l Z a0 hw [] n0 a382 wd (3 : Int32) (2 : Int32) x32 cs413 W 3 2 h413 zs413 eW rfl rfl bW (by decide) (by decide) lc413 A413 G_a382) pd_2 rfl rfl (by rw [hml]; rfl) (pc' := 600) rfl (hb hby at_597) (argsL := [(.ref a382), (.int wd), (.int (3 : Int32)), (.int (2 : Int32)), (.long x32)]) (rest := []) rfl (W := 0) (Nat.le_of_eq rfl) (by decide) (by decide) (by decide) (by decide) (fun v415 T415 h415 X415 hQ415 => ?_)
  obtain ⟨rfl, K415, cs415, A415, ec415, lc415⟩ := hQ415
  have f416 := f414.keep K415 (ninS ne382_a334 nin0)
  have zs415 : n0 ≤ h415.size := Nat.le_trans zs413 K415.1
  show Go p e below s n0 _ _ _ (T415.setTop (mkF m 600 #[.val (.long y0), .second, .val (.long y1), .second, .val (.long y2), .second, .val (.int y3), .val (.int order), .val (.int wd), .val (.int (4 : Int32)), .val (.int u1), .val (.int u2), .val (.int u6), .val (.int u0), .val (.int u5), .val (.int u10), .val (.int g), .val (.int g2), .val (.ref a334), .val (.long x00), .second, .val (.long x01), .second, .val (.long x02), .second, .val (.long x10), .second, .val (.long x11), .second, .val (.long x12), .second, .val (.long x20), .second, .val (.long x21), .second, .val (.long x22), .second, .val (.long x30), .second, .val (.long x31), .second, .val (.long x32), .second, .val (.ref a382)] []))
  refine g_aload X415 hx (pc' := 602) rfl (hb hby at_600) rfl rfl ?_
  refine g_iload X415 hx (pc' := 604) rfl (hb hby at_602) rfl ?_
  refine g_iload X415 hx (pc' := 606) rfl (hb hby at_604) rfl ?_
  refine g_aload X415 hx (pc' := 608) rfl (hb hby at_606) rfl rfl ?_
  refine g_iload X415 hx (pc' := 610) rfl (hb hby at_608) rfl ?_
  rw [ec415, ec413, ec411, ec409, ec406, ec403, ec400, ec397, ec394, ec391, ec388, ec385] at A415
  refine g_callS X415 hx hZ hown (hw _ (List.mem_of_getElem? (i := 14) rfl)) (hw _ (List.mem_of_getElem? (i := 15) rfl)) (hw _ (List.mem_of_getElem? (i := 16) rfl)) (hw _ (List.mem_of_getElem? (i := 17) rfl)) (by decide) (rm5 l Z a0 hw [] n0 a334 a382 order wd W u0 u1 u2 u5 u6 u10 (FP.i2d g) (FP.i2d (fV y0 (3 : Int32))) (FP.i2d g) (FP.i2d (fV y0 (4 : Int32))) (FP.i2d (fV y0 (5 : Int32))) (FP.i2d g) (FP.i2d g2) (FP.i2d g2) (FP.i2d g2) (FP.i2d g2) x00 x01 x02 x10 x11 x12 x20 x21 x22 x30 x31 x32 h415 zs415 ho hwd f416 A415 ne382_a334 G_a382 bu0 bu1 bu2 bu5 bu6 bu10 zu0 zu5 zu10 bx00 bx01 bx02 bx10 bx11 bx12 bx20 bx21 bx22 bx30 bx31 bx32) pd_3 rfl rfl (by rw [hml]; rfl) (pc' := 613) rfl (hb hby at_610) (argsL := [(.ref a334), (.int (4 : Int32)), (.int order), (.ref a382), (.int wd)]) (rest := []) rfl (W := 0) (Nat.le_of_eq rfl) (by decide) (by decide) (by decide) (by decide) (fun v417 T417 h417 X417 hQ417 => ?_)
  obtain ⟨rfl, K417, xs, A417, L417, k00, k01, k02, k10, k11, k12, k20, k21, k22, k30, k31, k32⟩ := hQ417
  have f418 := f416.keep K417 (ninS ne382_a334 nin0)
  have zs417 : n0 ≤ h417.size := Nat.le_trans zs415 K417.1
  show Go p e below s n0 _ _ _ (T417.setTop (mkF m 613 #[.val (.long y0), .second, .val (.long y1), .second, .val (.long y2), .second, .val (.int y3), .val (.int order), .val (.int wd), .val (.int (4 : Int32)), .val (.int u1), .val (.int u2), .val (.int u6), .val (.int u0), .val (.int u5), .val (.int u10), .val (.int g), .val (.int g2), .val (.ref a334), .val (.long x00), .second, .val (.long x01), .second, .val (.long x02), .second, .val (.long x10), .second, .val (.long x11), .second, .val (.long x12), .second, .val (.long x20), .second, .val (.long x21), .second, .val (.long x22), .second, .val (.long x30), .second, .val (.long x31), .second, .val (.long x32), .second, .val (.ref a382)] []))
  refine g_aload X417 hx (pc' := 615) rfl (hb hby at_613) rfl rfl ?_
  refine g_iload X417 hx (pc' := 617) rfl (hb hby at_615) rfl ?_
  refine g_iconst X417 hx (pc' := 618) (z := (0 : Int32)) rfl (hb hby at_617) rfl ?_
  refine g_iconst X417 hx (pc' := 619) (z := (0 : Int32)) rfl (hb hby at_618) rfl ?_
  refine g_lload X417 hx (pc' := 621) rfl (hb hby at_619) rfl ?_
  refine g_callS X417 hx hZ hown (hw _ (List.mem_of_getElem? (i := 18) rfl)) (hw _ (List.mem_of_getElem? (i := 19) rfl)) (hw _ (List.mem_of_getElem? (i := 2) rfl)) (hw _ (List.mem_of_getElem? (i := 20) rfl)) (by decide) (rm6 l Z a0 hw [] n0 a382 wd (0 : Int32) (0 : Int32) x00 xs W 0 0 h417 zs417 eW rfl rfl bW (by decide) (by decide) L417 A417 k00) pd_4 rfl rfl (by rw [hml]; rfl) (pc' := 624) rfl (hb hby at_621) (argsL := [(.ref a382), (.int wd), (.int (0 : Int32)), (.int (0 : Int32)), (.long x00)]) (rest := []) rfl (W := 0) (Nat.le_of_eq rfl) (by decide) (by decide) (by decide) (by decide) (fun v419 T419 h419 X419 hQ419 => ?_)
  obtain ⟨rfl, he419⟩ := hQ419
  rw [he419] at X419
  show Go p e below s n0 _ _ _ (T419.setTop (mkF m 624 #[.val (.long y0), .second, .val (.long y1), .second, .val (.long y2), .second, .val (.int y3), .val (.int order), .val (.int wd), .val (.int (4 : Int32)), .val (.int u1), .val (.int u2), .val (.int u6), .val (.int u0), .val (.int u5), .val (.int u10), .val (.int g), .val (.int g2), .val (.ref a334), .val (.long x00), .second, .val (.long x01), .second, .val (.long x02), .second, .val (.long x10), .second, .val (.long x11), .second, .val (.long x12), .second, .val (.long x20), .second, .val (.long x21), .second, .val (.long x22), .second, .val (.long x30), .second, .val (.long x31), .second, .val (.long x32), .second, .val (.ref a382)] [(.int (1 : Int32))]))
  refine g_ifN X419 hx (pcN := 627) (hb hby at_624) rfl (show ¬ ((1 : Int32) = 0) from by decide) ?_
  refine g_aload X419 hx (pc' := 629) rfl (hb hby at_627) rfl rfl ?_
  refine g_iload X419 hx (pc' := 631) rfl (hb hby at_629) rfl ?_
  refine g_iconst X419 hx (pc' := 632) (z := (0 : Int32)) rfl (hb hby at_631) rfl ?_
  refine g_iconst X419 hx (pc' := 633) (z := (1 : Int32)) rfl (hb hby at_632) rfl ?_
  refine g_lload X419 hx (pc' := 635) rfl (hb hby at_633) rfl ?_
  refine g_callS X419 hx hZ hown (hw _ (List.mem_of_getElem? (i := 18) rfl)) (hw _ (List.mem_of_getElem? (i := 19) rfl)) (hw _ (List.mem_of_getElem? (i := 2) rfl)) (hw _ (List.mem_of_getElem? (i := 20) rfl)) (by decide) (rm6 l Z a0 hw [] n0 a382 wd (0 : Int32) (1 : Int32) x01 xs W 0 1 h417 zs417 eW rfl rfl bW (by decide) (by decide) L417 A417 k01) pd_4 rfl rfl (by rw [hml]; rfl) (pc' := 638) rfl (hb hby at_635) (argsL := [(.ref a382), (.int wd), (.int (0 : Int32)), (.int (1 : Int32)), (.long x01)]) (rest := []) rfl (W := 0) (Nat.le_of_eq rfl) (by decide) (by decide) (by decide) (by decide) (fun v420 T420 h420 X420 hQ420 => ?_)
  obtain ⟨rfl, he420⟩ := hQ420
  rw [he420] at X420
  show Go p e below s n0 _ _ _ (T420.setTop (mkF m 638 #[.val (.long y0), .second, .val (.long y1), .second, .val (.long y2), .second, .val (.int y3), .val (.int order), .val (.int wd), .val (.int (4 : Int32)), .val (.int u1), .val (.int u2), .val (.int u6), .val (.int u0), .val (.int u5), .val (.int u10), .val (.int g), .val (.int g2), .val (.ref a334), .val (.long x00), .second, .val (.long x01), .second, .val (.long x02), .second, .val (.long x10), .second, .val (.long x11), .second, .val (.long x12), .second, .val (.long x20), .second, .val (.long x21), .second, .val (.long x22), .second, .val (.long x30), .second, .val (.long x31), .second, .val (.long x32), .second, .val (.ref a382)] [(.int (1 : Int32))]))
  refine g_ifN X420 hx (pcN := 641) (hb hby at_638) rfl (show ¬ ((1 : Int32) = 0) from by decide) ?_
  refine g_aload X420 hx (pc' := 643) rfl (hb hby at_641) rfl rfl ?_
  refine g_iload X420 hx (pc' := 645) rfl (hb hby at_643) rfl ?_
  refine g_iconst X420 hx (pc' := 646) (z := (0 : Int32)) rfl (hb hby at_645) rfl ?_
  refine g_iconst X420 hx (pc' := 647) (z := (2 : Int32)) rfl (hb hby at_646) rfl ?_
  refine g_lload X420 hx (pc' := 649) rfl (hb hby at_647) rfl ?_
  refine g_callS X420 hx hZ hown (hw _ (List.mem_of_getElem? (i := 18) rfl)) (hw _ (List.mem_of_getElem? (i := 19) rfl)) (hw _ (List.mem_of_getElem? (i := 2) rfl)) (hw _ (List.mem_of_getElem? (i := 20) rfl)) (by decide) (rm6 l Z a0 hw [] n0 a382 wd (0 : Int32) (2 : Int32) x02 xs W 0 2 h417 zs417 eW rfl rfl bW (by decide) (by decide) L417 A417 k02) pd_4 rfl rfl (by rw [hml]; rfl) (pc' := 652) rfl (hb hby at_649) (argsL := [(.ref a382), (.int wd), (.int (0 : Int32)), (.int (2 : Int32)), (.long x02)]) (rest := []) rfl (W := 0) (Nat.le_of_eq rfl) (by decide) (by decide) (by decide) (by decide) (fun v421 T421 h421 X421 hQ421 => ?_)
  obtain ⟨rfl, he421⟩ := hQ421
  rw [he421] at X421
  show Go p e below s n0 _ _ _ (T421.setTop (mkF m 652 #[.val (.long y0), .second, .val (.long y1), .second, .val (.long y2), .second, .val (.int y3), .val (.int order), .val (.int wd), .val (.int (4 : Int32)), .val (.int u1), .val (.int u2), .val (.int u6), .val (.int u0), .val (.int u5), .val (.int u10), .val (.int g), .val (.int g2), .val (.ref a334), .val (.long x00), .second, .val (.long x01), .second, .val (.long x02), .second, .val (.long x10), .second, .val (.long x11), .second, .val (.long x12), .second, .val (.long x20), .second, .val (.long x21), .second, .val (.long x22), .second, .val (.long x30), .second, .val (.long x31), .second, .val (.long x32), .second, .val (.ref a382)] [(.int (1 : Int32))]))
  refine g_ifN X421 hx (pcN := 655) (hb hby at_652) rfl (show ¬ ((1 : Int32) = 0) from by decide) ?_
  refine g_aload X421 hx (pc' := 657) rfl (hb hby at_655) rfl rfl ?_
  refine g_iload X421 hx (pc' := 659) rfl (hb hby at_657) rfl ?_
  refine g_iconst X421 hx (pc' := 660) (z := (1 : Int32)) rfl (hb hby at_659) rfl ?_
  refine g_iconst X421 hx (pc' := 661) (z := (0 : Int32)) rfl (hb hby at_660) rfl ?_
  refine g_lload X421 hx (pc' := 663) rfl (hb hby at_661) rfl ?_
  refine g_callS X421 hx hZ hown (hw _ (List.mem_of_getElem? (i := 18) rfl)) (hw _ (List.mem_of_getElem? (i := 19) rfl)) (hw _ (List.mem_of_getElem? (i := 2) rfl)) (hw _ (List.mem_of_getElem? (i := 20) rfl)) (by decide) (rm6 l Z a0 hw [] n0 a382 wd (1 : Int32) (0 : Int32) x10 xs W 1 0 h417 zs417 eW rfl rfl bW (by decide) (by decide) L417 A417 k10) pd_4 rfl rfl (by rw [hml]; rfl) (pc' := 666) rfl (hb hby at_663) (argsL := [(.ref a382), (.int wd), (.int (1 : Int32)), (.int (0 : Int32)), (.long x10)]) (rest := []) rfl (W := 0) (Nat.le_of_eq rfl) (by decide) (by decide) (by decide) (by decide) (fun v422 T422 h422 X422 hQ422 => ?_)
  obtain ⟨rfl, he422⟩ := hQ422
  rw [he422] at X422
  show Go p e below s n0 _ _ _ (T422.setTop (mkF m 666 #[.val (.long y0), .second, .val (.long y1), .second, .val (.long y2), .second, .val (.int y3), .val (.int order), .val (.int wd), .val (.int (4 : Int32)), .val (.int u1), .val (.int u2), .val (.int u6), .val (.int u0), .val (.int u5), .val (.int u10), .val (.int g), .val (.int g2), .val (.ref a334), .val (.long x00), .second, .val (.long x01), .second, .val (.long x02), .second, .val (.long x10), .second, .val (.long x11), .second, .val (.long x12), .second, .val (.long x20), .second, .val (.long x21), .second, .val (.long x22), .second, .val (.long x30), .second, .val (.long x31), .second, .val (.long x32), .second, .val (.ref a382)] [(.int (1 : Int32))]))
  refine g_ifN X422 hx (pcN := 669) (hb hby at_666) rfl (show ¬ ((1 : Int32) = 0) from by decide) ?_
  refine g_aload X422 hx (pc' := 671) rfl (hb hby at_669) rfl rfl ?_
  refine g_iload X422 hx (pc' := 673) rfl (hb hby at_671) rfl ?_
  refine g_iconst X422 hx (pc' := 674) (z := (1 : Int32)) rfl (hb hby at_673) rfl ?_
  refine g_iconst X422 hx (pc' := 675) (z := (1 : Int32)) rfl (hb hby at_674) rfl ?_
  refine g_lload X422 hx (pc' := 677) rfl (hb hby at_675) rfl ?_
  refine g_callS X422 hx hZ hown (hw _ (List.mem_of_getElem? (i := 18) rfl)) (hw _ (List.mem_of_getElem? (i := 19) rfl)) (hw _ (List.mem_of_getElem? (i := 2) rfl)) (hw _ (List.mem_of_getElem? (i := 20) rfl)) (by decide) (rm6 l Z a0 hw [] n0 a382 wd (1 : Int32) (1 : Int32) x11 xs W 1 1 h417 zs417 eW rfl rfl bW (by decide) (by decide) L417 A417 k11) pd_4 rfl rfl (by rw [hml]; rfl) (pc' := 680) rfl (hb hby at_677) (argsL := [(.ref a382), (.int wd), (.int (1 : Int32)), (.int (1 : Int32)), (.long x11)]) (rest := []) rfl (W := 0) (Nat.le_of_eq rfl) (by decide) (by decide) (by decide) (by decide) (fun v423 T423 h423 X423 hQ423 => ?_)
  obtain ⟨rfl, he423⟩ := hQ423
  rw [he423] at X423
  show Go p e below s n0 _ _ _ (T423.setTop (mkF m 680 #[.val (.long y0), .second, .val (.long y1), .second, .val (.long y2), .second, .val (.int y3), .val (.int order), .val (.int wd), .val (.int (4 : Int32)), .val (.int u1), .val (.int u2), .val (.int u6), .val (.int u0), .val (.int u5), .val (.int u10), .val (.int g), .val (.int g2), .val (.ref a334), .val (.long x00), .second, .val (.long x01), .second, .val (.long x02), .second, .val (.long x10), .second, .val (.long x11), .second, .val (.long x12), .second, .val (.long x20), .second, .val (.long x21), .second, .val (.long x22), .second, .val (.long x30), .second, .val (.long x31), .second, .val (.long x32), .second, .val (.ref a382)] [(.int (1 : Int32))]))
  refine g_ifN X423 hx (pcN := 683) (hb hby at_680) rfl (show ¬ ((1 : Int32) = 0) from by decide) ?_
  refine g_aload X423 hx (pc' := 685) rfl (hb hby at_683) rfl rfl ?_
  refine g_iload X423 hx (pc' := 687) rfl (hb hby at_685) rfl ?_
  refine g_iconst X423 hx (pc' := 688) (z := (1 : Int32)) rfl (hb hby at_687) rfl ?_
  refine g_iconst X423 hx (pc' := 689) (z := (2 : Int32)) rfl (hb hby at_688) rfl ?_
  refine g_lload X423 hx (pc' := 691) rfl (hb hby at_689) rfl ?_
  refine g_callS X423 hx hZ hown (hw _ (List.mem_of_getElem? (i := 18) rfl)) (hw _ (List.mem_of_getElem? (i := 19) rfl)) (hw _ (List.mem_of_getElem? (i := 2) rfl)) (hw _ (List.mem_of_getElem? (i := 20) rfl)) (by decide) (rm6 l Z a0 hw [] n0 a382 wd (1 : Int32) (2 : Int32) x12 xs W 1 2 h417 zs417 eW rfl rfl bW (by decide) (by decide) L417 A417 k12) pd_4 rfl rfl (by rw [hml]; rfl) (pc' := 694) rfl (hb hby at_691) (argsL := [(.ref a382), (.int wd), (.int (1 : Int32)), (.int (2 : Int32)), (.long x12)]) (rest := []) rfl (W := 0) (Nat.le_of_eq rfl) (by decide) (by decide) (by decide) (by decide) (fun v424 T424 h424 X424 hQ424 => ?_)
  obtain ⟨rfl, he424⟩ := hQ424
  rw [he424] at X424
  show Go p e below s n0 _ _ _ (T424.setTop (mkF m 694 #[.val (.long y0), .second, .val (.long y1), .second, .val (.long y2), .second, .val (.int y3), .val (.int order), .val (.int wd), .val (.int (4 : Int32)), .val (.int u1), .val (.int u2), .val (.int u6), .val (.int u0), .val (.int u5), .val (.int u10), .val (.int g), .val (.int g2), .val (.ref a334), .val (.long x00), .second, .val (.long x01), .second, .val (.long x02), .second, .val (.long x10), .second, .val (.long x11), .second, .val (.long x12), .second, .val (.long x20), .second, .val (.long x21), .second, .val (.long x22), .second, .val (.long x30), .second, .val (.long x31), .second, .val (.long x32), .second, .val (.ref a382)] [(.int (1 : Int32))]))
  refine g_ifN X424 hx (pcN := 697) (hb hby at_694) rfl (show ¬ ((1 : Int32) = 0) from by decide) ?_
  refine g_aload X424 hx (pc' := 699) rfl (hb hby at_697) rfl rfl ?_
  refine g_iload X424 hx (pc' := 701) rfl (hb hby at_699) rfl ?_
  refine g_iconst X424 hx (pc' := 702) (z := (2 : Int32)) rfl (hb hby at_701) rfl ?_
  refine g_iconst X424 hx (pc' := 703) (z := (0 : Int32)) rfl (hb hby at_702) rfl ?_
  refine g_lload X424 hx (pc' := 705) rfl (hb hby at_703) rfl ?_
  refine g_callS X424 hx hZ hown (hw _ (List.mem_of_getElem? (i := 18) rfl)) (hw _ (List.mem_of_getElem? (i := 19) rfl)) (hw _ (List.mem_of_getElem? (i := 2) rfl)) (hw _ (List.mem_of_getElem? (i := 20) rfl)) (by decide) (rm6 l Z a0 hw [] n0 a382 wd (2 : Int32) (0 : Int32) x20 xs W 2 0 h417 zs417 eW rfl rfl bW (by decide) (by decide) L417 A417 k20) pd_4 rfl rfl (by rw [hml]; rfl) (pc' := 708) rfl (hb hby at_705) (argsL := [(.ref a382), (.int wd), (.int (2 : Int32)), (.int (0 : Int32)), (.long x20)]) (rest := []) rfl (W := 0) (Nat.le_of_eq rfl) (by decide) (by decide) (by decide) (by decide) (fun v425 T425 h425 X425 hQ425 => ?_)
  obtain ⟨rfl, he425⟩ := hQ425
  rw [he425] at X425
  show Go p e below s n0 _ _ _ (T425.setTop (mkF m 708 #[.val (.long y0), .second, .val (.long y1), .second, .val (.long y2), .second, .val (.int y3), .val (.int order), .val (.int wd), .val (.int (4 : Int32)), .val (.int u1), .val (.int u2), .val (.int u6), .val (.int u0), .val (.int u5), .val (.int u10), .val (.int g), .val (.int g2), .val (.ref a334), .val (.long x00), .second, .val (.long x01), .second, .val (.long x02), .second, .val (.long x10), .second, .val (.long x11), .second, .val (.long x12), .second, .val (.long x20), .second, .val (.long x21), .second, .val (.long x22), .second, .val (.long x30), .second, .val (.long x31), .second, .val (.long x32), .second, .val (.ref a382)] [(.int (1 : Int32))]))
  refine g_ifN X425 hx (pcN := 711) (hb hby at_708) rfl (show ¬ ((1 : Int32) = 0) from by decide) ?_
  refine g_aload X425 hx (pc' := 713) rfl (hb hby at_711) rfl rfl ?_
  refine g_iload X425 hx (pc' := 715) rfl (hb hby at_713) rfl ?_
  refine g_iconst X425 hx (pc' := 716) (z := (2 : Int32)) rfl (hb hby at_715) rfl ?_
  refine g_iconst X425 hx (pc' := 717) (z := (1 : Int32)) rfl (hb hby at_716) rfl ?_
  refine g_lload X425 hx (pc' := 719) rfl (hb hby at_717) rfl ?_
  refine g_callS X425 hx hZ hown (hw _ (List.mem_of_getElem? (i := 18) rfl)) (hw _ (List.mem_of_getElem? (i := 19) rfl)) (hw _ (List.mem_of_getElem? (i := 2) rfl)) (hw _ (List.mem_of_getElem? (i := 20) rfl)) (by decide) (rm6 l Z a0 hw [] n0 a382 wd (2 : Int32) (1 : Int32) x21 xs W 2 1 h417 zs417 eW rfl rfl bW (by decide) (by decide) L417 A417 k21) pd_4 rfl rfl (by rw [hml]; rfl) (pc' := 722) rfl (hb hby at_719) (argsL := [(.ref a382), (.int wd), (.int (2 : Int32)), (.int (1 : Int32)), (.long x21)]) (rest := []) rfl (W := 0) (Nat.le_of_eq rfl) (by decide) (by decide) (by decide) (by decide) (fun v426 T426 h426 X426 hQ426 => ?_)
  obtain ⟨rfl, he426⟩ := hQ426
  rw [he426] at X426
  show Go p e below s n0 _ _ _ (T426.setTop (mkF m 722 #[.val (.long y0), .second, .val (.long y1), .second, .val (.long y2), .second, .val (.int y3), .val (.int order), .val (.int wd), .val (.int (4 : Int32)), .val (.int u1), .val (.int u2), .val (.int u6), .val (.int u0), .val (.int u5), .val (.int u10), .val (.int g), .val (.int g2), .val (.ref a334), .val (.long x00), .second, .val (.long x01), .second, .val (.long x02), .second, .val (.long x10), .second, .val (.long x11), .second, .val (.long x12), .second, .val (.long x20), .second, .val (.long x21), .second, .val (.long x22), .second, .val (.long x30), .second, .val (.long x31), .second, .val (.long x32), .second, .val (.ref a382)] [(.int (1 : Int32))]))
  refine g_ifN X426 hx (pcN := 725) (hb hby at_722) rfl (show ¬ ((1 : Int32) = 0) from by decide) ?_
  refine g_aload X426 hx (pc' := 727) rfl (hb hby at_725) rfl rfl ?_
  refine g_iload X426 hx (pc' := 729) rfl (hb hby at_727) rfl ?_
  refine g_iconst X426 hx (pc' := 730) (z := (2 : Int32)) rfl (hb hby at_729) rfl ?_
  refine g_iconst X426 hx (pc' := 731) (z := (2 : Int32)) rfl (hb hby at_730) rfl ?_
  refine g_lload X426 hx (pc' := 733) rfl (hb hby at_731) rfl ?_
  refine g_callS X426 hx hZ hown (hw _ (List.mem_of_getElem? (i := 18) rfl)) (hw _ (List.mem_of_getElem? (i := 19) rfl)) (hw _ (List.mem_of_getElem? (i := 2) rfl)) (hw _ (List.mem_of_getElem? (i := 20) rfl)) (by decide) (rm6 l Z a0 hw [] n0 a382 wd (2 : Int32) (2 : Int32) x22 xs W 2 2 h417 zs417 eW rfl rfl bW (by decide) (by decide) L417 A417 k22) pd_4 rfl rfl (by rw [hml]; rfl) (pc' := 736) rfl (hb hby at_733) (argsL := [(.ref a382), (.int wd), (.int (2 : Int32)), (.int (2 : Int32)), (.long x22)]) (rest := []) rfl (W := 0) (Nat.le_of_eq rfl) (by decide) (by decide) (by decide) (by decide) (fun v427 T427 h427 X427 hQ427 => ?_)
  obtain ⟨rfl, he427⟩ := hQ427
  rw [he427] at X427
  show Go p e below s n0 _ _ _ (T427.setTop (mkF m 736 #[.val (.long y0), .second, .val (.long y1), .second, .val (.long y2), .second, .val (.int y3), .val (.int order), .val (.int wd), .val (.int (4 : Int32)), .val (.int u1), .val (.int u2), .val (.int u6), .val (.int u0), .val (.int u5), .val (.int u10), .val (.int g), .val (.int g2), .val (.ref a334), .val (.long x00), .second, .val (.long x01), .second, .val (.long x02), .second, .val (.long x10), .second, .val (.long x11), .second, .val (.long x12), .second, .val (.long x20), .second, .val (.long x21), .second, .val (.long x22), .second, .val (.long x30), .second, .val (.long x31), .second, .val (.long x32), .second, .val (.ref a382)] [(.int (1 : Int32))]))
  refine g_ifN X427 hx (pcN := 739) (hb hby at_736) rfl (show ¬ ((1 : Int32) = 0) from by decide) ?_
  refine g_aload X427 hx (pc' := 741) rfl (hb hby at_739) rfl rfl ?_
  refine g_iload X427 hx (pc' := 743) rfl (hb hby at_741) rfl ?_
  refine g_iconst X427 hx (pc' := 744) (z := (3 : Int32)) rfl (hb hby at_743) rfl ?_
  refine g_iconst X427 hx (pc' := 745) (z := (0 : Int32)) rfl (hb hby at_744) rfl ?_
  refine g_lload X427 hx (pc' := 747) rfl (hb hby at_745) rfl ?_
  refine g_callS X427 hx hZ hown (hw _ (List.mem_of_getElem? (i := 18) rfl)) (hw _ (List.mem_of_getElem? (i := 19) rfl)) (hw _ (List.mem_of_getElem? (i := 2) rfl)) (hw _ (List.mem_of_getElem? (i := 20) rfl)) (by decide) (rm6 l Z a0 hw [] n0 a382 wd (3 : Int32) (0 : Int32) x30 xs W 3 0 h417 zs417 eW rfl rfl bW (by decide) (by decide) L417 A417 k30) pd_4 rfl rfl (by rw [hml]; rfl) (pc' := 750) rfl (hb hby at_747) (argsL := [(.ref a382), (.int wd), (.int (3 : Int32)), (.int (0 : Int32)), (.long x30)]) (rest := []) rfl (W := 0) (Nat.le_of_eq rfl) (by decide) (by decide) (by decide) (by decide) (fun v428 T428 h428 X428 hQ428 => ?_)
  obtain ⟨rfl, he428⟩ := hQ428
  rw [he428] at X428
  show Go p e below s n0 _ _ _ (T428.setTop (mkF m 750 #[.val (.long y0), .second, .val (.long y1), .second, .val (.long y2), .second, .val (.int y3), .val (.int order), .val (.int wd), .val (.int (4 : Int32)), .val (.int u1), .val (.int u2), .val (.int u6), .val (.int u0), .val (.int u5), .val (.int u10), .val (.int g), .val (.int g2), .val (.ref a334), .val (.long x00), .second, .val (.long x01), .second, .val (.long x02), .second, .val (.long x10), .second, .val (.long x11), .second, .val (.long x12), .second, .val (.long x20), .second, .val (.long x21), .second, .val (.long x22), .second, .val (.long x30), .second, .val (.long x31), .second, .val (.long x32), .second, .val (.ref a382)] [(.int (1 : Int32))]))
  refine g_ifN X428 hx (pcN := 753) (hb hby at_750) rfl (show ¬ ((1 : Int32) = 0) from by decide) ?_
  refine g_aload X428 hx (pc' := 755) rfl (hb hby at_753) rfl rfl ?_
  refine g_iload X428 hx (pc' := 757) rfl (hb hby at_755) rfl ?_
  refine g_iconst X428 hx (pc' := 758) (z := (3 : Int32)) rfl (hb hby at_757) rfl ?_
  refine g_iconst X428 hx (pc' := 759) (z := (1 : Int32)) rfl (hb hby at_758) rfl ?_
  refine g_lload X428 hx (pc' := 761) rfl (hb hby at_759) rfl ?_
  refine g_callS X428 hx hZ hown (hw _ (List.mem_of_getElem? (i := 18) rfl)) (hw _ (List.mem_of_getElem? (i := 19) rfl)) (hw _ (List.mem_of_getElem? (i := 2) rfl)) (hw _ (List.mem_of_getElem? (i := 20) rfl)) (by decide) (rm6 l Z a0 hw [] n0 a382 wd (3 : Int32) (1 : Int32) x31 xs W 3 1 h417 zs417 eW rfl rfl bW (by decide) (by decide) L417 A417 k31) pd_4 rfl rfl (by rw [hml]; rfl) (pc' := 764) rfl (hb hby at_761) (argsL := [(.ref a382), (.int wd), (.int (3 : Int32)), (.int (1 : Int32)), (.long x31)]) (rest := []) rfl (W := 0) (Nat.le_of_eq rfl) (by decide) (by decide) (by decide) (by decide) (fun v429 T429 h429 X429 hQ429 => ?_)
  obtain ⟨rfl, he429⟩ := hQ429
  rw [he429] at X429
  show Go p e below s n0 _ _ _ (T429.setTop (mkF m 764 #[.val (.long y0), .second, .val (.long y1), .second, .val (.long y2), .second, .val (.int y3), .val (.int order), .val (.int wd), .val (.int (4 : Int32)), .val (.int u1), .val (.int u2), .val (.int u6), .val (.int u0), .val (.int u5), .val (.int u10), .val (.int g), .val (.int g2), .val (.ref a334), .val (.long x00), .second, .val (.long x01), .second, .val (.long x02), .second, .val (.long x10), .second, .val (.long x11), .second, .val (.long x12), .second, .val (.long x20), .second, .val (.long x21), .second, .val (.long x22), .second, .val (.long x30), .second, .val (.long x31), .second, .val (.long x32), .second, .val (.ref a382)] [(.int (1 : Int32))]))
  refine g_ifN X429 hx (pcN := 767) (hb hby at_764) rfl (show ¬ ((1 : Int32) = 0) from by decide) ?_
  refine g_aload X429 hx (pc' := 769) rfl (hb hby at_767) rfl rfl ?_
  refine g_iload X429 hx (pc' := 771) rfl (hb hby at_769) rfl ?_
  refine g_iconst X429 hx (pc' := 772) (z := (3 : Int32)) rfl (hb hby at_771) rfl ?_
  refine g_iconst X429 hx (pc' := 773) (z := (2 : Int32)) rfl (hb hby at_772) rfl ?_
  refine g_lload X429 hx (pc' := 775) rfl (hb hby at_773) rfl ?_
  refine g_callS X429 hx hZ hown (hw _ (List.mem_of_getElem? (i := 18) rfl)) (hw _ (List.mem_of_getElem? (i := 19) rfl)) (hw _ (List.mem_of_getElem? (i := 2) rfl)) (hw _ (List.mem_of_getElem? (i := 20) rfl)) (by decide) (rm6 l Z a0 hw [] n0 a382 wd (3 : Int32) (2 : Int32) x32 xs W 3 2 h417 zs417 eW rfl rfl bW (by decide) (by decide) L417 A417 k32) pd_4 rfl rfl (by rw [hml]; rfl) (pc' := 778) rfl (hb hby at_775) (argsL := [(.ref a382), (.int wd), (.int (3 : Int32)), (.int (2 : Int32)), (.long x32)]) (rest := []) rfl (W := 0) (Nat.le_of_eq rfl) (by decide) (by decide) (by decide) (by decide) (fun v430 T430 h430 X430 hQ430 => ?_)
  obtain ⟨rfl, he430⟩ := hQ430
  rw [he430] at X430
  show Go p e below s n0 _ _ _ (T430.setTop (mkF m 778 #[.val (.long y0), .second, .val (.long y1), .second, .val (.long y2), .second, .val (.int y3), .val (.int order), .val (.int wd), .val (.int (4 : Int32)), .val (.int u1), .val (.int u2), .val (.int u6), .val (.int u0), .val (.int u5), .val (.int u10), .val (.int g), .val (.int g2), .val (.ref a334), .val (.long x00), .second, .val (.long x01), .second, .val (.long x02), .second, .val (.long x10), .second, .val (.long x11), .second, .val (.long x12), .second, .val (.long x20), .second, .val (.long x21), .second, .val (.long x22), .second, .val (.long x30), .second, .val (.long x31), .second, .val (.long x32), .second, .val (.ref a382)] [(.int (1 : Int32))]))
  refine g_ifN X430 hx (pcN := 781) (hb hby at_778) rfl (show ¬ ((1 : Int32) = 0) from by decide) ?_
  refine g_iconst X430 hx (pc' := 782) (z := (1 : Int32)) rfl (hb hby at_781) rfl ?_
  refine g_goto X430 hx (pc' := 786) (hb hby at_782) (by decide) (by decide) ?_
  exact g_retZ X430 hx hlk hret (Or.inr rfl) (hb hby at_786) (by decide) (by decide) (rfl)
set_option maxRecDepth 65536 in
set_option maxHeartbeats 40000000 in
theorem comes_1 {Post : Tables → Env → Array Value → State → Outcome → State → Prop} (hpost : ∀ tb e args s v u, (limb_1_1.after args s (.returned v) u = true ∧ limb_1_2.after args s (.returned v) u = true ∧ True) → FrameEnd s (.returned v) u (Jvm.fieldLocs frame_1_writes args s ++ Jvm.arrayLocs frame_1_arrays args s ++ Jvm.staticLocs frame_1_statics s) 16 128 → Post tb e args s (.returned v) u) :
    ArmFor flags0 classFile x code maxLocals ret World_1 tables_1 room_1 Calls_1 rest_1 Pre_1 Post := by
  intro l hfl _ _ p e ha hc hk s m args below hf hA hF happ hP
  obtain ⟨hcalls, hrest, hpre⟩ := hP
  obtain ⟨-, -, -, hnamed, -, -, -, hat⟩ := (Spec.applies_iff hf).mp happ
  obtain ⟨hg, hn⟩ := and_e (Cond.before_iff.mp (show (Jvm.Cond.and given_1 narrow_1).before args s = true from hpre))
  obtain ⟨hcount, hg0⟩ := and_e hg
  obtain ⟨ha0, hg1⟩ := and_e hg0
  obtain ⟨ha1, hg2⟩ := and_e hg1
  obtain ⟨ha2, hg3⟩ := and_e hg2
  have ha3 := hg3
  obtain ⟨w0, w1, w2, w3, rfl⟩ : ∃ w0 w1 w2 w3 : Value, args = #[w0, w1, w2, w3] := by
    have hs : args.size = 4 := by simpa [Cond.value, given_1] using hcount
    obtain ⟨L⟩ := args
    match L, hs with
    | [w0, w1, w2, w3], _ => exact ⟨w0, w1, w2, w3, rfl⟩
  have hw := fun d (hd : d ∈ tables_1) => atoms_spec (ws := Jvm.Cond.code x code maxLocals ret :: tables_1) hat d (List.mem_cons_of_mem _ hd)
  obtain ⟨i0, ei0⟩ := isL_v ha0
  obtain rfl : w0 = (.long i0) := Option.some.inj ei0
  obtain ⟨i1, ei1⟩ := isL_v ha1
  obtain rfl : w1 = (.long i1) := Option.some.inj ei1
  obtain ⟨i2, ei2⟩ := isL_v ha2
  obtain rfl : w2 = (.long i2) := Option.some.inj ei2
  obtain ⟨i3, ei3⟩ := is_v ha3
  obtain rfl : w3 = (.int i3) := Option.some.inj ei3
  obtain ⟨n, o, h1, h2, h3, _, L, rfl, ⟨N, rfl⟩, hq⟩ := rm0 l s _ hw tables_1 s.heap.size i0 i1 i2 i3 s.heap (Nat.le_refl _)  p e ha hc hk s m _ below hf ((Spec.applies_iff_loose hf).mp happ).1 ⟨rfl, State.Warmed39.refl s, rfl⟩ trivial
  refine ⟨n, _, h1, h2, h3, hpost _ _ _ _ _ _ ⟨Cond.after_iff.mpr rfl, Cond.after_iff.mpr (eq_i res_at (Term.int_eval (1)) rfl), trivial⟩ ⟨hq.1, hq.2.1, (hq.2.2.sift fun y hy => Or.inr (N y hy)).mono (by decide) (by decide)⟩⟩
theorem main_1_1 : Claimed_1_1 := comes_1 fun _ _ _ _ _ _ h hF => ⟨h.1, hF⟩
theorem main_1_2 : Claimed_1_2 := comes_1 fun _ _ _ _ _ _ h hF => ⟨h.2.1, hF⟩
end Jvm.Pilot.@@N@@
-- WITNESS
namespace Jvm.Pilot.@@N@@
open Jvm Jvm.ClassFile Sem Op Lib Jvm.Free Jvm.Stand Jvm.Pilot.@@N@@.Jvm.D
/-! MADE BY PROGRAM (witnessworld.py) out of the Statement's table words and the real class files: 11 classes; the members and pool entries that the words name. The judged class is class 1, her method 6. -/
namespace start1
open Jvm.ClassFile
def u (s : String) : CpInfo := .utf8 (stringToUtf16 s)
/-- a pool by its gaps: so many unusable entries, then the entry; so many at the end -/
def gap : Nat → List CpInfo → List CpInfo
  | 0, r => r
  | n + 1, r => .unusable :: gap n r
def poolList (es : List (Nat × CpInfo)) (last : Nat) : List CpInfo := es.foldr (fun e r => gap e.1 (e.2 :: r)) (gap last [])
def pool (es : List (Nat × CpInfo)) (last : Nat) : Array CpInfo := ⟨poolList es last⟩
def fileOf (pool : Array CpInfo) (this : Nat) (attrs : Array Attribute := #[]) (ms : Array MethodInfo := #[]) (fl : Nat := 33) (sup : Nat := 0) (ifs : Array Nat := #[]) (fds : Array FieldInfo := #[]) : ClassFile where
  minorVersion := 0
  majorVersion := 65
  constantPool := pool
  accessFlags := fl
  thisClass := this
  superClass := sup
  interfaces := ifs
  fields := fds
  methods := ms
  attributes := attrs
def plain (name : String) (sup : Option ClassId) : Class where
  name := name
  kind := .ordinary
  loader := none
  accessFlags := 33
  super := sup
  interfaces := #[]
  cf := none
  fields := #[]
  methods := #[]
  instanceTypes := #[]
  staticTypes := #[]
  resolved := #[]
  callSites := []
  init := .initialized
  statics := none
  mirror := none

def pool0 : Array CpInfo := pool [(5, u "<init>"), (0, u "()V"), (1, .class_ 10), (1, u "java/lang/Object")] 113

def k0m0 : Method := { name := "<init>", desc := "()V", sig := { parameters := [], returnType := none }, accessFlags := 1, code := none }
/-- java/lang/Object -/
def k0 : Class := { plain "java/lang/Object" none with
  accessFlags := 33
  interfaces := #[]
  cf := some (fileOf pool0 8 #[] #[{ accessFlags := 1, nameIndex := 5, descriptorIndex := 6, attributes := #[] }] 33 0 #[] #[])
  fields := #[]
  methods := #[k0m0]
  instanceTypes := #[]
  staticTypes := #[]
  resolved := Array.replicate 124 none
  statics := none }

def pool1 : Array CpInfo := pool [(2, .class_ 4), (1, u "java/lang/Object"), (0, u "<init>"), (0, u "()V"), (0, .methodref 8 9), (0, .class_ 10), (0, .nameAndType 11 12), (0, u "com/example/orthogon/orthogon/TriangularSolveUpperPinLaw"), (0, u "f"), (0, u "(JI)I"), (0, .methodref 8 14), (0, .nameAndType 15 12), (0, u "diag"), (0, .methodref 8 17), (0, .nameAndType 18 19), (0, u "rhs"), (0, u "(IIJJJJJJ)J"), (0, .methodref 8 21), (0, .nameAndType 22 23), (0, u "put"), (0, u "([DIIIJ)V"), (0, .methodref 25 26), (0, .class_ 27), (0, .nameAndType 28 29), (0, u "com/example/orthogon/orthogon/Triangular"), (0, u "solveUpper"), (0, u "([DII[DI)V"), (0, .methodref 8 31), (0, .nameAndType 32 33), (0, u "is"), (0, u "([DIIIJ)Z"), (3, u "law"), (0, u "(JJJI)Z")] 4

def k1m0 : Method := { name := "<init>", desc := "()V", sig := { parameters := [], returnType := none }, accessFlags := 1, code := none }
def k1c1 : Code := { maxStack := 4, maxLocals := 3, code := method_2_code, exceptionTable := #[], attributes := #[] }
def k1m1 : Method := { name := "f", desc := "(JI)I", sig := { parameters := [.long, .int], returnType := some .int }, accessFlags := 10, code := some k1c1 }
def k1c2 : Code := { maxStack := 5, maxLocals := 5, code := method_3_code, exceptionTable := #[], attributes := #[] }
def k1m2 : Method := { name := "diag", desc := "(JI)I", sig := { parameters := [.long, .int], returnType := some .int }, accessFlags := 10, code := some k1c2 }
def k1c3 : Code := { maxStack := 6, maxLocals := 16, code := method_4_code, exceptionTable := #[], attributes := #[] }
def k1m3 : Method := { name := "rhs", desc := "(IIJJJJJJ)J", sig := { parameters := [.int, .int, .long, .long, .long, .long, .long, .long], returnType := some .long }, accessFlags := 10, code := some k1c3 }
def k1c4 : Code := { maxStack := 4, maxLocals := 6, code := method_5_code, exceptionTable := #[], attributes := #[] }
def k1m4 : Method := { name := "put", desc := "([DIIIJ)V", sig := { parameters := [(.array .double), .int, .int, .int, .long], returnType := none }, accessFlags := 10, code := some k1c4 }
def k1c5 : Code := { maxStack := 4, maxLocals := 6, code := method_6_code, exceptionTable := #[], attributes := #[] }
def k1m5 : Method := { name := "is", desc := "([DIIIJ)Z", sig := { parameters := [(.array .double), .int, .int, .int, .long], returnType := some .boolean }, accessFlags := 10, code := some k1c5 }
def k1c6 : Code := { maxStack := 18, maxLocals := 44, code := code, exceptionTable := #[], attributes := #[] }
def k1m6 : Method := { name := "law", desc := "(JJJI)Z", sig := { parameters := [.long, .long, .long, .int], returnType := some .boolean }, accessFlags := 9, code := some k1c6 }
/-- com/example/orthogon/orthogon/TriangularSolveUpperPinLaw -/
def k1 : Class := { plain "com/example/orthogon/orthogon/TriangularSolveUpperPinLaw" (some 0) with
  accessFlags := 49
  interfaces := #[]
  cf := some (fileOf pool1 8 #[] #[{ accessFlags := 1, nameIndex := 5, descriptorIndex := 6, attributes := #[] }, { accessFlags := 10, nameIndex := 11, descriptorIndex := 12, attributes := #[] }, { accessFlags := 10, nameIndex := 15, descriptorIndex := 12, attributes := #[] }, { accessFlags := 10, nameIndex := 18, descriptorIndex := 19, attributes := #[] }, { accessFlags := 10, nameIndex := 22, descriptorIndex := 23, attributes := #[] }, { accessFlags := 10, nameIndex := 32, descriptorIndex := 33, attributes := #[] }, { accessFlags := 9, nameIndex := 37, descriptorIndex := 38, attributes := #[] }] 49 2 #[] #[])
  fields := #[]
  methods := #[k1m0, k1m1, k1m2, k1m3, k1m4, k1m5, k1m6]
  instanceTypes := #[]
  staticTypes := #[]
  resolved := Array.replicate 43 none
  statics := none }

def pool2 : Array CpInfo := pool [(2, .class_ 4), (1, u "java/lang/Object"), (0, u "<init>"), (0, u "()V"), (0, .class_ 8), (0, u "com/example/orthogon/orthogon/Triangular"), (3, u "([DII[DI)V"), (1, u "solveUpper")] 3

def k2m0 : Method := { name := "<init>", desc := "()V", sig := { parameters := [], returnType := none }, accessFlags := 2, code := none }
def k2c1 : Code := { maxStack := 9, maxLocals := 12, code := prog_16_method_3_code, exceptionTable := #[], attributes := #[] }
def k2m1 : Method := { name := "solveUpper", desc := "([DII[DI)V", sig := { parameters := [(.array .double), .int, .int, (.array .double), .int], returnType := none }, accessFlags := 8, code := some k2c1 }
/-- com/example/orthogon/orthogon/Triangular -/
def k2 : Class := { plain "com/example/orthogon/orthogon/Triangular" (some 0) with
  accessFlags := 48
  interfaces := #[]
  cf := some (fileOf pool2 7 #[] #[{ accessFlags := 2, nameIndex := 5, descriptorIndex := 6, attributes := #[] }, { accessFlags := 8, nameIndex := 14, descriptorIndex := 12, attributes := #[] }] 48 2 #[] #[])
  fields := #[]
  methods := #[k2m0, k2m1]
  instanceTypes := #[]
  staticTypes := #[]
  resolved := Array.replicate 18 none
  statics := none }

def pool3 : Array CpInfo := pool [(1, u "java/lang/Cloneable"), (0, .class_ 1), (0, u "java/lang/Object"), (0, .class_ 3)] 3

/-- java/lang/Cloneable -/
def k3 : Class := { plain "java/lang/Cloneable" (some 0) with
  accessFlags := 1537
  interfaces := #[]
  cf := some (fileOf pool3 2 #[] #[] 1537 4 #[] #[])
  fields := #[]
  methods := #[]
  instanceTypes := #[]
  staticTypes := #[]
  resolved := Array.replicate 8 none
  statics := none }

def pool4 : Array CpInfo := pool [(1, u "java/io/Serializable"), (0, .class_ 1), (0, u "java/lang/Object"), (0, .class_ 3)] 3

/-- java/io/Serializable -/
def k4 : Class := { plain "java/io/Serializable" (some 0) with
  accessFlags := 1537
  interfaces := #[]
  cf := some (fileOf pool4 2 #[] #[] 1537 4 #[] #[])
  fields := #[]
  methods := #[]
  instanceTypes := #[]
  staticTypes := #[]
  resolved := Array.replicate 8 none
  statics := none }

/-- the primitive byte -/
def k5 : Class := { plain "byte" none with kind := .primitive 'B', accessFlags := 0x411 }
/-- [B -/
def k6 : Class := { plain "[B" (some 0) with kind := .array 5 .byte, interfaces := #[3, 4], accessFlags := 1041 }

/-- the primitive int -/
def k7 : Class := { plain "int" none with kind := .primitive 'I', accessFlags := 0x411 }
/-- [I -/
def k8 : Class := { plain "[I" (some 0) with kind := .array 7 .int, interfaces := #[3, 4], accessFlags := 1041 }

/-- the primitive short -/
def k9 : Class := { plain "double" none with kind := .primitive 'D', accessFlags := 0x411 }
/-- [S -/
def k10 : Class := { plain "[D" (some 0) with kind := .array 9 .double, interfaces := #[3, 4], accessFlags := 1041 }

def heap : Heap := #[]
def classes : Array Class := #[k0, k1, k2, k3, k4, k5, k6, k7, k8, k9, k10]
def interned : List (Array UInt16 × Addr) := []
def slotsUsed : Nat := 0
def theMethod : MethodId := ⟨1, 6⟩
def args0 : Array Value := #[.long 5, .long 3, .long 7, .int 2]
def aboutOver (below : List Frame) : State where
  vm := { classes := classes, interned := interned.toArray }
  heap := heap
  slotsUsed := slotsUsed
  threads := #[{ frames := .invoking theMethod args0 :: below }]
def below0 : List Frame := [.native { method := ⟨0, 0⟩, args := #[] }]
def about1 : State := aboutOver below0
def p0 : Program := .bare "" "" ""
def e0 : Env := launch0.env 0 0 0
theorem w_frames : about1.frames = Frame.invoking theMethod args0 :: below0 := rfl
set_option maxRecDepth 65536 in
theorem w_args : argsFit about1.vm theMethod args0 = true := by decide +kernel
set_option maxRecDepth 65536 in
theorem w_heap : heapFits about1 = true := by decide +kernel
set_option maxRecDepth 65536 in
theorem w_runnable : about1.curStatus? = some .runnable := by decide +kernel
set_option maxRecDepth 65536 in
theorem w_alone : about1.alone = true := by decide +kernel
set_option maxRecDepth 65536 in
theorem w_named : about1.methodNamed? x = some theMethod := by decide +kernel
set_option maxRecDepth 65536 in
theorem w_hears : about1.hears theMethod below0 = true := by decide +kernel
set_option maxRecDepth 65536 in
theorem w_ripe : about1.ripe theMethod args0 below0 = true := by decide +kernel
theorem w_running : about1.status = .running := rfl
set_option maxRecDepth 65536 in
theorem w_room : about1.hasRoom e0.platform room_1 = true :=
  launch0.hasRoom_least _ room_1 (by decide +kernel) (by decide +kernel) (by decide +kernel) (by decide +kernel) (by decide +kernel) (by decide +kernel)
theorem allAtoms_all (ts : List Jvm.Cond) (a : Array Jvm.Value) (st : Jvm.State) : (allAtoms ts).before a st = ts.all (fun c => c.before a st) := by
  induction ts with
  | nil => rfl
  | cons c t ih =>
    show (Jvm.Cond.and c (allAtoms t)).before a st = _
    rw [Jvm.Cond.before_and, ih, List.all_cons]
def words1 : List Jvm.Cond := Jvm.Cond.code x code maxLocals ret :: tables_1
/-- a 'code' word, met by the world's own term for the bytes: nothing is compared byte by byte -/
theorem code_word {y : MethodName} {bytes : ByteArray} {mx : Nat} {rt : Option FieldType} {a : Array Value} {s : State} {m : MethodId} {meth : Method} {c : Code} (h1 : s.methodNamed? y = some m) (h2 : s.vm.method? m = some meth) (h3 : meth.code = some c) (h4 : c.code = bytes)
    (h5 : (c.maxLocals == mx && c.exceptionTable.isEmpty && decide (c.maxStack ≤ mostOperands) && decide (meth.sig.returnType = rt) && !meth.locks && decide (parseMethodDescriptor y.desc = some meth.sig)) = true) : (Jvm.Cond.code y bytes mx rt).before a s = true := by
  simp only [Bool.and_eq_true, beq_iff_eq, Bool.not_eq_true', decide_eq_true_eq] at h5
  obtain ⟨⟨⟨⟨⟨g1, g2⟩, g3⟩, g4⟩, g5⟩, g6⟩ := h5
  simp [Cond.before, Cond.holds, Cond.value, h1, h2, h3, h4, g1, g2, g3, g4, g5, g6]
def isCode : Jvm.Cond → Bool
  | .code _ _ _ _ => true
  | _ => false
theorem all_split {L : List Jvm.Cond} {P : Jvm.Cond → Bool} (h1 : L.all (fun c => isCode c || P c) = true) (h2 : ∀ c ∈ L.filter isCode, P c = true) : L.all P = true := by
  refine List.all_eq_true.mpr fun c hc => ?_
  have h := List.all_eq_true.mp h1 c hc
  rcases Bool.eq_false_or_eq_true (isCode c) with hi | hi
  · exact h2 c (List.mem_filter.mpr ⟨hc, hi⟩)
  · simpa [hi] using h
set_option maxRecDepth 65536 in
theorem w_c0 : (Jvm.Cond.code x code maxLocals ret).before args0 about1 = true := code_word (m := ⟨1, 6⟩) (meth := k1m6) (c := k1c6) (by decide +kernel) rfl rfl rfl (by decide +kernel)
set_option maxRecDepth 65536 in
theorem w_c1 : (Jvm.Cond.code ({ cls := "com/example/orthogon/orthogon/TriangularSolveUpperPinLaw", name := "f", desc := "(JI)I" } : Jvm.MethodName) method_2_code (3 : Nat) (Option.some Jvm.ClassFile.FieldType.int)).before args0 about1 = true := code_word (m := ⟨1, 1⟩) (meth := k1m1) (c := k1c1) (by decide +kernel) rfl rfl rfl (by decide +kernel)
set_option maxRecDepth 65536 in
theorem w_c2 : (Jvm.Cond.code ({ cls := "com/example/orthogon/orthogon/TriangularSolveUpperPinLaw", name := "diag", desc := "(JI)I" } : Jvm.MethodName) method_3_code (5 : Nat) (Option.some Jvm.ClassFile.FieldType.int)).before args0 about1 = true := code_word (m := ⟨1, 2⟩) (meth := k1m2) (c := k1c2) (by decide +kernel) rfl rfl rfl (by decide +kernel)
set_option maxRecDepth 65536 in
theorem w_c3 : (Jvm.Cond.code ({ cls := "com/example/orthogon/orthogon/TriangularSolveUpperPinLaw", name := "rhs", desc := "(IIJJJJJJ)J" } : Jvm.MethodName) method_4_code (16 : Nat) (Option.some Jvm.ClassFile.FieldType.long)).before args0 about1 = true := code_word (m := ⟨1, 3⟩) (meth := k1m3) (c := k1c3) (by decide +kernel) rfl rfl rfl (by decide +kernel)
set_option maxRecDepth 65536 in
theorem w_c4 : (Jvm.Cond.code ({ cls := "com/example/orthogon/orthogon/TriangularSolveUpperPinLaw", name := "put", desc := "([DIIIJ)V" } : Jvm.MethodName) method_5_code (6 : Nat) (Option.none : Option Jvm.ClassFile.FieldType)).before args0 about1 = true := code_word (m := ⟨1, 4⟩) (meth := k1m4) (c := k1c4) (by decide +kernel) rfl rfl rfl (by decide +kernel)
set_option maxRecDepth 65536 in
theorem w_c5 : (Jvm.Cond.code ({ cls := "com/example/orthogon/orthogon/Triangular", name := "solveUpper", desc := "([DII[DI)V" } : Jvm.MethodName) prog_16_method_3_code (12 : Nat) (Option.none : Option Jvm.ClassFile.FieldType)).before args0 about1 = true := code_word (m := ⟨2, 1⟩) (meth := k2m1) (c := k2c1) (by decide +kernel) rfl rfl rfl (by decide +kernel)
set_option maxRecDepth 65536 in
theorem w_c6 : (Jvm.Cond.code ({ cls := "com/example/orthogon/orthogon/TriangularSolveUpperPinLaw", name := "is", desc := "([DIIIJ)Z" } : Jvm.MethodName) method_6_code (6 : Nat) (Option.some Jvm.ClassFile.FieldType.boolean)).before args0 about1 = true := code_word (m := ⟨1, 5⟩) (meth := k1m5) (c := k1c5) (by decide +kernel) rfl rfl rfl (by decide +kernel)
def codes1 : List Jvm.Cond := [Jvm.Cond.code x code maxLocals ret, Jvm.Cond.code ({ cls := "com/example/orthogon/orthogon/TriangularSolveUpperPinLaw", name := "f", desc := "(JI)I" } : Jvm.MethodName) method_2_code (3 : Nat) (Option.some Jvm.ClassFile.FieldType.int), Jvm.Cond.code ({ cls := "com/example/orthogon/orthogon/TriangularSolveUpperPinLaw", name := "diag", desc := "(JI)I" } : Jvm.MethodName) method_3_code (5 : Nat) (Option.some Jvm.ClassFile.FieldType.int), Jvm.Cond.code ({ cls := "com/example/orthogon/orthogon/TriangularSolveUpperPinLaw", name := "rhs", desc := "(IIJJJJJJ)J" } : Jvm.MethodName) method_4_code (16 : Nat) (Option.some Jvm.ClassFile.FieldType.long), Jvm.Cond.code ({ cls := "com/example/orthogon/orthogon/TriangularSolveUpperPinLaw", name := "put", desc := "([DIIIJ)V" } : Jvm.MethodName) method_5_code (6 : Nat) (Option.none : Option Jvm.ClassFile.FieldType), Jvm.Cond.code ({ cls := "com/example/orthogon/orthogon/Triangular", name := "solveUpper", desc := "([DII[DI)V" } : Jvm.MethodName) prog_16_method_3_code (12 : Nat) (Option.none : Option Jvm.ClassFile.FieldType), Jvm.Cond.code ({ cls := "com/example/orthogon/orthogon/TriangularSolveUpperPinLaw", name := "is", desc := "([DIIIJ)Z" } : Jvm.MethodName) method_6_code (6 : Nat) (Option.some Jvm.ClassFile.FieldType.boolean)]
set_option maxRecDepth 65536 in
theorem codes_eq : words1.filter isCode = codes1 := rfl
theorem w_codes : ∀ c ∈ words1.filter isCode, c.before args0 about1 = true := by
  rw [codes_eq]
  intro c hc
  simp only [codes1, List.mem_cons, List.not_mem_nil, or_false] at hc
  rcases hc with rfl | rfl | rfl | rfl | rfl | rfl | rfl
  · exact w_c0
  · exact w_c1
  · exact w_c2
  · exact w_c3
  · exact w_c4
  · exact w_c5
  · exact w_c6
set_option maxRecDepth 65536 in
theorem w_t1 : words1.all (fun c => isCode c || c.before args0 about1) = true := by decide +kernel
theorem w_tables : (allAtoms (Jvm.Cond.code x code maxLocals ret :: tables_1)).before args0 about1 = true := by
  rw [allAtoms_all]
  show words1.all (fun c => c.before args0 about1) = true
  refine all_split ?_ w_codes
  rw [w_t1]
set_option maxRecDepth 65536 in
theorem w_case : (Jvm.Cond.and given_1 narrow_1).before args0 about1 = true := by decide +kernel
theorem w_applies : (headSpec (Jvm.Cond.code x code maxLocals ret :: tables_1) room_1).applies x e0.platform about1 = true :=
  (Spec.applies_iff w_frames).mpr ⟨w_running, w_runnable, w_alone, w_named, w_hears, w_ripe, w_room, w_tables⟩
theorem atStart : AtStart classFile x code maxLocals ret World_1 tables_1 room_1 Calls_1 rest_1 Pre_1 launch0 p0 e0 about1 theMethod args0 below0 :=
  ⟨lists_1, trivial, launch0.admits_env _ _ _, launch0.least_env, fairChoices_fair.cas, fairChoices_fair.clock, w_frames, w_args, w_heap, w_applies, trivial, trivial, w_case⟩
end start1
theorem witness_1 : WitnessClaimed_1 := ⟨start1.p0, start1.e0, start1.about1, start1.theMethod, start1.args0, start1.below0, start1.atStart⟩
end Jvm.Pilot.@@N@@
